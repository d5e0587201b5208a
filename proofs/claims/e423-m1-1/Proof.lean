import JvmDerived
import JvmDerived.Pilot.@@N@@Statement
import JvmDerived.Pilot.@@N@@Code
set_option linter.unusedVariables false
set_option linter.unusedSimpArgs false
namespace Jvm.Pilot.@@N@@
open Jvm Jvm.ClassFile Sem Op Lib Jvm.Free Jvm.Stand Jvm.LawKit Jvm.RoadKit Bundle Jvm.Pilot.@@N@@.Jvm.D
/-! ## the plain law: doubles that are whole numbers of halves, of quarters .. -/
/-- the datum times 2 ^ k -/
def own_shift (k : Int) : FP.Core.Datum → FP.Core.Datum
  | .fin s c q => .fin s c (q + k)
  | .inf s => .inf s
  | .nan => .nan
/-- `x` is `i / 2 ^ k` exactly -/
def own_Dy (k : Nat) (i : Int) (x : UInt64) : Prop := FP.Core.Whole i (own_shift k (FP.Core.val64 x))
theorem own_Dy_shape {k : Nat} {i : Int} {x : UInt64} (h : own_Dy k i x) : ∃ s c q, FP.Core.val64 x = .fin s c q ∧ FP.Core.Whole i (.fin s c (q + k)) := by
  unfold own_Dy at h
  cases hv : FP.Core.val64 x with
  | nan => rw [hv] at h; exact h.elim
  | inf s => rw [hv] at h; exact h.elim
  | fin s c q => rw [hv] at h; exact ⟨s, c, q, rfl, h⟩
theorem own_Dy_intro {k : Nat} {i : Int} {x : UInt64} {s : Bool} {c : Nat} {q : Int} (hv : FP.Core.val64 x = .fin s c q) (h : FP.Core.Whole i (.fin s c (q + k))) : own_Dy k i x := by
  unfold own_Dy; rw [hv]; exact h
theorem own_Dy_fin {k : Nat} {i : Int} {x : UInt64} (h : own_Dy k i x) : Fl.Fin64 x := by
  obtain ⟨s, c, q, hv, -⟩ := own_Dy_shape h
  exact Fl.fin64_core.mpr ⟨s, c, q, hv⟩
theorem own_Dy_nn {k : Nat} {i : Int} {x : UInt64} (h : own_Dy k i x) : Fl.NoNaN64 x := (own_Dy_fin h).noNaN
theorem own_Dy_int {i : Int} {x : UInt64} (h : FP.Core.DInt i x) : own_Dy 0 i x := by
  unfold FP.Core.DInt at h
  cases hv : FP.Core.val64 x with
  | nan => rw [hv] at h; exact h.elim
  | inf s => rw [hv] at h; exact h.elim
  | fin s c q =>
    rw [hv] at h
    refine own_Dy_intro hv ?_
    rw [show q + ((0 : Nat) : Int) = q by omega]; exact h
theorem own_Dy_up {k : Nat} {i : Int} {x : UInt64} (h : own_Dy k i x) : own_Dy (k + 1) (2 * i) x := by
  obtain ⟨s, c, q, hv, hw⟩ := own_Dy_shape h
  refine own_Dy_intro hv ?_
  rw [show q + ((k + 1 : Nat) : Int) = (q + k) + 1 by omega]
  generalize q + (k : Int) = r at hw ⊢
  have hw' : FP.Core.signed s (c * 2 ^ r.toNat) = i * ((2 ^ (-r).toNat : Nat) : Int) := hw
  show FP.Core.signed s (c * 2 ^ (r + 1).toNat) = 2 * i * ((2 ^ (-(r + 1)).toNat : Nat) : Int)
  by_cases hr : 0 ≤ r
  · rw [show (r + 1).toNat = r.toNat + 1 by omega, Nat.pow_succ, ← Nat.mul_assoc, FP.Core.signed_mul, hw', show (-r).toNat = 0 by omega, show (-(r + 1)).toNat = 0 by omega]
    omega
  · rw [show (-r).toNat = (-(r + 1)).toNat + 1 by omega, show r.toNat = 0 by omega, Nat.pow_succ, Int.natCast_mul] at hw'
    rw [show (r + 1).toNat = 0 by omega, hw', ← Int.mul_assoc, Int.mul_comm (i * _) _, ← Int.mul_assoc]
    rfl
theorem own_order_shift (k : Int) (a b : FP.Core.Datum) : FP.Core.order (own_shift k a) (own_shift k b) = FP.Core.order a b := by
  cases a with
  | nan => rfl
  | inf s => cases b <;> rfl
  | fin s c q =>
    cases b with
    | nan => rfl
    | inf t => rfl
    | fin t d r =>
      show some (compare (FP.Core.signed s (c * 2 ^ (q + k - min (q + k) (r + k)).toNat)) (FP.Core.signed t (d * 2 ^ (r + k - min (q + k) (r + k)).toNat))) = some (compare (FP.Core.signed s (c * 2 ^ (q - min q r).toNat)) (FP.Core.signed t (d * 2 ^ (r - min q r).toNat)))
      rw [show (q + k - min (q + k) (r + k)).toNat = (q - min q r).toNat by omega, show (r + k - min (q + k) (r + k)).toNat = (r - min q r).toNat by omega]
theorem own_Dy_cmp {k : Nat} {i j : Int} {x y : UInt64} (hx : own_Dy k i x) (hy : own_Dy k j y) : FP.dcmp x y = some (compare i j) := by
  show FP.Core.order (FP.Core.val64 x) (FP.Core.val64 y) = _
  rw [← own_order_shift k]
  exact FP.Core.order_whole hx hy
/-- what a comparison of two such doubles pushes -/
theorem own_cmp {k : Nat} {i j : Int} {x y : UInt64} (hx : own_Dy k i x) (hy : own_Dy k j y) (o : CmpOp) : cmpValue (FP.dcmp x y) o = if i < j then -1 else if i = j then 0 else 1 := by
  rw [own_Dy_cmp hx hy, FP.Core.compare_ite]
  by_cases h1 : i < j
  · rw [if_pos h1, if_pos h1]; rfl
  · rw [if_neg h1, if_neg h1]
    by_cases h2 : i = j
    · rw [if_pos h2, if_pos h2]; rfl
    · rw [if_neg h2, if_neg h2]; rfl
theorem own_sum_shift (k : Int) {s t : Bool} {c d : Nat} {q r : Int} : FP.Core.exactSum (own_shift k (.fin s c q)) (own_shift k (.fin t d r)) = own_shift k (FP.Core.exactSum (.fin s c q) (.fin t d r)) := by
  have h : FP.Core.sumUnits s c (q + k) t d (r + k) (min (q + k) (r + k)) = FP.Core.sumUnits s c q t d r (min q r) := by
    show FP.Core.signed s (c * 2 ^ (q + k - min (q + k) (r + k)).toNat) + FP.Core.signed t (d * 2 ^ (r + k - min (q + k) (r + k)).toNat) = FP.Core.signed s (c * 2 ^ (q - min q r).toNat) + FP.Core.signed t (d * 2 ^ (r - min q r).toNat)
    rw [show (q + k - min (q + k) (r + k)).toNat = (q - min q r).toNat by omega, show (r + k - min (q + k) (r + k)).toNat = (r - min q r).toNat by omega]
  show FP.Core.Datum.fin (FP.Core.sumSign s t (FP.Core.sumUnits s c (q + k) t d (r + k) (min (q + k) (r + k)))) (FP.Core.sumUnits s c (q + k) t d (r + k) (min (q + k) (r + k))).natAbs (min (q + k) (r + k)) = FP.Core.Datum.fin (FP.Core.sumSign s t (FP.Core.sumUnits s c q t d r (min q r))) (FP.Core.sumUnits s c q t d r (min q r)).natAbs (min q r + k)
  rw [h, show min (q + k) (r + k) = min q r + k by omega]
/-- rounding keeps such a number, if it has at most 53 digits -/
theorem own_round {k : Nat} (hk : k ≤ 64) {i : Int} (hi : i.natAbs ≤ 2 ^ 53) {s : Bool} {c : Nat} {q : Int} (h : FP.Core.Whole i (.fin s c (q + k))) : ∃ c' q', FP.Core.round FP.Core.b64 (.fin s c q) = .fin s c' q' ∧ FP.Core.Whole i (.fin s c' (q' + k)) := by
  by_cases h0 : i = 0
  · have hc : c = 0 := (FP.Core.whole_zero h).mpr h0
    subst hc h0
    refine ⟨0, FP.Core.b64.qmin, rfl, ?_⟩
    show FP.Core.signed s (0 * _) = 0 * _
    rw [Nat.zero_mul, Int.zero_mul]; exact FP.Core.signed_zero s
  · have hs := FP.Core.whole_sign h h0
    have hn := FP.Core.whole_natAbs h
    obtain ⟨c', q', hf, hv⟩ := FP.Core.natFit FP.Core.good_b64 FP.Core.wide_b64 s (n := i.natAbs) hi
    have e0 : FP.Core.round FP.Core.b64 (.fin s c q) = FP.Core.roundRatio FP.Core.b64 s i.natAbs 1 (-(k : Int)) := by
      refine FP.Core.roundRatio_congr (by decide) (by decide) ?_
      rw [show (q - -(k : Int)).toNat = (q + k).toNat by congr 1; omega, show (-(k : Int) - q).toNat = (-(q + k)).toNat by congr 1; omega]
      simpa using hn
    rw [show (0 - q').toNat = (-q').toNat by congr 1; omega, show (q' - 0).toNat = q'.toNat by congr 1; omega, Nat.mul_one] at hv
    obtain ⟨f1, f2, f3, f4⟩ := hf
    have f1' : c' < 2 ^ 53 := f1
    have f2' : -1074 ≤ q' := f2
    have f3' : q' ≤ 971 := f3
    have hq : -53 < q' := by
      refine Int.lt_of_not_ge fun hge => ?_
      rw [show q'.toNat = 0 by omega, Nat.pow_zero, Nat.mul_one] at hv
      have p1 : 2 ^ 53 ≤ 2 ^ (-q').toNat := Nat.pow_le_pow_right (by decide) (by omega)
      have p2 : 1 * 2 ^ (-q').toNat ≤ i.natAbs * 2 ^ (-q').toNat := Nat.mul_le_mul_right _ (by omega)
      omega
    have f4' : FP.Core.b64.tails ≤ c' := by
      rcases f4 with f4 | f4
      · have : q' = -1074 := f4
        omega
      · exact f4
    have hf' : FP.Core.fits FP.Core.b64 (.fin s c' (q' - k)) := ⟨f1, by show (-1074 : Int) ≤ q' - k; omega, by show q' - (k : Int) ≤ 971; omega, Or.inr f4'⟩
    refine ⟨c', q' - k, ?_, ?_⟩
    · rw [e0]
      refine FP.Core.roundRatio_exact FP.Core.good_b64 (by decide) hf' ?_
      rw [show (-(k : Int) - (q' - k)).toNat = (-q').toNat by congr 1; omega, show (q' - (k : Int) - -(k : Int)).toNat = q'.toNat by congr 1; omega, Nat.mul_one]
      exact hv
    · rw [show q' - (k : Int) + k = q' by omega]
      show FP.Core.signed s (c' * 2 ^ q'.toNat) = i * ((2 ^ (-q').toNat : Nat) : Int)
      rw [← hv, FP.Core.signed_mul, hs]
      congr 1
      unfold FP.Core.signed
      by_cases hneg : i < 0
      · simp [hneg]; omega
      · simp [hneg]; omega
theorem own_Dy_add {k : Nat} (hk : k ≤ 64) {i j : Int} {x y : UInt64} (hx : own_Dy k i x) (hy : own_Dy k j y) (hi : (i + j).natAbs ≤ 2 ^ 53) : own_Dy k (i + j) (FP.dadd x y) := by
  obtain ⟨s, c, q, hv, hw⟩ := own_Dy_shape hx
  obtain ⟨t, d, r, hv', hw'⟩ := own_Dy_shape hy
  have h1 := FP.Core.whole_sum hw hw'
  rw [show FP.Core.Datum.fin s c (q + k) = own_shift k (.fin s c q) from rfl, show FP.Core.Datum.fin t d (r + k) = own_shift k (.fin t d r) from rfl, own_sum_shift] at h1
  have h2 : FP.Core.val64 (FP.dadd x y) = FP.Core.round FP.Core.b64 (FP.Core.exactSum (.fin s c q) (.fin t d r)) := by
    rw [← hv, ← hv']; exact FP.Core.val64_dadd x y
  obtain ⟨c', q', e1, e2⟩ := own_round hk hi (show FP.Core.Whole (i + j) (.fin _ _ (_ + (k : Int))) from h1)
  exact own_Dy_intro (h2.trans e1) e2
/-- division by `2 ^ t`: the divisor's bits stand for `2 ^ 52 * 2 ^ (t - 52)` -/
theorem own_Dy_div {k t : Nat} (hk : k + t ≤ 64) {i : Int} {x y : UInt64} (hy : FP.Core.val64 y = .fin false (2 ^ 52) ((t : Int) - 52)) (hx : own_Dy k i x) (hi : i.natAbs ≤ 2 ^ 53) : own_Dy (k + t) i (FP.ddiv x y) := by
  obtain ⟨s, c, q, hv, hw⟩ := own_Dy_shape hx
  have h1 : FP.Core.val64 (FP.ddiv x y) = FP.Core.quotient FP.Core.b64 (.fin s c q) (.fin false (2 ^ 52) ((t : Int) - 52)) := by
    rw [← hv, ← hy]; exact FP.Core.val64_ddiv x y
  have h2 : FP.Core.quotient FP.Core.b64 (.fin s c q) (.fin false (2 ^ 52) ((t : Int) - 52)) = FP.Core.roundRatio FP.Core.b64 (s != false) c (2 ^ 52) (q - ((t : Int) - 52)) := by
    show (if (2 ^ 52 : Nat) = 0 then (if c = 0 then FP.Core.Datum.nan else .inf (s != false)) else FP.Core.roundRatio FP.Core.b64 (s != false) c (2 ^ 52) (q - ((t : Int) - 52))) = _
    exact if_neg (by decide : ¬ (2 ^ 52 : Nat) = 0)
  have h3 : FP.Core.roundRatio FP.Core.b64 (s != false) c (2 ^ 52) (q - ((t : Int) - 52)) = FP.Core.round FP.Core.b64 (.fin s c (q - t)) := by
    rw [show (s != false) = s by cases s <;> rfl]
    refine FP.Core.roundRatio_congr (by decide) (by decide) ?_
    rw [show (q - ((t : Int) - 52) - (q - t)).toNat = 52 by omega, show (q - (t : Int) - (q - ((t : Int) - 52))).toNat = 0 by omega]
    simp
  obtain ⟨c', q', e1, e2⟩ := own_round (k := k + t) hk hi (s := s) (c := c) (q := q - t) (by rw [show q - (t : Int) + ((k + t : Nat) : Int) = q + k by omega]; exact hw)
  exact own_Dy_intro (h1.trans (h2.trans (h3.trans e1))) e2
theorem own_val_two : FP.Core.val64 4611686018427387904 = .fin false (2 ^ 52) (((1 : Nat) : Int) - 52) := by decide +kernel
theorem own_val_four : FP.Core.val64 4616189618054758400 = .fin false (2 ^ 52) (((2 : Nat) : Int) - 52) := by decide +kernel
theorem own_nn_of {x : UInt64} (h : FP.Core.val64 x ≠ .nan) : Fl.NoNaN64 x := Fl.noNaN64_no.mpr ((FP.Core.notNaN_iff x).mpr h)
/-! ## the plain law of values() -/
theorem own_Kfin : Fl.Fin64 9124292845052624896 := by unfold Fl.Fin64; decide
theorem own_nnK (a : Int32) : Fl.NoNaN64 (FP.dmul (FP.i2d (a >>> ((11 : Int32) &&& 31))) (9124292845052624896 : UInt64)) := Fl.dmul_out (Fl.i2d_fin _) own_Kfin
def own_lo (a z : Int32) (r : UInt64) : Prop := (z = 0 ∧ r = FP.i2d a) ∨ (¬ z = 0 ∧ r = FP.dmul (FP.i2d (a >>> ((11 : Int32) &&& 31))) (9124292845052624896 : UInt64))
def own_hi (a b z : Int32) (r : UInt64) : Prop := (z = 0 ∧ r = FP.i2d b) ∨ (¬ z = 0 ∧ r = FP.dmul (FP.i2d (a >>> ((11 : Int32) &&& 31))) (9124292845052624896 : UInt64))
/-- a + b, halved and cut down, as the law has it -/
def own_half (a b : Int32) : Int64 := (a.toInt64 + b.toInt64) >>> ((1 : Int32).toInt64 &&& 63)
def own_ex (a b z : Int32) (r : UInt64) : Prop :=
  (¬ z = 0 ∧ r = FP.dmul (FP.i2d (a >>> ((11 : Int32) &&& 31))) (9124292845052624896 : UInt64)) ∨
  (z = 0 ∧ XT.cmpL ((a.toInt64 + b.toInt64) &&& (1 : Int64)) (0 : Int64) = 0 ∧ r = FP.l2d ((a.toInt64 + b.toInt64) >>> ((1 : Int32).toInt64 &&& 63))) ∨
  (z = 0 ∧ ¬ XT.cmpL ((a.toInt64 + b.toInt64) &&& (1 : Int64)) (0 : Int64) = 0 ∧ Fl.NoNaN64 (FP.dadd (FP.l2d ((a.toInt64 + b.toInt64) >>> ((1 : Int32).toInt64 &&& 63))) (4602678819172646912 : UInt64)) ∧
    r = FP.dadd (FP.l2d ((a.toInt64 + b.toInt64) >>> ((1 : Int32).toInt64 &&& 63))) (4602678819172646912 : UInt64))
def own_mp (lo up r : UInt64) : Prop :=
  (cmpValue (FP.dcmp lo up) .l = 0 ∧ r = lo) ∨
  (¬ cmpValue (FP.dcmp lo up) .l = 0 ∧ Fl.NoNaN64 (FP.dadd lo up) ∧ Fl.NoNaN64 (FP.ddiv (FP.dadd lo up) (4611686018427387904 : UInt64)) ∧ r = FP.ddiv (FP.dadd lo up) (4611686018427387904 : UInt64))
theorem own_sum (a b : Int32) : (a.toInt64 + b.toInt64).toInt = a.toInt + b.toInt := by
  have h1 := a.toInt_lt
  have h2 := a.le_toInt
  have h3 := b.toInt_lt
  have h4 := b.le_toInt
  have e1 : a.toInt64.toInt = a.toInt := Int32.toInt_toInt64 a
  have e2 : b.toInt64.toInt = b.toInt := Int32.toInt_toInt64 b
  rw [FP.Core.int64_add (by rw [e1, e2]; omega) (by rw [e1, e2]; omega), e1, e2]
theorem own_lcmp0 (x : Int64) : XT.cmpL x 0 = 0 ↔ x = 0 := by
  rw [show XT.cmpL x 0 = if 0 < x then 1 else if x = 0 then 0 else -1 from rfl]
  by_cases h : 0 < x
  · rw [if_pos h]
    refine ⟨fun q => absurd q (by decide), fun q => ?_⟩
    rw [q] at h; exact absurd h (by decide)
  · rw [if_neg h]
    by_cases g : x = 0
    · rw [if_pos g]; exact ⟨fun _ => g, fun _ => rfl⟩
    · rw [if_neg g]; exact ⟨fun q => absurd q (by decide), fun q => absurd q g⟩
theorem own_odd (s : Int64) : XT.cmpL (s &&& 1) 0 = 0 ↔ s.toInt % 2 = 0 := by
  rw [own_lcmp0, ← Int64.toInt_inj, c_maskL s 1 1 (by decide) (by decide)]
  rfl
theorem own_shr (s : Int64) : (s >>> ((1 : Int32).toInt64 &&& 63)).toInt = s.toInt / 2 := by
  rw [show ((1 : Int32).toInt64 &&& 63) = ((1 : Int32) &&& 0x3f).toInt64 by decide]
  exact c_lshr s 1 1 (by decide)
theorem own_halfD : own_Dy 1 1 4602678819172646912 := by
  refine own_Dy_intro (s := false) (c := 2 ^ 52) (q := -53) (by decide +kernel) ?_
  show FP.Core.signed false (2 ^ 52 * 2 ^ (-53 + ((1 : Nat) : Int)).toNat) = 1 * ((2 ^ (-(-53 + ((1 : Nat) : Int))).toNat : Nat) : Int)
  decide +kernel
/-- one place of the arrays: what lo, hi, values and expected make of it -/
theorem own_el (a b z : Int32) : ∃ lo up r ex, own_lo a z lo ∧ own_hi a b z up ∧ own_ex a b z ex ∧ own_mp lo up r ∧ cmpValue (FP.dcmp r ex) .l = 0 := by
  by_cases hz : z = 0
  · have h1 := a.toInt_lt
    have h2 := a.le_toInt
    have h3 := b.toInt_lt
    have h4 := b.le_toInt
    have da := own_Dy_int (FP.Core.i2d_int a)
    have db := own_Dy_int (FP.Core.i2d_int b)
    have c1 := own_cmp da db .l
    have hs := own_sum a b
    -- expected
    obtain ⟨ex, hex, dex⟩ : ∃ ex, own_ex a b z ex ∧ own_Dy 1 (a.toInt + b.toInt) ex := by
      have sh := own_shr (a.toInt64 + b.toInt64)
      rw [hs] at sh
      have dh : FP.Core.DInt _ (FP.l2d ((a.toInt64 + b.toInt64) >>> ((1 : Int32).toInt64 &&& 63))) := FP.Core.l2d_int (by rw [sh]; omega)
      rw [sh] at dh
      have du := own_Dy_up (own_Dy_int dh)
      by_cases ho : XT.cmpL ((a.toInt64 + b.toInt64) &&& (1 : Int64)) (0 : Int64) = 0
      · have ho' := (own_odd _).mp ho
        rw [hs] at ho'
        refine ⟨_, Or.inr (Or.inl ⟨hz, ho, rfl⟩), ?_⟩
        rw [show a.toInt + b.toInt = 2 * ((a.toInt + b.toInt) / 2) by omega]
        exact du
      · have ho' : ¬ (a.toInt64 + b.toInt64).toInt % 2 = 0 := fun q => ho ((own_odd _).mpr q)
        rw [hs] at ho'
        have dd := own_Dy_add (k := 1) (by decide) du own_halfD (by omega)
        refine ⟨_, Or.inr (Or.inr ⟨hz, ho, own_Dy_nn dd, rfl⟩), ?_⟩
        rw [show a.toInt + b.toInt = 2 * ((a.toInt + b.toInt) / 2) + 1 by omega]
        exact dd
    by_cases h : a.toInt = b.toInt
    · refine ⟨_, _, FP.i2d a, ex, Or.inl ⟨hz, rfl⟩, Or.inl ⟨hz, rfl⟩, hex, Or.inl ⟨?_, rfl⟩, ?_⟩
      · rw [c1, if_neg (by omega), if_pos h]
      · rw [own_cmp (own_Dy_up da) dex, if_neg (by omega), if_pos (by omega)]
    · have n1 : ¬ cmpValue (FP.dcmp (FP.i2d a) (FP.i2d b)) .l = 0 := by
        rw [c1]
        by_cases g : a.toInt < b.toInt
        · rw [if_pos g]; decide
        · rw [if_neg g, if_neg h]; decide
      have s1 := own_Dy_add (k := 0) (by decide) da db (by omega)
      have s2 : own_Dy 1 (a.toInt + b.toInt) _ := own_Dy_div (k := 0) (t := 1) (by decide) own_val_two s1 (by omega)
      refine ⟨_, _, _, ex, Or.inl ⟨hz, rfl⟩, Or.inl ⟨hz, rfl⟩, hex, Or.inr ⟨n1, own_Dy_nn s1, own_Dy_nn s2, rfl⟩, ?_⟩
      rw [own_cmp s2 dex, if_neg (by omega), if_pos rfl]
  · have hc := dcmpV_self (own_nnK a) .l
    exact ⟨_, _, _, _, Or.inr ⟨hz, rfl⟩, Or.inr ⟨hz, rfl⟩, Or.inl ⟨hz, rfl⟩, Or.inl ⟨hc, rfl⟩, hc⟩
theorem pn0 : plainName "com/example/umbel/umbel/check/ValueBoundsValuesPinLaw" = true := by first | (simp [plainName, overriddenIn]; done) | decide +kernel
theorem pn1 : plainName "com/example/umbel/umbel/check/ValueBounds" = true := by first | (simp [plainName, overriddenIn]; done) | decide +kernel
/-! ## lo -/
theorem d1_0 : decode method_2_code 0 = .ok (.iload_n 1, 1) := by decide +kernel
theorem d1_1 : decode method_2_code 1 = .ok (.ifCond .eq 13, 3) := by decide +kernel
theorem d1_4 : decode method_2_code 4 = .ok (.iload_n 0, 1) := by decide +kernel
theorem d1_5 : decode method_2_code 5 = .ok (.bipush 11, 2) := by decide +kernel
theorem d1_7 : decode method_2_code 7 = .ok (.ishr, 1) := by decide +kernel
theorem d1_8 : decode method_2_code 8 = .ok (.i2d, 1) := by decide +kernel
theorem d1_9 : decode method_2_code 9 = .ok (.ldc2_w 7, 3) := by decide +kernel
theorem d1_12 : decode method_2_code 12 = .ok (.dmul, 1) := by decide +kernel
theorem d1_13 : decode method_2_code 13 = .ok (.dreturn, 1) := by decide +kernel
theorem d1_14 : decode method_2_code 14 = .ok (.iload_n 0, 1) := by decide +kernel
theorem d1_15 : decode method_2_code 15 = .ok (.i2d, 1) := by decide +kernel
theorem d1_16 : decode method_2_code 16 = .ok (.dreturn, 1) := by decide +kernel
theorem pd1 : parseMethodDescriptor "(IZ)D" = some ⟨[.int, .boolean], (some .double)⟩ := by decide +kernel
theorem ef1 (m : MethodId) (a : Int32) (z : Int32) : entryFrame m #[(.int a), (.int z)] 2 = mkF m 0 #[.val (.int a), .val (.int z)] [] := by first | (simp [entryFrame, mkF, argsToLocals, Value.category]; done) | rfl
def Q1 (Z : State) (a : Int32) (z : Int32) (r : UInt64) (h0 : Heap) (n0 : Nat) (v : Option Value) (h : Heap) (L : List Loc) : Prop := v = some (.double r) ∧ Fr n0 L ∧ h = h0
set_option maxRecDepth 65536 in
set_option maxHeartbeats 40000000 in
theorem rm1 (l : Launch) (Z : State) (a0 : Array Value) (hw : ∀ d ∈ tables_1, d.before a0 Z = true) (ws : List Jvm.Cond) (a : Int32) (z : Int32) (r : UInt64) (h0 : Heap) (n0 : Nat) (Z0 : n0 ≤ h0.size) (h3 : own_lo a z r) :
    MetFree l (⟨"com/example/umbel/umbel/check/ValueBoundsValuesPinLaw", "lo", "(IZ)D"⟩ : MethodName) (head1 (Jvm.Cond.code (⟨"com/example/umbel/umbel/check/ValueBoundsValuesPinLaw", "lo", "(IZ)D"⟩ : MethodName) method_2_code 2 (some .double) :: ws) ({ frames := 0, cells := 0, slots := 0, locals := 0 } : Room)) (fun aa U => aa = #[(.int a), (.int z)] ∧ Z.Warmed39 U.vm ∧ U.heap = h0) (fun _ _ _ _ _ => True) (fun _ U o U' => ∃ v L, o = .returned v ∧ Q1 Z a z r h0 n0 v U'.heap L ∧ FrameEnd U o U' L ({ frames := 0, cells := 0, slots := 0, locals := 0 } : Room).cells ({ frames := 0, cells := 0, slots := 0, locals := 0 } : Room).slots) := by
  refine MetFree.of_bodySF (plainFor_of_name pn0) hisR ?_
  intro p e s m args below meth c s₁ Bd hml0 hP hK
  obtain ⟨rfl, hZ, hh⟩ := hP
  have hx := Bd.exec
  have hby := Bd.bytes
  have hml : c.maxLocals = 2 := hml0
  have hown : s.vm.findClass "com/example/umbel/umbel/check/ValueBoundsValuesPinLaw" = some m.cls := findClass_of_methodNamed Bd.named
  have hnm := (name_of_methodNamed Bd.named Bd.method).1
  have X0 : Stand p l e ({ frames := 0, cells := 0, slots := 0, locals := 0 } : Room) s m #[(.int a), (.int z)] below meth c s₁ [] 0 0 := Stand.of_body Bd
  have e0 : s₁.heap = h0 := by rw [← hh, Bd.state]; rfl
  have N0 := Fr.nil n0
  have pre0 : ∀ t, Steps p.tables e below (s₁.setTop (mkF m 0 #[.val (.int a), .val (.int z)] [])) t → Steps p.tables e below (s₁.setTop (entryFrame m #[(.int a), (.int z)] 2)) t := fun t k => castTop (ef1 m a z) k
  obtain ⟨fs, hr, hrun, hended, hW, hsame⟩ := X0.leave (v := some (.double r)) (fun h => by rw [Bd.returns] at h; cases h)
  refine ⟨_, _, pre0 _ ?_, hrun, hended, _, _, rfl, ?_, ⟨_, rfl⟩, hW, hsame.mono (by decide) (by decide)⟩
  · rcases h3 with ⟨c, hrx⟩ | ⟨c, hrx⟩
    · rw [hrx] at hr
      show Steps p.tables e below (s₁.setTop (mkF m 0 #[.val (.int a), .val (.int z)] [])) _
      refine XS.iloadN X0.here hx rfl (hb hby d1_0) rfl ?_
      show Steps p.tables e below (s₁.setTop (mkF m 1 #[.val (.int a), .val (.int z)] [(.int z)])) _
      refine XS.ifYes X0.here hx rfl (pc0 := 1) (pc' := 14) rfl (hb hby d1_1) rfl ((if0 _ _).trans (teq c).1) (by decide) (by decide) ?_
      show Steps p.tables e below (s₁.setTop (mkF m 14 #[.val (.int a), .val (.int z)] [])) _
      refine XS.iloadN X0.here hx rfl (hb hby d1_14) rfl ?_
      show Steps p.tables e below (s₁.setTop (mkF m 15 #[.val (.int a), .val (.int z)] [(.int a)])) _
      refine XS.i2dS X0.here hx rfl (hb hby d1_15) rfl rfl ?_
      show Steps p.tables e below (s₁.setTop (mkF m 16 #[.val (.int a), .val (.int z)] [(.double (FP.i2d a))])) _
      exact retOut X0 hx Bd.returns rfl (Or.inr (Or.inr (Or.inl ⟨rfl, rfl, _, rfl⟩))) (hb hby d1_16) hr
    · rw [hrx] at hr
      show Steps p.tables e below (s₁.setTop (mkF m 0 #[.val (.int a), .val (.int z)] [])) _
      refine XS.iloadN X0.here hx rfl (hb hby d1_0) rfl ?_
      show Steps p.tables e below (s₁.setTop (mkF m 1 #[.val (.int a), .val (.int z)] [(.int z)])) _
      refine XS.ifNo X0.here hx rfl (hb hby d1_1) rfl ((if0 _ _).trans (feq c).1) ?_
      show Steps p.tables e below (s₁.setTop (mkF m 4 #[.val (.int a), .val (.int z)] [])) _
      refine XS.iloadN X0.here hx rfl (hb hby d1_4) rfl ?_
      show Steps p.tables e below (s₁.setTop (mkF m 5 #[.val (.int a), .val (.int z)] [(.int a)])) _
      refine XS.bipush X0.here hx rfl (hb hby d1_5) ?_
      show Steps p.tables e below (s₁.setTop (mkF m 7 #[.val (.int a), .val (.int z)] [(.int (11 : Int32)), (.int a)])) _
      refine XT.ishr X0.here hx rfl (hb hby d1_7) rfl ?_
      show Steps p.tables e below (s₁.setTop (mkF m 8 #[.val (.int a), .val (.int z)] [(.int (a >>> ((11 : Int32) &&& 31)))])) _
      refine XS.i2dS X0.here hx rfl (hb hby d1_8) rfl rfl ?_
      show Steps p.tables e below (s₁.setTop (mkF m 9 #[.val (.int a), .val (.int z)] [(.double (FP.i2d (a >>> ((11 : Int32) &&& 31))))])) _
      refine X0.ldc2DoubleC hx hown (mvT hZ (hw _ (List.mem_of_getElem? (i := 33) rfl))) (g := (mkF m 9 #[.val (.int a), .val (.int z)] [(.double (FP.i2d (a >>> ((11 : Int32) &&& 31))))])) rfl (hb hby d1_9) _ ?_
      show Steps p.tables e below (s₁.setTop (mkF m 12 #[.val (.int a), .val (.int z)] [(.double (9124292845052624896 : UInt64)), (.double (FP.i2d (a >>> ((11 : Int32) &&& 31))))])) _
      refine XS.dmulS X0.here hx rfl (hb hby d1_12) rfl (own_nnK a) rfl ?_
      show Steps p.tables e below (s₁.setTop (mkF m 13 #[.val (.int a), .val (.int z)] [(.double (FP.dmul (FP.i2d (a >>> ((11 : Int32) &&& 31))) (9124292845052624896 : UInt64)))])) _
      exact retOut X0 hx Bd.returns rfl (Or.inr (Or.inr (Or.inl ⟨rfl, rfl, _, rfl⟩))) (hb hby d1_13) hr
  · show Q1 Z a z r h0 n0 _ s₁.heap _
    rw [e0]
    exact ⟨rfl, N0, rfl⟩
/-! ## hi -/
theorem d2_0 : decode method_3_code 0 = .ok (.iload_n 2, 1) := by decide +kernel
theorem d2_1 : decode method_3_code 1 = .ok (.ifCond .eq 13, 3) := by decide +kernel
theorem d2_4 : decode method_3_code 4 = .ok (.iload_n 0, 1) := by decide +kernel
theorem d2_5 : decode method_3_code 5 = .ok (.bipush 11, 2) := by decide +kernel
theorem d2_7 : decode method_3_code 7 = .ok (.ishr, 1) := by decide +kernel
theorem d2_8 : decode method_3_code 8 = .ok (.i2d, 1) := by decide +kernel
theorem d2_9 : decode method_3_code 9 = .ok (.ldc2_w 7, 3) := by decide +kernel
theorem d2_12 : decode method_3_code 12 = .ok (.dmul, 1) := by decide +kernel
theorem d2_13 : decode method_3_code 13 = .ok (.dreturn, 1) := by decide +kernel
theorem d2_14 : decode method_3_code 14 = .ok (.iload_n 1, 1) := by decide +kernel
theorem d2_15 : decode method_3_code 15 = .ok (.i2d, 1) := by decide +kernel
theorem d2_16 : decode method_3_code 16 = .ok (.dreturn, 1) := by decide +kernel
theorem pd2 : parseMethodDescriptor "(IIZ)D" = some ⟨[.int, .int, .boolean], (some .double)⟩ := by decide +kernel
theorem ef2 (m : MethodId) (a : Int32) (b : Int32) (z : Int32) : entryFrame m #[(.int a), (.int b), (.int z)] 3 = mkF m 0 #[.val (.int a), .val (.int b), .val (.int z)] [] := by first | (simp [entryFrame, mkF, argsToLocals, Value.category]; done) | rfl
def Q2 (Z : State) (a : Int32) (b : Int32) (z : Int32) (r : UInt64) (h0 : Heap) (n0 : Nat) (v : Option Value) (h : Heap) (L : List Loc) : Prop := v = some (.double r) ∧ Fr n0 L ∧ h = h0
set_option maxRecDepth 65536 in
set_option maxHeartbeats 40000000 in
theorem rm2 (l : Launch) (Z : State) (a0 : Array Value) (hw : ∀ d ∈ tables_1, d.before a0 Z = true) (ws : List Jvm.Cond) (a : Int32) (b : Int32) (z : Int32) (r : UInt64) (h0 : Heap) (n0 : Nat) (Z0 : n0 ≤ h0.size) (h3 : own_hi a b z r) :
    MetFree l (⟨"com/example/umbel/umbel/check/ValueBoundsValuesPinLaw", "hi", "(IIZ)D"⟩ : MethodName) (head1 (Jvm.Cond.code (⟨"com/example/umbel/umbel/check/ValueBoundsValuesPinLaw", "hi", "(IIZ)D"⟩ : MethodName) method_3_code 3 (some .double) :: ws) ({ frames := 0, cells := 0, slots := 0, locals := 0 } : Room)) (fun aa U => aa = #[(.int a), (.int b), (.int z)] ∧ Z.Warmed39 U.vm ∧ U.heap = h0) (fun _ _ _ _ _ => True) (fun _ U o U' => ∃ v L, o = .returned v ∧ Q2 Z a b z r h0 n0 v U'.heap L ∧ FrameEnd U o U' L ({ frames := 0, cells := 0, slots := 0, locals := 0 } : Room).cells ({ frames := 0, cells := 0, slots := 0, locals := 0 } : Room).slots) := by
  refine MetFree.of_bodySF (plainFor_of_name pn0) hisR ?_
  intro p e s m args below meth c s₁ Bd hml0 hP hK
  obtain ⟨rfl, hZ, hh⟩ := hP
  have hx := Bd.exec
  have hby := Bd.bytes
  have hml : c.maxLocals = 3 := hml0
  have hown : s.vm.findClass "com/example/umbel/umbel/check/ValueBoundsValuesPinLaw" = some m.cls := findClass_of_methodNamed Bd.named
  have hnm := (name_of_methodNamed Bd.named Bd.method).1
  have X0 : Stand p l e ({ frames := 0, cells := 0, slots := 0, locals := 0 } : Room) s m #[(.int a), (.int b), (.int z)] below meth c s₁ [] 0 0 := Stand.of_body Bd
  have e0 : s₁.heap = h0 := by rw [← hh, Bd.state]; rfl
  have N0 := Fr.nil n0
  have pre0 : ∀ t, Steps p.tables e below (s₁.setTop (mkF m 0 #[.val (.int a), .val (.int b), .val (.int z)] [])) t → Steps p.tables e below (s₁.setTop (entryFrame m #[(.int a), (.int b), (.int z)] 3)) t := fun t k => castTop (ef2 m a b z) k
  obtain ⟨fs, hr, hrun, hended, hW, hsame⟩ := X0.leave (v := some (.double r)) (fun h => by rw [Bd.returns] at h; cases h)
  refine ⟨_, _, pre0 _ ?_, hrun, hended, _, _, rfl, ?_, ⟨_, rfl⟩, hW, hsame.mono (by decide) (by decide)⟩
  · rcases h3 with ⟨c, hrx⟩ | ⟨c, hrx⟩
    · rw [hrx] at hr
      show Steps p.tables e below (s₁.setTop (mkF m 0 #[.val (.int a), .val (.int b), .val (.int z)] [])) _
      refine XS.iloadN X0.here hx rfl (hb hby d2_0) rfl ?_
      show Steps p.tables e below (s₁.setTop (mkF m 1 #[.val (.int a), .val (.int b), .val (.int z)] [(.int z)])) _
      refine XS.ifYes X0.here hx rfl (pc0 := 1) (pc' := 14) rfl (hb hby d2_1) rfl ((if0 _ _).trans (teq c).1) (by decide) (by decide) ?_
      show Steps p.tables e below (s₁.setTop (mkF m 14 #[.val (.int a), .val (.int b), .val (.int z)] [])) _
      refine XS.iloadN X0.here hx rfl (hb hby d2_14) rfl ?_
      show Steps p.tables e below (s₁.setTop (mkF m 15 #[.val (.int a), .val (.int b), .val (.int z)] [(.int b)])) _
      refine XS.i2dS X0.here hx rfl (hb hby d2_15) rfl rfl ?_
      show Steps p.tables e below (s₁.setTop (mkF m 16 #[.val (.int a), .val (.int b), .val (.int z)] [(.double (FP.i2d b))])) _
      exact retOut X0 hx Bd.returns rfl (Or.inr (Or.inr (Or.inl ⟨rfl, rfl, _, rfl⟩))) (hb hby d2_16) hr
    · rw [hrx] at hr
      show Steps p.tables e below (s₁.setTop (mkF m 0 #[.val (.int a), .val (.int b), .val (.int z)] [])) _
      refine XS.iloadN X0.here hx rfl (hb hby d2_0) rfl ?_
      show Steps p.tables e below (s₁.setTop (mkF m 1 #[.val (.int a), .val (.int b), .val (.int z)] [(.int z)])) _
      refine XS.ifNo X0.here hx rfl (hb hby d2_1) rfl ((if0 _ _).trans (feq c).1) ?_
      show Steps p.tables e below (s₁.setTop (mkF m 4 #[.val (.int a), .val (.int b), .val (.int z)] [])) _
      refine XS.iloadN X0.here hx rfl (hb hby d2_4) rfl ?_
      show Steps p.tables e below (s₁.setTop (mkF m 5 #[.val (.int a), .val (.int b), .val (.int z)] [(.int a)])) _
      refine XS.bipush X0.here hx rfl (hb hby d2_5) ?_
      show Steps p.tables e below (s₁.setTop (mkF m 7 #[.val (.int a), .val (.int b), .val (.int z)] [(.int (11 : Int32)), (.int a)])) _
      refine XT.ishr X0.here hx rfl (hb hby d2_7) rfl ?_
      show Steps p.tables e below (s₁.setTop (mkF m 8 #[.val (.int a), .val (.int b), .val (.int z)] [(.int (a >>> ((11 : Int32) &&& 31)))])) _
      refine XS.i2dS X0.here hx rfl (hb hby d2_8) rfl rfl ?_
      show Steps p.tables e below (s₁.setTop (mkF m 9 #[.val (.int a), .val (.int b), .val (.int z)] [(.double (FP.i2d (a >>> ((11 : Int32) &&& 31))))])) _
      refine X0.ldc2DoubleC hx hown (mvT hZ (hw _ (List.mem_of_getElem? (i := 33) rfl))) (g := (mkF m 9 #[.val (.int a), .val (.int b), .val (.int z)] [(.double (FP.i2d (a >>> ((11 : Int32) &&& 31))))])) rfl (hb hby d2_9) _ ?_
      show Steps p.tables e below (s₁.setTop (mkF m 12 #[.val (.int a), .val (.int b), .val (.int z)] [(.double (9124292845052624896 : UInt64)), (.double (FP.i2d (a >>> ((11 : Int32) &&& 31))))])) _
      refine XS.dmulS X0.here hx rfl (hb hby d2_12) rfl (own_nnK a) rfl ?_
      show Steps p.tables e below (s₁.setTop (mkF m 13 #[.val (.int a), .val (.int b), .val (.int z)] [(.double (FP.dmul (FP.i2d (a >>> ((11 : Int32) &&& 31))) (9124292845052624896 : UInt64)))])) _
      exact retOut X0 hx Bd.returns rfl (Or.inr (Or.inr (Or.inl ⟨rfl, rfl, _, rfl⟩))) (hb hby d2_13) hr
  · show Q2 Z a b z r h0 n0 _ s₁.heap _
    rw [e0]
    exact ⟨rfl, N0, rfl⟩
/-! ## expected -/
theorem d6_0 : decode method_4_code 0 = .ok (.iload_n 2, 1) := by decide +kernel
theorem d6_1 : decode method_4_code 1 = .ok (.ifCond .eq 13, 3) := by decide +kernel
theorem d6_4 : decode method_4_code 4 = .ok (.iload_n 0, 1) := by decide +kernel
theorem d6_5 : decode method_4_code 5 = .ok (.bipush 11, 2) := by decide +kernel
theorem d6_7 : decode method_4_code 7 = .ok (.ishr, 1) := by decide +kernel
theorem d6_8 : decode method_4_code 8 = .ok (.i2d, 1) := by decide +kernel
theorem d6_9 : decode method_4_code 9 = .ok (.ldc2_w 7, 3) := by decide +kernel
theorem d6_12 : decode method_4_code 12 = .ok (.dmul, 1) := by decide +kernel
theorem d6_13 : decode method_4_code 13 = .ok (.dreturn, 1) := by decide +kernel
theorem d6_14 : decode method_4_code 14 = .ok (.iload_n 0, 1) := by decide +kernel
theorem d6_15 : decode method_4_code 15 = .ok (.i2l, 1) := by decide +kernel
theorem d6_16 : decode method_4_code 16 = .ok (.iload_n 1, 1) := by decide +kernel
theorem d6_17 : decode method_4_code 17 = .ok (.i2l, 1) := by decide +kernel
theorem d6_18 : decode method_4_code 18 = .ok (.ladd, 1) := by decide +kernel
theorem d6_19 : decode method_4_code 19 = .ok (.lstore_n 3, 1) := by decide +kernel
theorem d6_20 : decode method_4_code 20 = .ok (.lload_n 3, 1) := by decide +kernel
theorem d6_21 : decode method_4_code 21 = .ok (.iconst 1, 1) := by decide +kernel
theorem d6_22 : decode method_4_code 22 = .ok (.lshr, 1) := by decide +kernel
theorem d6_23 : decode method_4_code 23 = .ok (.l2d, 1) := by decide +kernel
theorem d6_24 : decode method_4_code 24 = .ok (.dstore 5, 2) := by decide +kernel
theorem d6_26 : decode method_4_code 26 = .ok (.lload_n 3, 1) := by decide +kernel
theorem d6_27 : decode method_4_code 27 = .ok (.lconst 1, 1) := by decide +kernel
theorem d6_28 : decode method_4_code 28 = .ok (.land, 1) := by decide +kernel
theorem d6_29 : decode method_4_code 29 = .ok (.lconst 0, 1) := by decide +kernel
theorem d6_30 : decode method_4_code 30 = .ok (.lcmp, 1) := by decide +kernel
theorem d6_31 : decode method_4_code 31 = .ok (.ifCond .eq 11, 3) := by decide +kernel
theorem d6_34 : decode method_4_code 34 = .ok (.dload 5, 2) := by decide +kernel
theorem d6_36 : decode method_4_code 36 = .ok (.ldc2_w 9, 3) := by decide +kernel
theorem d6_39 : decode method_4_code 39 = .ok (.dadd, 1) := by decide +kernel
theorem d6_40 : decode method_4_code 40 = .ok (.dstore 5, 2) := by decide +kernel
theorem d6_42 : decode method_4_code 42 = .ok (.dload 5, 2) := by decide +kernel
theorem d6_44 : decode method_4_code 44 = .ok (.dreturn, 1) := by decide +kernel
theorem pd6 : parseMethodDescriptor "(IIZ)D" = some ⟨[.int, .int, .boolean], (some .double)⟩ := by decide +kernel
theorem ef6 (m : MethodId) (a : Int32) (b : Int32) (z : Int32) : entryFrame m #[(.int a), (.int b), (.int z)] 7 = mkF m 0 #[.val (.int a), .val (.int b), .val (.int z), .unset, .unset, .unset, .unset] [] := by first | (simp [entryFrame, mkF, argsToLocals, Value.category]; done) | rfl
def Q6 (Z : State) (a : Int32) (b : Int32) (z : Int32) (r : UInt64) (h0 : Heap) (n0 : Nat) (v : Option Value) (h : Heap) (L : List Loc) : Prop := v = some (.double r) ∧ Fr n0 L ∧ h = h0
set_option maxRecDepth 65536 in
set_option maxHeartbeats 40000000 in
theorem rm6 (l : Launch) (Z : State) (a0 : Array Value) (hw : ∀ d ∈ tables_1, d.before a0 Z = true) (ws : List Jvm.Cond) (a : Int32) (b : Int32) (z : Int32) (r : UInt64) (h0 : Heap) (n0 : Nat) (Z0 : n0 ≤ h0.size) (h3 : own_ex a b z r) :
    MetFree l (⟨"com/example/umbel/umbel/check/ValueBoundsValuesPinLaw", "expected", "(IIZ)D"⟩ : MethodName) (head1 (Jvm.Cond.code (⟨"com/example/umbel/umbel/check/ValueBoundsValuesPinLaw", "expected", "(IIZ)D"⟩ : MethodName) method_4_code 7 (some .double) :: ws) ({ frames := 0, cells := 0, slots := 0, locals := 0 } : Room)) (fun aa U => aa = #[(.int a), (.int b), (.int z)] ∧ Z.Warmed39 U.vm ∧ U.heap = h0) (fun _ _ _ _ _ => True) (fun _ U o U' => ∃ v L, o = .returned v ∧ Q6 Z a b z r h0 n0 v U'.heap L ∧ FrameEnd U o U' L ({ frames := 0, cells := 0, slots := 0, locals := 0 } : Room).cells ({ frames := 0, cells := 0, slots := 0, locals := 0 } : Room).slots) := by
  refine MetFree.of_bodySF (plainFor_of_name pn0) hisR ?_
  intro p e s m args below meth c s₁ Bd hml0 hP hK
  obtain ⟨rfl, hZ, hh⟩ := hP
  have hx := Bd.exec
  have hby := Bd.bytes
  have hml : c.maxLocals = 7 := hml0
  have hown : s.vm.findClass "com/example/umbel/umbel/check/ValueBoundsValuesPinLaw" = some m.cls := findClass_of_methodNamed Bd.named
  have hnm := (name_of_methodNamed Bd.named Bd.method).1
  have X0 : Stand p l e ({ frames := 0, cells := 0, slots := 0, locals := 0 } : Room) s m #[(.int a), (.int b), (.int z)] below meth c s₁ [] 0 0 := Stand.of_body Bd
  have e0 : s₁.heap = h0 := by rw [← hh, Bd.state]; rfl
  have N0 := Fr.nil n0
  have pre0 : ∀ t, Steps p.tables e below (s₁.setTop (mkF m 0 #[.val (.int a), .val (.int b), .val (.int z), .unset, .unset, .unset, .unset] [])) t → Steps p.tables e below (s₁.setTop (entryFrame m #[(.int a), (.int b), (.int z)] 7)) t := fun t k => castTop (ef6 m a b z) k
  obtain ⟨fs, hr, hrun, hended, hW, hsame⟩ := X0.leave (v := some (.double r)) (fun h => by rw [Bd.returns] at h; cases h)
  refine ⟨_, _, pre0 _ ?_, hrun, hended, _, _, rfl, ?_, ⟨_, rfl⟩, hW, hsame.mono (by decide) (by decide)⟩
  · rcases h3 with ⟨c, hrx⟩ | ⟨c, d, hrx⟩ | ⟨c, d, q, hrx⟩
    · rw [hrx] at hr
      show Steps p.tables e below (s₁.setTop (mkF m 0 #[.val (.int a), .val (.int b), .val (.int z), .unset, .unset, .unset, .unset] [])) _
      refine XS.iloadN X0.here hx rfl (hb hby d6_0) rfl ?_
      show Steps p.tables e below (s₁.setTop (mkF m 1 #[.val (.int a), .val (.int b), .val (.int z), .unset, .unset, .unset, .unset] [(.int z)])) _
      refine XS.ifNo X0.here hx rfl (hb hby d6_1) rfl ((if0 _ _).trans (feq c).1) ?_
      show Steps p.tables e below (s₁.setTop (mkF m 4 #[.val (.int a), .val (.int b), .val (.int z), .unset, .unset, .unset, .unset] [])) _
      refine XS.iloadN X0.here hx rfl (hb hby d6_4) rfl ?_
      show Steps p.tables e below (s₁.setTop (mkF m 5 #[.val (.int a), .val (.int b), .val (.int z), .unset, .unset, .unset, .unset] [(.int a)])) _
      refine XS.bipush X0.here hx rfl (hb hby d6_5) ?_
      show Steps p.tables e below (s₁.setTop (mkF m 7 #[.val (.int a), .val (.int b), .val (.int z), .unset, .unset, .unset, .unset] [(.int (11 : Int32)), (.int a)])) _
      refine XT.ishr X0.here hx rfl (hb hby d6_7) rfl ?_
      show Steps p.tables e below (s₁.setTop (mkF m 8 #[.val (.int a), .val (.int b), .val (.int z), .unset, .unset, .unset, .unset] [(.int (a >>> ((11 : Int32) &&& 31)))])) _
      refine XS.i2dS X0.here hx rfl (hb hby d6_8) rfl rfl ?_
      show Steps p.tables e below (s₁.setTop (mkF m 9 #[.val (.int a), .val (.int b), .val (.int z), .unset, .unset, .unset, .unset] [(.double (FP.i2d (a >>> ((11 : Int32) &&& 31))))])) _
      refine X0.ldc2DoubleC hx hown (mvT hZ (hw _ (List.mem_of_getElem? (i := 33) rfl))) (g := (mkF m 9 #[.val (.int a), .val (.int b), .val (.int z), .unset, .unset, .unset, .unset] [(.double (FP.i2d (a >>> ((11 : Int32) &&& 31))))])) rfl (hb hby d6_9) _ ?_
      show Steps p.tables e below (s₁.setTop (mkF m 12 #[.val (.int a), .val (.int b), .val (.int z), .unset, .unset, .unset, .unset] [(.double (9124292845052624896 : UInt64)), (.double (FP.i2d (a >>> ((11 : Int32) &&& 31))))])) _
      refine XS.dmulS X0.here hx rfl (hb hby d6_12) rfl (own_nnK a) rfl ?_
      show Steps p.tables e below (s₁.setTop (mkF m 13 #[.val (.int a), .val (.int b), .val (.int z), .unset, .unset, .unset, .unset] [(.double (FP.dmul (FP.i2d (a >>> ((11 : Int32) &&& 31))) (9124292845052624896 : UInt64)))])) _
      exact retOut X0 hx Bd.returns rfl (Or.inr (Or.inr (Or.inl ⟨rfl, rfl, _, rfl⟩))) (hb hby d6_13) hr
    · rw [hrx] at hr
      show Steps p.tables e below (s₁.setTop (mkF m 0 #[.val (.int a), .val (.int b), .val (.int z), .unset, .unset, .unset, .unset] [])) _
      refine XS.iloadN X0.here hx rfl (hb hby d6_0) rfl ?_
      show Steps p.tables e below (s₁.setTop (mkF m 1 #[.val (.int a), .val (.int b), .val (.int z), .unset, .unset, .unset, .unset] [(.int z)])) _
      refine XS.ifYes X0.here hx rfl (pc0 := 1) (pc' := 14) rfl (hb hby d6_1) rfl ((if0 _ _).trans (teq c).1) (by decide) (by decide) ?_
      show Steps p.tables e below (s₁.setTop (mkF m 14 #[.val (.int a), .val (.int b), .val (.int z), .unset, .unset, .unset, .unset] [])) _
      refine XS.iloadN X0.here hx rfl (hb hby d6_14) rfl ?_
      show Steps p.tables e below (s₁.setTop (mkF m 15 #[.val (.int a), .val (.int b), .val (.int z), .unset, .unset, .unset, .unset] [(.int a)])) _
      refine XT.i2l X0.here hx rfl (hb hby d6_15) rfl ?_
      show Steps p.tables e below (s₁.setTop (mkF m 16 #[.val (.int a), .val (.int b), .val (.int z), .unset, .unset, .unset, .unset] [(.long (a.toInt64))])) _
      refine XS.iloadN X0.here hx rfl (hb hby d6_16) rfl ?_
      show Steps p.tables e below (s₁.setTop (mkF m 17 #[.val (.int a), .val (.int b), .val (.int z), .unset, .unset, .unset, .unset] [(.int b), (.long (a.toInt64))])) _
      refine XT.i2l X0.here hx rfl (hb hby d6_17) rfl ?_
      show Steps p.tables e below (s₁.setTop (mkF m 18 #[.val (.int a), .val (.int b), .val (.int z), .unset, .unset, .unset, .unset] [(.long (b.toInt64)), (.long (a.toInt64))])) _
      refine XT.ladd X0.here hx rfl (hb hby d6_18) rfl ?_
      show Steps p.tables e below (s₁.setTop (mkF m 19 #[.val (.int a), .val (.int b), .val (.int z), .unset, .unset, .unset, .unset] [(.long ((a.toInt64) + (b.toInt64)))])) _
      refine XT.lstoreN X0.here hx rfl (hb hby d6_19) rfl (l' := #[.val (.int a), .val (.int b), .val (.int z), .val (.long ((a.toInt64) + (b.toInt64))), .second, .unset, .unset]) rfl ?_
      show Steps p.tables e below (s₁.setTop (mkF m 20 #[.val (.int a), .val (.int b), .val (.int z), .val (.long ((a.toInt64) + (b.toInt64))), .second, .unset, .unset] [])) _
      refine XT.lloadN X0.here hx rfl (hb hby d6_20) rfl ?_
      show Steps p.tables e below (s₁.setTop (mkF m 21 #[.val (.int a), .val (.int b), .val (.int z), .val (.long ((a.toInt64) + (b.toInt64))), .second, .unset, .unset] [(.long ((a.toInt64) + (b.toInt64)))])) _
      refine XS.iconst X0.here hx rfl (hb hby d6_21) ?_
      show Steps p.tables e below (s₁.setTop (mkF m 22 #[.val (.int a), .val (.int b), .val (.int z), .val (.long ((a.toInt64) + (b.toInt64))), .second, .unset, .unset] [(.int (1 : Int32)), (.long ((a.toInt64) + (b.toInt64)))])) _
      refine XT.lshr X0.here hx rfl (hb hby d6_22) rfl ?_
      show Steps p.tables e below (s₁.setTop (mkF m 23 #[.val (.int a), .val (.int b), .val (.int z), .val (.long ((a.toInt64) + (b.toInt64))), .second, .unset, .unset] [(.long (((a.toInt64) + (b.toInt64)) >>> ((1 : Int32).toInt64 &&& 63)))])) _
      refine XS.l2dS X0.here hx rfl (hb hby d6_23) rfl rfl ?_
      show Steps p.tables e below (s₁.setTop (mkF m 24 #[.val (.int a), .val (.int b), .val (.int z), .val (.long ((a.toInt64) + (b.toInt64))), .second, .unset, .unset] [(.double (FP.l2d (((a.toInt64) + (b.toInt64)) >>> ((1 : Int32).toInt64 &&& 63))))])) _
      refine XS.dstore X0.here hx rfl (hb hby d6_24) rfl (l' := #[.val (.int a), .val (.int b), .val (.int z), .val (.long ((a.toInt64) + (b.toInt64))), .second, .val (.double (FP.l2d (((a.toInt64) + (b.toInt64)) >>> ((1 : Int32).toInt64 &&& 63)))), .second]) rfl ?_
      show Steps p.tables e below (s₁.setTop (mkF m 26 #[.val (.int a), .val (.int b), .val (.int z), .val (.long ((a.toInt64) + (b.toInt64))), .second, .val (.double (FP.l2d (((a.toInt64) + (b.toInt64)) >>> ((1 : Int32).toInt64 &&& 63)))), .second] [])) _
      refine XT.lloadN X0.here hx rfl (hb hby d6_26) rfl ?_
      show Steps p.tables e below (s₁.setTop (mkF m 27 #[.val (.int a), .val (.int b), .val (.int z), .val (.long ((a.toInt64) + (b.toInt64))), .second, .val (.double (FP.l2d (((a.toInt64) + (b.toInt64)) >>> ((1 : Int32).toInt64 &&& 63)))), .second] [(.long ((a.toInt64) + (b.toInt64)))])) _
      refine XT.lconst X0.here hx rfl (hb hby d6_27) ?_
      show Steps p.tables e below (s₁.setTop (mkF m 28 #[.val (.int a), .val (.int b), .val (.int z), .val (.long ((a.toInt64) + (b.toInt64))), .second, .val (.double (FP.l2d (((a.toInt64) + (b.toInt64)) >>> ((1 : Int32).toInt64 &&& 63)))), .second] [(.long (1 : Int64)), (.long ((a.toInt64) + (b.toInt64)))])) _
      refine XT.land X0.here hx rfl (hb hby d6_28) rfl ?_
      show Steps p.tables e below (s₁.setTop (mkF m 29 #[.val (.int a), .val (.int b), .val (.int z), .val (.long ((a.toInt64) + (b.toInt64))), .second, .val (.double (FP.l2d (((a.toInt64) + (b.toInt64)) >>> ((1 : Int32).toInt64 &&& 63)))), .second] [(.long (((a.toInt64) + (b.toInt64)) &&& (1 : Int64)))])) _
      refine XT.lconst X0.here hx rfl (hb hby d6_29) ?_
      show Steps p.tables e below (s₁.setTop (mkF m 30 #[.val (.int a), .val (.int b), .val (.int z), .val (.long ((a.toInt64) + (b.toInt64))), .second, .val (.double (FP.l2d (((a.toInt64) + (b.toInt64)) >>> ((1 : Int32).toInt64 &&& 63)))), .second] [(.long (0 : Int64)), (.long (((a.toInt64) + (b.toInt64)) &&& (1 : Int64)))])) _
      refine XT.lcmp X0.here hx rfl (hb hby d6_30) rfl ?_
      show Steps p.tables e below (s₁.setTop (mkF m 31 #[.val (.int a), .val (.int b), .val (.int z), .val (.long ((a.toInt64) + (b.toInt64))), .second, .val (.double (FP.l2d (((a.toInt64) + (b.toInt64)) >>> ((1 : Int32).toInt64 &&& 63)))), .second] [(.int (XT.cmpL (((a.toInt64) + (b.toInt64)) &&& (1 : Int64)) (0 : Int64)))])) _
      refine XS.ifYes X0.here hx rfl (pc0 := 31) (pc' := 42) rfl (hb hby d6_31) rfl ((if0 _ _).trans (teq d).1) (by decide) (by decide) ?_
      show Steps p.tables e below (s₁.setTop (mkF m 42 #[.val (.int a), .val (.int b), .val (.int z), .val (.long ((a.toInt64) + (b.toInt64))), .second, .val (.double (FP.l2d (((a.toInt64) + (b.toInt64)) >>> ((1 : Int32).toInt64 &&& 63)))), .second] [])) _
      refine XS.dload X0.here hx rfl (hb hby d6_42) rfl ?_
      show Steps p.tables e below (s₁.setTop (mkF m 44 #[.val (.int a), .val (.int b), .val (.int z), .val (.long ((a.toInt64) + (b.toInt64))), .second, .val (.double (FP.l2d (((a.toInt64) + (b.toInt64)) >>> ((1 : Int32).toInt64 &&& 63)))), .second] [(.double (FP.l2d (((a.toInt64) + (b.toInt64)) >>> ((1 : Int32).toInt64 &&& 63))))])) _
      exact retOut X0 hx Bd.returns rfl (Or.inr (Or.inr (Or.inl ⟨rfl, rfl, _, rfl⟩))) (hb hby d6_44) hr
    · rw [hrx] at hr
      show Steps p.tables e below (s₁.setTop (mkF m 0 #[.val (.int a), .val (.int b), .val (.int z), .unset, .unset, .unset, .unset] [])) _
      refine XS.iloadN X0.here hx rfl (hb hby d6_0) rfl ?_
      show Steps p.tables e below (s₁.setTop (mkF m 1 #[.val (.int a), .val (.int b), .val (.int z), .unset, .unset, .unset, .unset] [(.int z)])) _
      refine XS.ifYes X0.here hx rfl (pc0 := 1) (pc' := 14) rfl (hb hby d6_1) rfl ((if0 _ _).trans (teq c).1) (by decide) (by decide) ?_
      show Steps p.tables e below (s₁.setTop (mkF m 14 #[.val (.int a), .val (.int b), .val (.int z), .unset, .unset, .unset, .unset] [])) _
      refine XS.iloadN X0.here hx rfl (hb hby d6_14) rfl ?_
      show Steps p.tables e below (s₁.setTop (mkF m 15 #[.val (.int a), .val (.int b), .val (.int z), .unset, .unset, .unset, .unset] [(.int a)])) _
      refine XT.i2l X0.here hx rfl (hb hby d6_15) rfl ?_
      show Steps p.tables e below (s₁.setTop (mkF m 16 #[.val (.int a), .val (.int b), .val (.int z), .unset, .unset, .unset, .unset] [(.long (a.toInt64))])) _
      refine XS.iloadN X0.here hx rfl (hb hby d6_16) rfl ?_
      show Steps p.tables e below (s₁.setTop (mkF m 17 #[.val (.int a), .val (.int b), .val (.int z), .unset, .unset, .unset, .unset] [(.int b), (.long (a.toInt64))])) _
      refine XT.i2l X0.here hx rfl (hb hby d6_17) rfl ?_
      show Steps p.tables e below (s₁.setTop (mkF m 18 #[.val (.int a), .val (.int b), .val (.int z), .unset, .unset, .unset, .unset] [(.long (b.toInt64)), (.long (a.toInt64))])) _
      refine XT.ladd X0.here hx rfl (hb hby d6_18) rfl ?_
      show Steps p.tables e below (s₁.setTop (mkF m 19 #[.val (.int a), .val (.int b), .val (.int z), .unset, .unset, .unset, .unset] [(.long ((a.toInt64) + (b.toInt64)))])) _
      refine XT.lstoreN X0.here hx rfl (hb hby d6_19) rfl (l' := #[.val (.int a), .val (.int b), .val (.int z), .val (.long ((a.toInt64) + (b.toInt64))), .second, .unset, .unset]) rfl ?_
      show Steps p.tables e below (s₁.setTop (mkF m 20 #[.val (.int a), .val (.int b), .val (.int z), .val (.long ((a.toInt64) + (b.toInt64))), .second, .unset, .unset] [])) _
      refine XT.lloadN X0.here hx rfl (hb hby d6_20) rfl ?_
      show Steps p.tables e below (s₁.setTop (mkF m 21 #[.val (.int a), .val (.int b), .val (.int z), .val (.long ((a.toInt64) + (b.toInt64))), .second, .unset, .unset] [(.long ((a.toInt64) + (b.toInt64)))])) _
      refine XS.iconst X0.here hx rfl (hb hby d6_21) ?_
      show Steps p.tables e below (s₁.setTop (mkF m 22 #[.val (.int a), .val (.int b), .val (.int z), .val (.long ((a.toInt64) + (b.toInt64))), .second, .unset, .unset] [(.int (1 : Int32)), (.long ((a.toInt64) + (b.toInt64)))])) _
      refine XT.lshr X0.here hx rfl (hb hby d6_22) rfl ?_
      show Steps p.tables e below (s₁.setTop (mkF m 23 #[.val (.int a), .val (.int b), .val (.int z), .val (.long ((a.toInt64) + (b.toInt64))), .second, .unset, .unset] [(.long (((a.toInt64) + (b.toInt64)) >>> ((1 : Int32).toInt64 &&& 63)))])) _
      refine XS.l2dS X0.here hx rfl (hb hby d6_23) rfl rfl ?_
      show Steps p.tables e below (s₁.setTop (mkF m 24 #[.val (.int a), .val (.int b), .val (.int z), .val (.long ((a.toInt64) + (b.toInt64))), .second, .unset, .unset] [(.double (FP.l2d (((a.toInt64) + (b.toInt64)) >>> ((1 : Int32).toInt64 &&& 63))))])) _
      refine XS.dstore X0.here hx rfl (hb hby d6_24) rfl (l' := #[.val (.int a), .val (.int b), .val (.int z), .val (.long ((a.toInt64) + (b.toInt64))), .second, .val (.double (FP.l2d (((a.toInt64) + (b.toInt64)) >>> ((1 : Int32).toInt64 &&& 63)))), .second]) rfl ?_
      show Steps p.tables e below (s₁.setTop (mkF m 26 #[.val (.int a), .val (.int b), .val (.int z), .val (.long ((a.toInt64) + (b.toInt64))), .second, .val (.double (FP.l2d (((a.toInt64) + (b.toInt64)) >>> ((1 : Int32).toInt64 &&& 63)))), .second] [])) _
      refine XT.lloadN X0.here hx rfl (hb hby d6_26) rfl ?_
      show Steps p.tables e below (s₁.setTop (mkF m 27 #[.val (.int a), .val (.int b), .val (.int z), .val (.long ((a.toInt64) + (b.toInt64))), .second, .val (.double (FP.l2d (((a.toInt64) + (b.toInt64)) >>> ((1 : Int32).toInt64 &&& 63)))), .second] [(.long ((a.toInt64) + (b.toInt64)))])) _
      refine XT.lconst X0.here hx rfl (hb hby d6_27) ?_
      show Steps p.tables e below (s₁.setTop (mkF m 28 #[.val (.int a), .val (.int b), .val (.int z), .val (.long ((a.toInt64) + (b.toInt64))), .second, .val (.double (FP.l2d (((a.toInt64) + (b.toInt64)) >>> ((1 : Int32).toInt64 &&& 63)))), .second] [(.long (1 : Int64)), (.long ((a.toInt64) + (b.toInt64)))])) _
      refine XT.land X0.here hx rfl (hb hby d6_28) rfl ?_
      show Steps p.tables e below (s₁.setTop (mkF m 29 #[.val (.int a), .val (.int b), .val (.int z), .val (.long ((a.toInt64) + (b.toInt64))), .second, .val (.double (FP.l2d (((a.toInt64) + (b.toInt64)) >>> ((1 : Int32).toInt64 &&& 63)))), .second] [(.long (((a.toInt64) + (b.toInt64)) &&& (1 : Int64)))])) _
      refine XT.lconst X0.here hx rfl (hb hby d6_29) ?_
      show Steps p.tables e below (s₁.setTop (mkF m 30 #[.val (.int a), .val (.int b), .val (.int z), .val (.long ((a.toInt64) + (b.toInt64))), .second, .val (.double (FP.l2d (((a.toInt64) + (b.toInt64)) >>> ((1 : Int32).toInt64 &&& 63)))), .second] [(.long (0 : Int64)), (.long (((a.toInt64) + (b.toInt64)) &&& (1 : Int64)))])) _
      refine XT.lcmp X0.here hx rfl (hb hby d6_30) rfl ?_
      show Steps p.tables e below (s₁.setTop (mkF m 31 #[.val (.int a), .val (.int b), .val (.int z), .val (.long ((a.toInt64) + (b.toInt64))), .second, .val (.double (FP.l2d (((a.toInt64) + (b.toInt64)) >>> ((1 : Int32).toInt64 &&& 63)))), .second] [(.int (XT.cmpL (((a.toInt64) + (b.toInt64)) &&& (1 : Int64)) (0 : Int64)))])) _
      refine XS.ifNo X0.here hx rfl (hb hby d6_31) rfl ((if0 _ _).trans (feq d).1) ?_
      show Steps p.tables e below (s₁.setTop (mkF m 34 #[.val (.int a), .val (.int b), .val (.int z), .val (.long ((a.toInt64) + (b.toInt64))), .second, .val (.double (FP.l2d (((a.toInt64) + (b.toInt64)) >>> ((1 : Int32).toInt64 &&& 63)))), .second] [])) _
      refine XS.dload X0.here hx rfl (hb hby d6_34) rfl ?_
      show Steps p.tables e below (s₁.setTop (mkF m 36 #[.val (.int a), .val (.int b), .val (.int z), .val (.long ((a.toInt64) + (b.toInt64))), .second, .val (.double (FP.l2d (((a.toInt64) + (b.toInt64)) >>> ((1 : Int32).toInt64 &&& 63)))), .second] [(.double (FP.l2d (((a.toInt64) + (b.toInt64)) >>> ((1 : Int32).toInt64 &&& 63))))])) _
      refine X0.ldc2DoubleC hx hown (mvT hZ (hw _ (List.mem_of_getElem? (i := 32) rfl))) (g := (mkF m 36 #[.val (.int a), .val (.int b), .val (.int z), .val (.long ((a.toInt64) + (b.toInt64))), .second, .val (.double (FP.l2d (((a.toInt64) + (b.toInt64)) >>> ((1 : Int32).toInt64 &&& 63)))), .second] [(.double (FP.l2d (((a.toInt64) + (b.toInt64)) >>> ((1 : Int32).toInt64 &&& 63))))])) rfl (hb hby d6_36) _ ?_
      show Steps p.tables e below (s₁.setTop (mkF m 39 #[.val (.int a), .val (.int b), .val (.int z), .val (.long ((a.toInt64) + (b.toInt64))), .second, .val (.double (FP.l2d (((a.toInt64) + (b.toInt64)) >>> ((1 : Int32).toInt64 &&& 63)))), .second] [(.double (4602678819172646912 : UInt64)), (.double (FP.l2d (((a.toInt64) + (b.toInt64)) >>> ((1 : Int32).toInt64 &&& 63))))])) _
      refine XS.daddS X0.here hx rfl (hb hby d6_39) rfl q rfl ?_
      show Steps p.tables e below (s₁.setTop (mkF m 40 #[.val (.int a), .val (.int b), .val (.int z), .val (.long ((a.toInt64) + (b.toInt64))), .second, .val (.double (FP.l2d (((a.toInt64) + (b.toInt64)) >>> ((1 : Int32).toInt64 &&& 63)))), .second] [(.double (FP.dadd (FP.l2d (((a.toInt64) + (b.toInt64)) >>> ((1 : Int32).toInt64 &&& 63))) (4602678819172646912 : UInt64)))])) _
      refine XS.dstore X0.here hx rfl (hb hby d6_40) rfl (l' := #[.val (.int a), .val (.int b), .val (.int z), .val (.long ((a.toInt64) + (b.toInt64))), .second, .val (.double (FP.dadd (FP.l2d (((a.toInt64) + (b.toInt64)) >>> ((1 : Int32).toInt64 &&& 63))) (4602678819172646912 : UInt64))), .second]) rfl ?_
      show Steps p.tables e below (s₁.setTop (mkF m 42 #[.val (.int a), .val (.int b), .val (.int z), .val (.long ((a.toInt64) + (b.toInt64))), .second, .val (.double (FP.dadd (FP.l2d (((a.toInt64) + (b.toInt64)) >>> ((1 : Int32).toInt64 &&& 63))) (4602678819172646912 : UInt64))), .second] [])) _
      refine XS.dload X0.here hx rfl (hb hby d6_42) rfl ?_
      show Steps p.tables e below (s₁.setTop (mkF m 44 #[.val (.int a), .val (.int b), .val (.int z), .val (.long ((a.toInt64) + (b.toInt64))), .second, .val (.double (FP.dadd (FP.l2d (((a.toInt64) + (b.toInt64)) >>> ((1 : Int32).toInt64 &&& 63))) (4602678819172646912 : UInt64))), .second] [(.double (FP.dadd (FP.l2d (((a.toInt64) + (b.toInt64)) >>> ((1 : Int32).toInt64 &&& 63))) (4602678819172646912 : UInt64)))])) _
      exact retOut X0 hx Bd.returns rfl (Or.inr (Or.inr (Or.inl ⟨rfl, rfl, _, rfl⟩))) (hb hby d6_44) hr
  · show Q6 Z a b z r h0 n0 _ s₁.heap _
    rw [e0]
    exact ⟨rfl, N0, rfl⟩
/-! ## the constructor (rows printed by lawwalk): with values, and with null -/
theorem pd3 : parseMethodDescriptor "([D[D[D)V" = some ⟨[(.array .double), (.array .double), (.array .double)], none⟩ := by decide +kernel
theorem d3_0 : decode prog_20_method_2_code 0 = .ok (.aload_n 0, 1) := by decide +kernel
theorem d3_1 : decode prog_20_method_2_code 1 = .ok (.invokespecial 7, 3) := by decide +kernel
theorem d3_4 : decode prog_20_method_2_code 4 = .ok (.aload_n 0, 1) := by decide +kernel
theorem d3_5 : decode prog_20_method_2_code 5 = .ok (.aload_n 1, 1) := by decide +kernel
theorem d3_6 : decode prog_20_method_2_code 6 = .ok (.putfield 12, 3) := by decide +kernel
theorem d3_9 : decode prog_20_method_2_code 9 = .ok (.aload_n 0, 1) := by decide +kernel
theorem d3_10 : decode prog_20_method_2_code 10 = .ok (.aload_n 2, 1) := by decide +kernel
theorem d3_11 : decode prog_20_method_2_code 11 = .ok (.putfield 16, 3) := by decide +kernel
theorem d3_14 : decode prog_20_method_2_code 14 = .ok (.aload_n 0, 1) := by decide +kernel
theorem d3_15 : decode prog_20_method_2_code 15 = .ok (.aload_n 3, 1) := by decide +kernel
theorem d3_16 : decode prog_20_method_2_code 16 = .ok (.putfield 19, 3) := by decide +kernel
theorem d3_19 : decode prog_20_method_2_code 19 = .ok (.return_, 1) := by decide +kernel
theorem pn_3 : plainName "com/example/umbel/umbel/check/ValueBounds" = true := by first | (simp [plainName, overriddenIn]; done) | decide +kernel
theorem ef_3 (m : MethodId) (x0 : Addr) (x1 : Addr) (x2 : Addr) (x3 : Addr) : entryFrame m #[(.ref x0), (.ref x1), (.ref x2), (.ref x3)] 4 = mkF m 0 #[.val (.ref x0), .val (.ref x1), .val (.ref x2), .val (.ref x3)] [] := by first | (simp [entryFrame, mkF, argsToLocals, Value.category]; done) | rfl
def Q3 (Z : State) (a1 : Addr) (a2 : Addr) (a3 : Addr) (a4 : Addr) (u_lower_a1 : Value) (u_values_a1 : Value) (u_upper_a1 : Value) (h0 : Heap) (n0 : Nat) (v : Option Value) (h : Heap) (L : List Loc) : Prop := v = none ∧ Fr n0 L ∧ Keep h0 h [a1] ∧ Exa Z h a1 "com/example/umbel/umbel/check/ValueBounds" ∧ Fld Z h a1 "com/example/umbel/umbel/check/ValueBounds" "lower" "[D" (.ref a2) ∧ Fld Z h a1 "com/example/umbel/umbel/check/ValueBounds" "values" "[D" (.ref a3) ∧ Fld Z h a1 "com/example/umbel/umbel/check/ValueBounds" "upper" "[D" (.ref a4)
set_option maxRecDepth 65536 in
set_option maxHeartbeats 40000000 in
theorem rm3 (l : Launch) (Z : State) (a0 : Array Value) (hw : ∀ d ∈ tables_1, d.before a0 Z = true) (ws : List Jvm.Cond) (a1 : Addr) (a2 : Addr) (a3 : Addr) (a4 : Addr) (u_lower_a1 : Value) (u_values_a1 : Value) (u_upper_a1 : Value) (h0 : Heap) (n0 : Nat) (Z0 : n0 ≤ h0.size) (E_a1 : Exa Z h0 a1 "com/example/umbel/umbel/check/ValueBounds") (F_lower_a1 : Fld Z h0 a1 "com/example/umbel/umbel/check/ValueBounds" "lower" "[D" u_lower_a1) (g_a1 : n0 ≤ a1) (F_values_a1 : Fld Z h0 a1 "com/example/umbel/umbel/check/ValueBounds" "values" "[D" u_values_a1) (F_upper_a1 : Fld Z h0 a1 "com/example/umbel/umbel/check/ValueBounds" "upper" "[D" u_upper_a1) :
    MetFree l (⟨"com/example/umbel/umbel/check/ValueBounds", "<init>", "([D[D[D)V"⟩ : MethodName) (head1 (Jvm.Cond.code (⟨"com/example/umbel/umbel/check/ValueBounds", "<init>", "([D[D[D)V"⟩ : MethodName) prog_20_method_2_code 4 none :: ws) ({ frames := 1, cells := 0, slots := 0, locals := 12 } : Room)) (fun a U => a = #[(.ref a1), (.ref a2), (.ref a3), (.ref a4)] ∧ Z.Warmed39 U.vm ∧ U.heap = h0) (fun _ _ _ _ _ => True) (fun _ U o U' => ∃ v L, o = .returned v ∧ Q3 Z a1 a2 a3 a4 u_lower_a1 u_values_a1 u_upper_a1 h0 n0 v U'.heap L ∧ FrameEnd U o U' L ({ frames := 1, cells := 0, slots := 0, locals := 12 } : Room).cells ({ frames := 1, cells := 0, slots := 0, locals := 12 } : Room).slots) := by
  refine MetFree.of_bodySF (plainFor_of_name pn_3) hisR ?_
  intro p e s m args below meth c s₁ Bd hml0 hP hK
  obtain ⟨rfl, hZ, hh⟩ := hP
  have hx := Bd.exec
  have hby := Bd.bytes
  have hml : c.maxLocals = 4 := hml0
  have hown : s.vm.findClass "com/example/umbel/umbel/check/ValueBounds" = some m.cls := findClass_of_methodNamed Bd.named
  have hnm := (name_of_methodNamed Bd.named Bd.method).1
  have X0 : Stand p l e ({ frames := 1, cells := 0, slots := 0, locals := 12 } : Room) s m #[(.ref a1), (.ref a2), (.ref a3), (.ref a4)] below meth c s₁ [] 0 0 := Stand.of_body Bd
  have e0 : s₁.heap = h0 := by rw [← hh, Bd.state]; rfl
  have N0 := Fr.nil n0
  have pre0 : ∀ t, Steps p.tables e below (s₁.setTop (mkF m 0 #[.val (.ref a1), .val (.ref a2), .val (.ref a3), .val (.ref a4)] [])) t → Steps p.tables e below (s₁.setTop (entryFrame m #[(.ref a1), (.ref a2), (.ref a3), (.ref a4)] 4)) t := fun t k => castTop (ef_3 m a1 a2 a3 a4) k
  obtain ⟨T5, X5, e5, st5⟩ := initO X0 hx hZ hown (hw _ (List.mem_of_getElem? (i := 14) rfl)) (hw _ (List.mem_of_getElem? (i := 15) rfl)) (hw _ (List.mem_of_getElem? (i := 16) rfl)) e0 (g := (mkF m 1 #[.val (.ref a1), .val (.ref a2), .val (.ref a3), .val (.ref a4)] [(.ref a1)])) rfl (by rw [hml]; rfl) rfl (hb hby d3_1) (by decide) (W := 0) (by show 2 * 0 + _ ≤ _; exact Nat.le_of_eq rfl) (by decide)
  obtain ⟨T6, h6, X6, e6, W6, st6⟩ := putF X5 hx hZ hown (host := "") (Or.inl (hw _ (List.mem_of_getElem? (i := 17) rfl))) Via.refl e5 F_lower_a1 E_a1 (Or.inr ⟨(hw _ (List.mem_of_getElem? (i := 18) rfl)), rfl, hnm⟩) (hw _ (List.mem_of_getElem? (i := 9) rfl)) (ty := (.array .double)) (by decide) rfl rfl (g := (mkF m 6 #[.val (.ref a1), .val (.ref a2), .val (.ref a3), .val (.ref a4)] [(.ref a2), (.ref a1)])) rfl rfl (hb hby d3_6)
  have Fw6 := F_lower_a1.same W6
  have K6 : Keep h0 h6 [a1] := (Keep.refl h0 [a1]).wr W6 (Or.inl (List.mem_of_getElem? (i := 0) rfl))
  have N6 := Fr.snoc X6 N0 g_a1
  obtain ⟨T7, h7, X7, e7, W7, st7⟩ := putF X6 hx hZ hown (host := "") (Or.inl (hw _ (List.mem_of_getElem? (i := 19) rfl))) Via.refl e6 (F_values_a1.other W6 (Or.inr (slot_ne (Or.inr (hw _ (List.mem_of_getElem? (i := 20) rfl))) (Or.inr (hw _ (List.mem_of_getElem? (i := 18) rfl))) (by decide) (t := (.array .double)) (t' := (.array .double)) (by decide) (by decide)))) (E_a1.wr W6) (Or.inr ⟨(hw _ (List.mem_of_getElem? (i := 20) rfl)), rfl, hnm⟩) (hw _ (List.mem_of_getElem? (i := 9) rfl)) (ty := (.array .double)) (by decide) rfl rfl (g := (mkF m 11 #[.val (.ref a1), .val (.ref a2), .val (.ref a3), .val (.ref a4)] [(.ref a3), (.ref a1)])) rfl rfl (hb hby d3_11)
  have Fw7 := (F_values_a1.other W6 (Or.inr (slot_ne (Or.inr (hw _ (List.mem_of_getElem? (i := 20) rfl))) (Or.inr (hw _ (List.mem_of_getElem? (i := 18) rfl))) (by decide) (t := (.array .double)) (t' := (.array .double)) (by decide) (by decide)))).same W7
  have K7 : Keep h0 h7 [a1] := K6.wr W7 (Or.inl (List.mem_of_getElem? (i := 0) rfl))
  have N7 := Fr.snoc X7 N6 g_a1
  obtain ⟨T8, h8, X8, e8, W8, st8⟩ := putF X7 hx hZ hown (host := "") (Or.inl (hw _ (List.mem_of_getElem? (i := 21) rfl))) Via.refl e7 ((F_upper_a1.other W6 (Or.inr (slot_ne (Or.inr (hw _ (List.mem_of_getElem? (i := 22) rfl))) (Or.inr (hw _ (List.mem_of_getElem? (i := 18) rfl))) (by decide) (t := (.array .double)) (t' := (.array .double)) (by decide) (by decide)))).other W7 (Or.inr (slot_ne (Or.inr (hw _ (List.mem_of_getElem? (i := 22) rfl))) (Or.inr (hw _ (List.mem_of_getElem? (i := 20) rfl))) (by decide) (t := (.array .double)) (t' := (.array .double)) (by decide) (by decide)))) ((E_a1.wr W6).wr W7) (Or.inr ⟨(hw _ (List.mem_of_getElem? (i := 22) rfl)), rfl, hnm⟩) (hw _ (List.mem_of_getElem? (i := 9) rfl)) (ty := (.array .double)) (by decide) rfl rfl (g := (mkF m 16 #[.val (.ref a1), .val (.ref a2), .val (.ref a3), .val (.ref a4)] [(.ref a4), (.ref a1)])) rfl rfl (hb hby d3_16)
  have Fw8 := ((F_upper_a1.other W6 (Or.inr (slot_ne (Or.inr (hw _ (List.mem_of_getElem? (i := 22) rfl))) (Or.inr (hw _ (List.mem_of_getElem? (i := 18) rfl))) (by decide) (t := (.array .double)) (t' := (.array .double)) (by decide) (by decide)))).other W7 (Or.inr (slot_ne (Or.inr (hw _ (List.mem_of_getElem? (i := 22) rfl))) (Or.inr (hw _ (List.mem_of_getElem? (i := 20) rfl))) (by decide) (t := (.array .double)) (t' := (.array .double)) (by decide) (by decide)))).same W8
  have K8 : Keep h0 h8 [a1] := K7.wr W8 (Or.inl (List.mem_of_getElem? (i := 0) rfl))
  have N8 := Fr.snoc X8 N7 g_a1
  obtain ⟨fs, hr, hrun, hended, hW, hsame⟩ := X8.leave (v := none) (fun _ => rfl)
  refine ⟨_, _, pre0 _ ?_, hrun, hended, _, _, rfl, ?_, ⟨_, rfl⟩, hW, hsame.mono (by decide) (by decide)⟩
  · show Steps p.tables e below (s₁.setTop (mkF m 0 #[.val (.ref a1), .val (.ref a2), .val (.ref a3), .val (.ref a4)] [])) _
    refine XS.aloadN X0.here hx rfl (hb hby d3_0) rfl rfl ?_
    show Steps p.tables e below (s₁.setTop (mkF m 1 #[.val (.ref a1), .val (.ref a2), .val (.ref a3), .val (.ref a4)] [(.ref a1)])) _
    refine st5 _ ?_
    show Steps p.tables e below (T5.setTop (mkF m 4 #[.val (.ref a1), .val (.ref a2), .val (.ref a3), .val (.ref a4)] [])) _
    refine XS.aloadN X5.here hx rfl (hb hby d3_4) rfl rfl ?_
    show Steps p.tables e below (T5.setTop (mkF m 5 #[.val (.ref a1), .val (.ref a2), .val (.ref a3), .val (.ref a4)] [(.ref a1)])) _
    refine XS.aloadN X5.here hx rfl (hb hby d3_5) rfl rfl ?_
    show Steps p.tables e below (T5.setTop (mkF m 6 #[.val (.ref a1), .val (.ref a2), .val (.ref a3), .val (.ref a4)] [(.ref a2), (.ref a1)])) _
    refine st6 _ ?_
    show Steps p.tables e below (T6.setTop (mkF m 9 #[.val (.ref a1), .val (.ref a2), .val (.ref a3), .val (.ref a4)] [])) _
    refine XS.aloadN X6.here hx rfl (hb hby d3_9) rfl rfl ?_
    show Steps p.tables e below (T6.setTop (mkF m 10 #[.val (.ref a1), .val (.ref a2), .val (.ref a3), .val (.ref a4)] [(.ref a1)])) _
    refine XS.aloadN X6.here hx rfl (hb hby d3_10) rfl rfl ?_
    show Steps p.tables e below (T6.setTop (mkF m 11 #[.val (.ref a1), .val (.ref a2), .val (.ref a3), .val (.ref a4)] [(.ref a3), (.ref a1)])) _
    refine st7 _ ?_
    show Steps p.tables e below (T7.setTop (mkF m 14 #[.val (.ref a1), .val (.ref a2), .val (.ref a3), .val (.ref a4)] [])) _
    refine XS.aloadN X7.here hx rfl (hb hby d3_14) rfl rfl ?_
    show Steps p.tables e below (T7.setTop (mkF m 15 #[.val (.ref a1), .val (.ref a2), .val (.ref a3), .val (.ref a4)] [(.ref a1)])) _
    refine XS.aloadN X7.here hx rfl (hb hby d3_15) rfl rfl ?_
    show Steps p.tables e below (T7.setTop (mkF m 16 #[.val (.ref a1), .val (.ref a2), .val (.ref a3), .val (.ref a4)] [(.ref a4), (.ref a1)])) _
    refine st8 _ ?_
    show Steps p.tables e below (T8.setTop (mkF m 19 #[.val (.ref a1), .val (.ref a2), .val (.ref a3), .val (.ref a4)] [])) _
    exact X8.returnOut hx Bd.returns (hb hby d3_19) hr
  · show Q3 Z a1 a2 a3 a4 u_lower_a1 u_values_a1 u_upper_a1 h0 n0 _ T8.heap _
    rw [e8]
    exact ⟨rfl, N8, K8, (((E_a1.wr W6).wr W7).wr W8), ((Fw6.other W7 (Or.inr (slot_ne (Or.inr (hw _ (List.mem_of_getElem? (i := 18) rfl))) (Or.inr (hw _ (List.mem_of_getElem? (i := 20) rfl))) (by decide) (t := (.array .double)) (t' := (.array .double)) (by decide) (by decide)))).other W8 (Or.inr (slot_ne (Or.inr (hw _ (List.mem_of_getElem? (i := 18) rfl))) (Or.inr (hw _ (List.mem_of_getElem? (i := 22) rfl))) (by decide) (t := (.array .double)) (t' := (.array .double)) (by decide) (by decide)))), (Fw7.other W8 (Or.inr (slot_ne (Or.inr (hw _ (List.mem_of_getElem? (i := 20) rfl))) (Or.inr (hw _ (List.mem_of_getElem? (i := 22) rfl))) (by decide) (t := (.array .double)) (t' := (.array .double)) (by decide) (by decide)))), Fw8⟩

theorem ef_3n (m : MethodId) (x0 : Addr) (x1 : Addr) (x3 : Addr) : entryFrame m #[(.ref x0), (.ref x1), .null, (.ref x3)] 4 = mkF m 0 #[.val (.ref x0), .val (.ref x1), .val .null, .val (.ref x3)] [] := by first | (simp [entryFrame, mkF, argsToLocals, Value.category]; done) | rfl
def Q3n (Z : State) (a1 : Addr) (a2 : Addr) (a3 : Addr) (u_lower_a1 : Value) (u_values_a1 : Value) (u_upper_a1 : Value) (h0 : Heap) (n0 : Nat) (v : Option Value) (h : Heap) (L : List Loc) : Prop := v = none ∧ Fr n0 L ∧ Keep h0 h [a1] ∧ Exa Z h a1 "com/example/umbel/umbel/check/ValueBounds" ∧ Fld Z h a1 "com/example/umbel/umbel/check/ValueBounds" "lower" "[D" (.ref a2) ∧ Fld Z h a1 "com/example/umbel/umbel/check/ValueBounds" "values" "[D" .null ∧ Fld Z h a1 "com/example/umbel/umbel/check/ValueBounds" "upper" "[D" (.ref a3)
set_option maxRecDepth 65536 in
set_option maxHeartbeats 40000000 in
theorem rm3n (l : Launch) (Z : State) (a0 : Array Value) (hw : ∀ d ∈ tables_1, d.before a0 Z = true) (ws : List Jvm.Cond) (a1 : Addr) (a2 : Addr) (a3 : Addr) (u_lower_a1 : Value) (u_values_a1 : Value) (u_upper_a1 : Value) (h0 : Heap) (n0 : Nat) (Z0 : n0 ≤ h0.size) (E_a1 : Exa Z h0 a1 "com/example/umbel/umbel/check/ValueBounds") (F_lower_a1 : Fld Z h0 a1 "com/example/umbel/umbel/check/ValueBounds" "lower" "[D" u_lower_a1) (g_a1 : n0 ≤ a1) (F_values_a1 : Fld Z h0 a1 "com/example/umbel/umbel/check/ValueBounds" "values" "[D" u_values_a1) (F_upper_a1 : Fld Z h0 a1 "com/example/umbel/umbel/check/ValueBounds" "upper" "[D" u_upper_a1) :
    MetFree l (⟨"com/example/umbel/umbel/check/ValueBounds", "<init>", "([D[D[D)V"⟩ : MethodName) (head1 (Jvm.Cond.code (⟨"com/example/umbel/umbel/check/ValueBounds", "<init>", "([D[D[D)V"⟩ : MethodName) prog_20_method_2_code 4 none :: ws) ({ frames := 1, cells := 0, slots := 0, locals := 12 } : Room)) (fun a U => a = #[(.ref a1), (.ref a2), .null, (.ref a3)] ∧ Z.Warmed39 U.vm ∧ U.heap = h0) (fun _ _ _ _ _ => True) (fun _ U o U' => ∃ v L, o = .returned v ∧ Q3n Z a1 a2 a3 u_lower_a1 u_values_a1 u_upper_a1 h0 n0 v U'.heap L ∧ FrameEnd U o U' L ({ frames := 1, cells := 0, slots := 0, locals := 12 } : Room).cells ({ frames := 1, cells := 0, slots := 0, locals := 12 } : Room).slots) := by
  refine MetFree.of_bodySF (plainFor_of_name pn_3) hisR ?_
  intro p e s m args below meth c s₁ Bd hml0 hP hK
  obtain ⟨rfl, hZ, hh⟩ := hP
  have hx := Bd.exec
  have hby := Bd.bytes
  have hml : c.maxLocals = 4 := hml0
  have hown : s.vm.findClass "com/example/umbel/umbel/check/ValueBounds" = some m.cls := findClass_of_methodNamed Bd.named
  have hnm := (name_of_methodNamed Bd.named Bd.method).1
  have X0 : Stand p l e ({ frames := 1, cells := 0, slots := 0, locals := 12 } : Room) s m #[(.ref a1), (.ref a2), .null, (.ref a3)] below meth c s₁ [] 0 0 := Stand.of_body Bd
  have e0 : s₁.heap = h0 := by rw [← hh, Bd.state]; rfl
  have N0 := Fr.nil n0
  have pre0 : ∀ t, Steps p.tables e below (s₁.setTop (mkF m 0 #[.val (.ref a1), .val (.ref a2), .val .null, .val (.ref a3)] [])) t → Steps p.tables e below (s₁.setTop (entryFrame m #[(.ref a1), (.ref a2), .null, (.ref a3)] 4)) t := fun t k => castTop (ef_3n m a1 a2 a3) k
  obtain ⟨T4, X4, e4, st4⟩ := initO X0 hx hZ hown (hw _ (List.mem_of_getElem? (i := 14) rfl)) (hw _ (List.mem_of_getElem? (i := 15) rfl)) (hw _ (List.mem_of_getElem? (i := 16) rfl)) e0 (g := (mkF m 1 #[.val (.ref a1), .val (.ref a2), .val .null, .val (.ref a3)] [(.ref a1)])) rfl (by rw [hml]; rfl) rfl (hb hby d3_1) (by decide) (W := 0) (by show 2 * 0 + _ ≤ _; exact Nat.le_of_eq rfl) (by decide)
  obtain ⟨T5, h5, X5, e5, W5, st5⟩ := putF X4 hx hZ hown (host := "") (Or.inl (hw _ (List.mem_of_getElem? (i := 17) rfl))) Via.refl e4 F_lower_a1 E_a1 (Or.inr ⟨(hw _ (List.mem_of_getElem? (i := 18) rfl)), rfl, hnm⟩) (hw _ (List.mem_of_getElem? (i := 9) rfl)) (ty := (.array .double)) (by decide) rfl rfl (g := (mkF m 6 #[.val (.ref a1), .val (.ref a2), .val .null, .val (.ref a3)] [(.ref a2), (.ref a1)])) rfl rfl (hb hby d3_6)
  have Fw5 := F_lower_a1.same W5
  have K5 : Keep h0 h5 [a1] := (Keep.refl h0 [a1]).wr W5 (Or.inl (List.mem_of_getElem? (i := 0) rfl))
  have N5 := Fr.snoc X5 N0 g_a1
  obtain ⟨T6, h6, X6, e6, W6, st6⟩ := putF X5 hx hZ hown (host := "") (Or.inl (hw _ (List.mem_of_getElem? (i := 19) rfl))) Via.refl e5 (F_values_a1.other W5 (Or.inr (slot_ne (Or.inr (hw _ (List.mem_of_getElem? (i := 20) rfl))) (Or.inr (hw _ (List.mem_of_getElem? (i := 18) rfl))) (by decide) (t := (.array .double)) (t' := (.array .double)) (by decide) (by decide)))) (E_a1.wr W5) (Or.inr ⟨(hw _ (List.mem_of_getElem? (i := 20) rfl)), rfl, hnm⟩) (hw _ (List.mem_of_getElem? (i := 9) rfl)) (ty := (.array .double)) (by decide) rfl rfl (g := (mkF m 11 #[.val (.ref a1), .val (.ref a2), .val .null, .val (.ref a3)] [.null, (.ref a1)])) rfl rfl (hb hby d3_11)
  have Fw6 := (F_values_a1.other W5 (Or.inr (slot_ne (Or.inr (hw _ (List.mem_of_getElem? (i := 20) rfl))) (Or.inr (hw _ (List.mem_of_getElem? (i := 18) rfl))) (by decide) (t := (.array .double)) (t' := (.array .double)) (by decide) (by decide)))).same W6
  have K6 : Keep h0 h6 [a1] := K5.wr W6 (Or.inl (List.mem_of_getElem? (i := 0) rfl))
  have N6 := Fr.snoc X6 N5 g_a1
  obtain ⟨T7, h7, X7, e7, W7, st7⟩ := putF X6 hx hZ hown (host := "") (Or.inl (hw _ (List.mem_of_getElem? (i := 21) rfl))) Via.refl e6 ((F_upper_a1.other W5 (Or.inr (slot_ne (Or.inr (hw _ (List.mem_of_getElem? (i := 22) rfl))) (Or.inr (hw _ (List.mem_of_getElem? (i := 18) rfl))) (by decide) (t := (.array .double)) (t' := (.array .double)) (by decide) (by decide)))).other W6 (Or.inr (slot_ne (Or.inr (hw _ (List.mem_of_getElem? (i := 22) rfl))) (Or.inr (hw _ (List.mem_of_getElem? (i := 20) rfl))) (by decide) (t := (.array .double)) (t' := (.array .double)) (by decide) (by decide)))) ((E_a1.wr W5).wr W6) (Or.inr ⟨(hw _ (List.mem_of_getElem? (i := 22) rfl)), rfl, hnm⟩) (hw _ (List.mem_of_getElem? (i := 9) rfl)) (ty := (.array .double)) (by decide) rfl rfl (g := (mkF m 16 #[.val (.ref a1), .val (.ref a2), .val .null, .val (.ref a3)] [(.ref a3), (.ref a1)])) rfl rfl (hb hby d3_16)
  have Fw7 := ((F_upper_a1.other W5 (Or.inr (slot_ne (Or.inr (hw _ (List.mem_of_getElem? (i := 22) rfl))) (Or.inr (hw _ (List.mem_of_getElem? (i := 18) rfl))) (by decide) (t := (.array .double)) (t' := (.array .double)) (by decide) (by decide)))).other W6 (Or.inr (slot_ne (Or.inr (hw _ (List.mem_of_getElem? (i := 22) rfl))) (Or.inr (hw _ (List.mem_of_getElem? (i := 20) rfl))) (by decide) (t := (.array .double)) (t' := (.array .double)) (by decide) (by decide)))).same W7
  have K7 : Keep h0 h7 [a1] := K6.wr W7 (Or.inl (List.mem_of_getElem? (i := 0) rfl))
  have N7 := Fr.snoc X7 N6 g_a1
  obtain ⟨fs, hr, hrun, hended, hW, hsame⟩ := X7.leave (v := none) (fun _ => rfl)
  refine ⟨_, _, pre0 _ ?_, hrun, hended, _, _, rfl, ?_, ⟨_, rfl⟩, hW, hsame.mono (by decide) (by decide)⟩
  · show Steps p.tables e below (s₁.setTop (mkF m 0 #[.val (.ref a1), .val (.ref a2), .val .null, .val (.ref a3)] [])) _
    refine XS.aloadN X0.here hx rfl (hb hby d3_0) rfl rfl ?_
    show Steps p.tables e below (s₁.setTop (mkF m 1 #[.val (.ref a1), .val (.ref a2), .val .null, .val (.ref a3)] [(.ref a1)])) _
    refine st4 _ ?_
    show Steps p.tables e below (T4.setTop (mkF m 4 #[.val (.ref a1), .val (.ref a2), .val .null, .val (.ref a3)] [])) _
    refine XS.aloadN X4.here hx rfl (hb hby d3_4) rfl rfl ?_
    show Steps p.tables e below (T4.setTop (mkF m 5 #[.val (.ref a1), .val (.ref a2), .val .null, .val (.ref a3)] [(.ref a1)])) _
    refine XS.aloadN X4.here hx rfl (hb hby d3_5) rfl rfl ?_
    show Steps p.tables e below (T4.setTop (mkF m 6 #[.val (.ref a1), .val (.ref a2), .val .null, .val (.ref a3)] [(.ref a2), (.ref a1)])) _
    refine st5 _ ?_
    show Steps p.tables e below (T5.setTop (mkF m 9 #[.val (.ref a1), .val (.ref a2), .val .null, .val (.ref a3)] [])) _
    refine XS.aloadN X5.here hx rfl (hb hby d3_9) rfl rfl ?_
    show Steps p.tables e below (T5.setTop (mkF m 10 #[.val (.ref a1), .val (.ref a2), .val .null, .val (.ref a3)] [(.ref a1)])) _
    refine XS.aloadN X5.here hx rfl (hb hby d3_10) rfl rfl ?_
    show Steps p.tables e below (T5.setTop (mkF m 11 #[.val (.ref a1), .val (.ref a2), .val .null, .val (.ref a3)] [.null, (.ref a1)])) _
    refine st6 _ ?_
    show Steps p.tables e below (T6.setTop (mkF m 14 #[.val (.ref a1), .val (.ref a2), .val .null, .val (.ref a3)] [])) _
    refine XS.aloadN X6.here hx rfl (hb hby d3_14) rfl rfl ?_
    show Steps p.tables e below (T6.setTop (mkF m 15 #[.val (.ref a1), .val (.ref a2), .val .null, .val (.ref a3)] [(.ref a1)])) _
    refine XS.aloadN X6.here hx rfl (hb hby d3_15) rfl rfl ?_
    show Steps p.tables e below (T6.setTop (mkF m 16 #[.val (.ref a1), .val (.ref a2), .val .null, .val (.ref a3)] [(.ref a3), (.ref a1)])) _
    refine st7 _ ?_
    show Steps p.tables e below (T7.setTop (mkF m 19 #[.val (.ref a1), .val (.ref a2), .val .null, .val (.ref a3)] [])) _
    exact X7.returnOut hx Bd.returns (hb hby d3_19) hr
  · show Q3n Z a1 a2 a3 u_lower_a1 u_values_a1 u_upper_a1 h0 n0 _ T7.heap _
    rw [e7]
    exact ⟨rfl, N7, K7, (((E_a1.wr W5).wr W6).wr W7), ((Fw5.other W6 (Or.inr (slot_ne (Or.inr (hw _ (List.mem_of_getElem? (i := 18) rfl))) (Or.inr (hw _ (List.mem_of_getElem? (i := 20) rfl))) (by decide) (t := (.array .double)) (t' := (.array .double)) (by decide) (by decide)))).other W7 (Or.inr (slot_ne (Or.inr (hw _ (List.mem_of_getElem? (i := 18) rfl))) (Or.inr (hw _ (List.mem_of_getElem? (i := 22) rfl))) (by decide) (t := (.array .double)) (t' := (.array .double)) (by decide) (by decide)))), (Fw6.other W7 (Or.inr (slot_ne (Or.inr (hw _ (List.mem_of_getElem? (i := 20) rfl))) (Or.inr (hw _ (List.mem_of_getElem? (i := 22) rfl))) (by decide) (t := (.array .double)) (t' := (.array .double)) (by decide) (by decide)))), Fw7⟩


/-! ## values() -/
theorem d5_0 : decode prog_20_method_5_code 0 = .ok (.aload_n 0, 1) := by decide +kernel
theorem d5_1 : decode prog_20_method_5_code 1 = .ok (.getfield 16, 3) := by decide +kernel
theorem d5_4 : decode prog_20_method_5_code 4 = .ok (.ifnull 8, 3) := by decide +kernel
theorem d5_7 : decode prog_20_method_5_code 7 = .ok (.aload_n 0, 1) := by decide +kernel
theorem d5_8 : decode prog_20_method_5_code 8 = .ok (.getfield 16, 3) := by decide +kernel
theorem d5_11 : decode prog_20_method_5_code 11 = .ok (.areturn, 1) := by decide +kernel
theorem d5_12 : decode prog_20_method_5_code 12 = .ok (.aload_n 0, 1) := by decide +kernel
theorem d5_13 : decode prog_20_method_5_code 13 = .ok (.getfield 12, 3) := by decide +kernel
theorem d5_16 : decode prog_20_method_5_code 16 = .ok (.arraylength, 1) := by decide +kernel
theorem d5_17 : decode prog_20_method_5_code 17 = .ok (.newarray .double, 2) := by decide +kernel
theorem d5_19 : decode prog_20_method_5_code 19 = .ok (.astore_n 1, 1) := by decide +kernel
theorem d5_20 : decode prog_20_method_5_code 20 = .ok (.iconst 0, 1) := by decide +kernel
theorem d5_21 : decode prog_20_method_5_code 21 = .ok (.istore_n 2, 1) := by decide +kernel
theorem d5_22 : decode prog_20_method_5_code 22 = .ok (.iload_n 2, 1) := by decide +kernel
theorem d5_23 : decode prog_20_method_5_code 23 = .ok (.aload_n 1, 1) := by decide +kernel
theorem d5_24 : decode prog_20_method_5_code 24 = .ok (.arraylength, 1) := by decide +kernel
theorem d5_25 : decode prog_20_method_5_code 25 = .ok (.if_icmp .ge 57, 3) := by decide +kernel
theorem d5_28 : decode prog_20_method_5_code 28 = .ok (.aload_n 0, 1) := by decide +kernel
theorem d5_29 : decode prog_20_method_5_code 29 = .ok (.getfield 12, 3) := by decide +kernel
theorem d5_32 : decode prog_20_method_5_code 32 = .ok (.iload_n 2, 1) := by decide +kernel
theorem d5_33 : decode prog_20_method_5_code 33 = .ok (.daload, 1) := by decide +kernel
theorem d5_34 : decode prog_20_method_5_code 34 = .ok (.aload_n 0, 1) := by decide +kernel
theorem d5_35 : decode prog_20_method_5_code 35 = .ok (.getfield 19, 3) := by decide +kernel
theorem d5_38 : decode prog_20_method_5_code 38 = .ok (.iload_n 2, 1) := by decide +kernel
theorem d5_39 : decode prog_20_method_5_code 39 = .ok (.daload, 1) := by decide +kernel
theorem d5_40 : decode prog_20_method_5_code 40 = .ok (.dcmp .l, 1) := by decide +kernel
theorem d5_41 : decode prog_20_method_5_code 41 = .ok (.ifCond .ne 15, 3) := by decide +kernel
theorem d5_44 : decode prog_20_method_5_code 44 = .ok (.aload_n 1, 1) := by decide +kernel
theorem d5_45 : decode prog_20_method_5_code 45 = .ok (.iload_n 2, 1) := by decide +kernel
theorem d5_46 : decode prog_20_method_5_code 46 = .ok (.aload_n 0, 1) := by decide +kernel
theorem d5_47 : decode prog_20_method_5_code 47 = .ok (.getfield 12, 3) := by decide +kernel
theorem d5_50 : decode prog_20_method_5_code 50 = .ok (.iload_n 2, 1) := by decide +kernel
theorem d5_51 : decode prog_20_method_5_code 51 = .ok (.daload, 1) := by decide +kernel
theorem d5_52 : decode prog_20_method_5_code 52 = .ok (.dastore, 1) := by decide +kernel
theorem d5_53 : decode prog_20_method_5_code 53 = .ok (.goto 23, 3) := by decide +kernel
theorem d5_56 : decode prog_20_method_5_code 56 = .ok (.aload_n 1, 1) := by decide +kernel
theorem d5_57 : decode prog_20_method_5_code 57 = .ok (.iload_n 2, 1) := by decide +kernel
theorem d5_58 : decode prog_20_method_5_code 58 = .ok (.aload_n 0, 1) := by decide +kernel
theorem d5_59 : decode prog_20_method_5_code 59 = .ok (.getfield 12, 3) := by decide +kernel
theorem d5_62 : decode prog_20_method_5_code 62 = .ok (.iload_n 2, 1) := by decide +kernel
theorem d5_63 : decode prog_20_method_5_code 63 = .ok (.daload, 1) := by decide +kernel
theorem d5_64 : decode prog_20_method_5_code 64 = .ok (.aload_n 0, 1) := by decide +kernel
theorem d5_65 : decode prog_20_method_5_code 65 = .ok (.getfield 19, 3) := by decide +kernel
theorem d5_68 : decode prog_20_method_5_code 68 = .ok (.iload_n 2, 1) := by decide +kernel
theorem d5_69 : decode prog_20_method_5_code 69 = .ok (.daload, 1) := by decide +kernel
theorem d5_70 : decode prog_20_method_5_code 70 = .ok (.dadd, 1) := by decide +kernel
theorem d5_71 : decode prog_20_method_5_code 71 = .ok (.ldc2_w 22, 3) := by decide +kernel
theorem d5_74 : decode prog_20_method_5_code 74 = .ok (.ddiv, 1) := by decide +kernel
theorem d5_75 : decode prog_20_method_5_code 75 = .ok (.dastore, 1) := by decide +kernel
theorem d5_76 : decode prog_20_method_5_code 76 = .ok (.iinc 2 1, 3) := by decide +kernel
theorem d5_79 : decode prog_20_method_5_code 79 = .ok (.goto (-57), 3) := by decide +kernel
theorem d5_82 : decode prog_20_method_5_code 82 = .ok (.aload_n 1, 1) := by decide +kernel
theorem d5_83 : decode prog_20_method_5_code 83 = .ok (.areturn, 1) := by decide +kernel
theorem pd5 : parseMethodDescriptor "()[D" = some ⟨[], (some (.array .double))⟩ := by decide +kernel
theorem ef5 (m : MethodId) (a : Addr) : entryFrame m #[(.ref a)] 3 = mkF m 0 #[.val (.ref a), .unset, .unset] [] := by first | (simp [entryFrame, mkF, argsToLocals, Value.category]; done) | rfl
def Q5g (Z : State) (a b : Addr) (h0 : Heap) (n0 : Nat) (v : Option Value) (h : Heap) (L : List Loc) : Prop := v = some (.ref b) ∧ Fr n0 L ∧ h = h0
set_option maxRecDepth 65536 in
set_option maxHeartbeats 40000000 in
theorem rm5g (l : Launch) (Z : State) (a0 : Array Value) (hw : ∀ d ∈ tables_1, d.before a0 Z = true) (ws : List Jvm.Cond) (a b : Addr) (h0 : Heap) (n0 : Nat) (Z0 : n0 ≤ h0.size) (FV : Fld Z h0 a "com/example/umbel/umbel/check/ValueBounds" "values" "[D" (.ref b)) :
    MetFree l (⟨"com/example/umbel/umbel/check/ValueBounds", "values", "()[D"⟩ : MethodName) (head1 (Jvm.Cond.code (⟨"com/example/umbel/umbel/check/ValueBounds", "values", "()[D"⟩ : MethodName) prog_20_method_5_code 3 (some (.array .double)) :: ws) ({ frames := 0, cells := 0, slots := 0, locals := 0 } : Room)) (fun aa U => aa = #[(.ref a)] ∧ Z.Warmed39 U.vm ∧ U.heap = h0) (fun _ _ _ _ _ => True) (fun _ U o U' => ∃ v L, o = .returned v ∧ Q5g Z a b h0 n0 v U'.heap L ∧ FrameEnd U o U' L ({ frames := 0, cells := 0, slots := 0, locals := 0 } : Room).cells ({ frames := 0, cells := 0, slots := 0, locals := 0 } : Room).slots) := by
  refine MetFree.of_bodySF (plainFor_of_name pn1) hisR ?_
  intro p e s m args below meth c s₁ Bd hml0 hP hK
  obtain ⟨rfl, hZ, hh⟩ := hP
  have hx := Bd.exec
  have hby := Bd.bytes
  have hml : c.maxLocals = 3 := hml0
  have hown : s.vm.findClass "com/example/umbel/umbel/check/ValueBounds" = some m.cls := findClass_of_methodNamed Bd.named
  have hnm := (name_of_methodNamed Bd.named Bd.method).1
  have X0 : Stand p l e ({ frames := 0, cells := 0, slots := 0, locals := 0 } : Room) s m #[(.ref a)] below meth c s₁ [] 0 0 := Stand.of_body Bd
  have e0 : s₁.heap = h0 := by rw [← hh, Bd.state]; rfl
  have N0 := Fr.nil n0
  have pre0 : ∀ t, Steps p.tables e below (s₁.setTop (mkF m 0 #[.val (.ref a), .unset, .unset] [])) t → Steps p.tables e below (s₁.setTop (entryFrame m #[(.ref a)] 3)) t := fun t k => castTop (ef5 m a) k
  obtain ⟨T21, X21, e21, st21⟩ := getF X0 hx hZ hown (host := "") (Or.inl (hw _ (List.mem_of_getElem? (i := 19) rfl))) Via.refl e0 FV (g := (mkF m 1 #[.val (.ref a), .unset, .unset] [(.ref a)])) rfl rfl (hb hby d5_1)
  obtain ⟨T22, X22, e22, st22⟩ := getF X21 hx hZ hown (host := "") (Or.inl (hw _ (List.mem_of_getElem? (i := 19) rfl))) Via.refl e21 FV (g := (mkF m 8 #[.val (.ref a), .unset, .unset] [(.ref a)])) rfl rfl (hb hby d5_8)
  obtain ⟨fs, hr, hrun, hended, hW, hsame⟩ := X22.leave (v := some (.ref b)) (fun h => by rw [Bd.returns] at h; cases h)
  refine ⟨_, _, pre0 _ ?_, hrun, hended, _, _, rfl, ?_, ⟨_, rfl⟩, hW, hsame.mono (by decide) (by decide)⟩
  · show Steps p.tables e below (s₁.setTop (mkF m 0 #[.val (.ref a), .unset, .unset] [])) _
    refine XS.aloadN X0.here hx rfl (hb hby d5_0) rfl rfl ?_
    show Steps p.tables e below (s₁.setTop (mkF m 1 #[.val (.ref a), .unset, .unset] [(.ref a)])) _
    refine st21 _ ?_
    show Steps p.tables e below (T21.setTop (mkF m 4 #[.val (.ref a), .unset, .unset] [(.ref b)])) _
    refine XS.ifnullNo X21.here hx rfl (hb hby d5_4) rfl ?_
    show Steps p.tables e below (T21.setTop (mkF m 7 #[.val (.ref a), .unset, .unset] [])) _
    refine XS.aloadN X21.here hx rfl (hb hby d5_7) rfl rfl ?_
    show Steps p.tables e below (T21.setTop (mkF m 8 #[.val (.ref a), .unset, .unset] [(.ref a)])) _
    refine st22 _ ?_
    show Steps p.tables e below (T22.setTop (mkF m 11 #[.val (.ref a), .unset, .unset] [(.ref b)])) _
    exact retOut X22 hx Bd.returns rfl (Or.inr (Or.inr (Or.inr (Or.inr ⟨rfl, rfl, rfl⟩)))) (hb hby d5_11) hr
  · show Q5g Z a b h0 n0 _ T22.heap _
    rw [e22]
    exact ⟨rfl, N0, rfl⟩
def Q5 (Z : State) (a aL : Addr) (kL : ClassId) (aU : Addr) (kU : ClassId) (lo0 lo1 up0 up1 r0 r1 : UInt64) (h0 : Heap) (n0 : Nat) (v : Option Value) (h : Heap) (L : List Loc) : Prop := ∃ (b : Addr) (kb : ClassId), v = some (.ref b) ∧ Fr n0 L ∧ h0.size ≤ b ∧ Keep h0 h [] ∧ Arv Z h b kb .double (2 : Int32) [(.double r0), (.double r1)] (.double 0)
set_option maxRecDepth 65536 in
set_option maxHeartbeats 40000000 in
theorem rm5 (l : Launch) (Z : State) (a0 : Array Value) (hw : ∀ d ∈ tables_1, d.before a0 Z = true) (ws : List Jvm.Cond) (a aL : Addr) (kL : ClassId) (aU : Addr) (kU : ClassId) (lo0 lo1 up0 up1 r0 r1 : UInt64) (h0 : Heap) (n0 : Nat) (Z0 : n0 ≤ h0.size) (FV : Fld Z h0 a "com/example/umbel/umbel/check/ValueBounds" "values" "[D" .null) (FL : Fld Z h0 a "com/example/umbel/umbel/check/ValueBounds" "lower" "[D" (.ref aL)) (FU : Fld Z h0 a "com/example/umbel/umbel/check/ValueBounds" "upper" "[D" (.ref aU)) (VL : Arv Z h0 aL kL .double (2 : Int32) [(.double lo0), (.double lo1)] (.double 0)) (VU : Arv Z h0 aU kU .double (2 : Int32) [(.double up0), (.double up1)] (.double 0)) (hm0 : own_mp lo0 up0 r0) (hm1 : own_mp lo1 up1 r1) :
    MetFree l (⟨"com/example/umbel/umbel/check/ValueBounds", "values", "()[D"⟩ : MethodName) (head1 (Jvm.Cond.code (⟨"com/example/umbel/umbel/check/ValueBounds", "values", "()[D"⟩ : MethodName) prog_20_method_5_code 3 (some (.array .double)) :: ws) ({ frames := 0, cells := 1, slots := 2, locals := 0 } : Room)) (fun aa U => aa = #[(.ref a)] ∧ Z.Warmed39 U.vm ∧ U.heap = h0) (fun _ _ _ _ _ => True) (fun _ U o U' => ∃ v L, o = .returned v ∧ Q5 Z a aL kL aU kU lo0 lo1 up0 up1 r0 r1 h0 n0 v U'.heap L ∧ FrameEnd U o U' L ({ frames := 0, cells := 1, slots := 2, locals := 0 } : Room).cells ({ frames := 0, cells := 1, slots := 2, locals := 0 } : Room).slots) := by
  refine MetFree.of_bodySF (plainFor_of_name pn1) hisR ?_
  intro p e s m args below meth c s₁ Bd hml0 hP hK
  obtain ⟨rfl, hZ, hh⟩ := hP
  have hx := Bd.exec
  have hby := Bd.bytes
  have hml : c.maxLocals = 3 := hml0
  have hown : s.vm.findClass "com/example/umbel/umbel/check/ValueBounds" = some m.cls := findClass_of_methodNamed Bd.named
  have hnm := (name_of_methodNamed Bd.named Bd.method).1
  have X0 : Stand p l e ({ frames := 0, cells := 1, slots := 2, locals := 0 } : Room) s m #[(.ref a)] below meth c s₁ [] 0 0 := Stand.of_body Bd
  have e0 : s₁.heap = h0 := by rw [← hh, Bd.state]; rfl
  have N0 := Fr.nil n0
  have pre0 : ∀ t, Steps p.tables e below (s₁.setTop (mkF m 0 #[.val (.ref a), .unset, .unset] [])) t → Steps p.tables e below (s₁.setTop (entryFrame m #[(.ref a)] 3)) t := fun t k => castTop (ef5 m a) k
  rcases hm0 with ⟨c0, hx0⟩ | ⟨c0, p0, q0, hx0⟩
  · rcases hm1 with ⟨c1, hx1⟩ | ⟨c1, p1, q1, hx1⟩
    · obtain ⟨T21, X21, e21, st21⟩ := getF X0 hx hZ hown (host := "") (Or.inl (hw _ (List.mem_of_getElem? (i := 19) rfl))) Via.refl e0 FV (g := (mkF m 1 #[.val (.ref a), .unset, .unset] [(.ref a)])) rfl rfl (hb hby d5_1)
      obtain ⟨T22, X22, e22, st22⟩ := getF X21 hx hZ hown (host := "") (Or.inl (hw _ (List.mem_of_getElem? (i := 17) rfl))) Via.refl e21 FL (g := (mkF m 13 #[.val (.ref a), .unset, .unset] [(.ref a)])) rfl rfl (hb hby d5_13)
      obtain ⟨c23, A23, -, S23, M23, -, -⟩ := id VL
      obtain ⟨T24, h24, k_b, X24, e24, E24, A24, st24⟩ := newP X22 hx hZ (hw _ (List.mem_of_getElem? (i := 0) rfl)) e22 (g := (mkF m 17 #[.val (.ref a), .unset, .unset] [(.int (2 : Int32))])) rfl (hb hby d5_17) rfl (by decide : ¬ ((2 : Int32) < (0 : Int32))) (cap := 2) (by decide : (2 : Int32).toNatClampNeg ≤ 2) (by decide) (by decide) (by decide)
      obtain ⟨b, g_b⟩ : ∃ z, z = h0.size := ⟨_, rfl⟩
      rw [← g_b] at A24 st24
      have ge_b : n0 ≤ b := Nat.le_trans Z0 (Nat.le_of_eq g_b.symm)
      have ne_aL_b : aL ≠ b := Nat.ne_of_lt (Nat.lt_of_lt_of_le VL.lt (Nat.le_of_eq g_b.symm))
      have ne_aU_b : aU ≠ b := Nat.ne_of_lt (Nat.lt_of_lt_of_le VU.lt (Nat.le_of_eq g_b.symm))
      have ne_a_b : a ≠ b := Nat.ne_of_lt (Nat.lt_of_lt_of_le FL.lt (Nat.le_of_eq g_b.symm))
      have VaL_24 : Arv Z h24 aL kL .double (2 : Int32) [(.double lo0), (.double lo1)] (.double 0) := VL.ext E24
      have VaU_24 : Arv Z h24 aU kU .double (2 : Int32) [(.double up0), (.double up1)] (.double 0) := VU.ext E24
      have Fa_values_24 : Fld Z h24 a "com/example/umbel/umbel/check/ValueBounds" "values" "[D" .null := FV.ext E24
      have Fa_lower_24 : Fld Z h24 a "com/example/umbel/umbel/check/ValueBounds" "lower" "[D" (.ref aL) := FL.ext E24
      have Fa_upper_24 : Fld Z h24 a "com/example/umbel/umbel/check/ValueBounds" "upper" "[D" (.ref aU) := FU.ext E24
      have Z24 : n0 ≤ h24.size := Nat.le_trans Z0 E24.1
      have P24 : Arv Z h24 b k_b .double (2 : Int32) [] (.double 0) := Arv.new A24 (by decide : ¬ ((2 : Int32) < (0 : Int32)))
      have Vb_24 : Arv Z h24 b k_b .double (2 : Int32) [(.double 0), (.double 0)] (.double 0) := P24.pad (pad_rep [] (.double 0) 2)
      obtain ⟨c25, A25, -, S25, M25, -, -⟩ := id Vb_24
      obtain ⟨T26, X26, e26, st26⟩ := getF X24 hx hZ hown (host := "") (Or.inl (hw _ (List.mem_of_getElem? (i := 17) rfl))) Via.refl e24 Fa_lower_24 (g := (mkF m 29 #[.val (.ref a), .val (.ref b), .val (.int (0 : Int32))] [(.ref a)])) rfl rfl (hb hby d5_29)
      obtain ⟨c27, A27, -, S27, M27, H27, -⟩ := id VaL_24
      have i27 := inb_of (j := (0 : Int32)) S27 ⟨(by decide : ¬ ((0 : Int32) < (0 : Int32))), (by decide : (0 : Int32) < (2 : Int32))⟩
      obtain ⟨T28, X28, e28, st28⟩ := getF X26 hx hZ hown (host := "") (Or.inl (hw _ (List.mem_of_getElem? (i := 21) rfl))) Via.refl e26 Fa_upper_24 (g := (mkF m 35 #[.val (.ref a), .val (.ref b), .val (.int (0 : Int32))] [(.ref a), (.double lo0)])) rfl rfl (hb hby d5_35)
      obtain ⟨c29, A29, -, S29, M29, H29, -⟩ := id VaU_24
      have i29 := inb_of (j := (0 : Int32)) S29 ⟨(by decide : ¬ ((0 : Int32) < (0 : Int32))), (by decide : (0 : Int32) < (2 : Int32))⟩
      obtain ⟨T30, X30, e30, st30⟩ := getF X28 hx hZ hown (host := "") (Or.inl (hw _ (List.mem_of_getElem? (i := 17) rfl))) Via.refl e28 Fa_lower_24 (g := (mkF m 47 #[.val (.ref a), .val (.ref b), .val (.int (0 : Int32))] [(.ref a), (.int (0 : Int32)), (.ref b)])) rfl rfl (hb hby d5_47)
      obtain ⟨c31, A31, -, S31, M31, H31, -⟩ := id VaL_24
      have i31 := inb_of (j := (0 : Int32)) S31 ⟨(by decide : ¬ ((0 : Int32) < (0 : Int32))), (by decide : (0 : Int32) < (2 : Int32))⟩
      obtain ⟨c32, A32, q32, S32, M32, H32, U32⟩ := id Vb_24
      obtain ⟨T32, h32, X32, e32, W32, st32⟩ := stD X30 hx hZ e30 A32 (j := (0 : Int32)) (inb_of S32 ⟨(by decide : ¬ ((0 : Int32) < (0 : Int32))), (by decide : (0 : Int32) < (2 : Int32))⟩) (g := (mkF m 52 #[.val (.ref a), .val (.ref b), .val (.int (0 : Int32))] [(.double lo0), (.int (0 : Int32)), (.ref b)])) rfl rfl (hb hby d5_52)
      have N32 := Fr.snoc X32 N0 ge_b
      have VaL_32 : Arv Z h32 aL kL .double (2 : Int32) [(.double lo0), (.double lo1)] (.double 0) := VaL_24.other W32 ne_aL_b
      have VaU_32 : Arv Z h32 aU kU .double (2 : Int32) [(.double up0), (.double up1)] (.double 0) := VaU_24.other W32 ne_aU_b
      have Fa_values_32 : Fld Z h32 a "com/example/umbel/umbel/check/ValueBounds" "values" "[D" .null := Fa_values_24.other W32 (Or.inl ne_a_b)
      have Fa_lower_32 : Fld Z h32 a "com/example/umbel/umbel/check/ValueBounds" "lower" "[D" (.ref aL) := Fa_lower_24.other W32 (Or.inl ne_a_b)
      have Fa_upper_32 : Fld Z h32 a "com/example/umbel/umbel/check/ValueBounds" "upper" "[D" (.ref aU) := Fa_upper_24.other W32 (Or.inl ne_a_b)
      have Vb_32 : Arv Z h32 b k_b .double (2 : Int32) [(.double lo0), (.double 0)] (.double 0) := Arv.set A32 q32 S32 M32 H32 U32 rfl W32 0 rfl (Nat.le_of_ble_eq_true rfl)
      have Z32 : n0 ≤ h32.size := Nat.le_trans Z24 (Keep.of_wr W32).1
      obtain ⟨c33, A33, -, S33, M33, -, -⟩ := id Vb_32
      obtain ⟨T34, X34, e34, st34⟩ := getF X32 hx hZ hown (host := "") (Or.inl (hw _ (List.mem_of_getElem? (i := 17) rfl))) Via.refl e32 Fa_lower_32 (g := (mkF m 29 #[.val (.ref a), .val (.ref b), .val (.int (1 : Int32))] [(.ref a)])) rfl rfl (hb hby d5_29)
      obtain ⟨c35, A35, -, S35, M35, H35, -⟩ := id VaL_32
      have i35 := inb_of (j := (1 : Int32)) S35 ⟨(by decide : ¬ ((1 : Int32) < (0 : Int32))), (by decide : (1 : Int32) < (2 : Int32))⟩
      obtain ⟨T36, X36, e36, st36⟩ := getF X34 hx hZ hown (host := "") (Or.inl (hw _ (List.mem_of_getElem? (i := 21) rfl))) Via.refl e34 Fa_upper_32 (g := (mkF m 35 #[.val (.ref a), .val (.ref b), .val (.int (1 : Int32))] [(.ref a), (.double lo1)])) rfl rfl (hb hby d5_35)
      obtain ⟨c37, A37, -, S37, M37, H37, -⟩ := id VaU_32
      have i37 := inb_of (j := (1 : Int32)) S37 ⟨(by decide : ¬ ((1 : Int32) < (0 : Int32))), (by decide : (1 : Int32) < (2 : Int32))⟩
      obtain ⟨T38, X38, e38, st38⟩ := getF X36 hx hZ hown (host := "") (Or.inl (hw _ (List.mem_of_getElem? (i := 17) rfl))) Via.refl e36 Fa_lower_32 (g := (mkF m 47 #[.val (.ref a), .val (.ref b), .val (.int (1 : Int32))] [(.ref a), (.int (1 : Int32)), (.ref b)])) rfl rfl (hb hby d5_47)
      obtain ⟨c39, A39, -, S39, M39, H39, -⟩ := id VaL_32
      have i39 := inb_of (j := (1 : Int32)) S39 ⟨(by decide : ¬ ((1 : Int32) < (0 : Int32))), (by decide : (1 : Int32) < (2 : Int32))⟩
      obtain ⟨c40, A40, q40, S40, M40, H40, U40⟩ := id Vb_32
      obtain ⟨T40, h40, X40, e40, W40, st40⟩ := stD X38 hx hZ e38 A40 (j := (1 : Int32)) (inb_of S40 ⟨(by decide : ¬ ((1 : Int32) < (0 : Int32))), (by decide : (1 : Int32) < (2 : Int32))⟩) (g := (mkF m 52 #[.val (.ref a), .val (.ref b), .val (.int (1 : Int32))] [(.double lo1), (.int (1 : Int32)), (.ref b)])) rfl rfl (hb hby d5_52)
      have N40 := Fr.snoc X40 N32 ge_b
      have VaL_40 : Arv Z h40 aL kL .double (2 : Int32) [(.double lo0), (.double lo1)] (.double 0) := VaL_32.other W40 ne_aL_b
      have VaU_40 : Arv Z h40 aU kU .double (2 : Int32) [(.double up0), (.double up1)] (.double 0) := VaU_32.other W40 ne_aU_b
      have Fa_values_40 : Fld Z h40 a "com/example/umbel/umbel/check/ValueBounds" "values" "[D" .null := Fa_values_32.other W40 (Or.inl ne_a_b)
      have Fa_lower_40 : Fld Z h40 a "com/example/umbel/umbel/check/ValueBounds" "lower" "[D" (.ref aL) := Fa_lower_32.other W40 (Or.inl ne_a_b)
      have Fa_upper_40 : Fld Z h40 a "com/example/umbel/umbel/check/ValueBounds" "upper" "[D" (.ref aU) := Fa_upper_32.other W40 (Or.inl ne_a_b)
      have Vb_40 : Arv Z h40 b k_b .double (2 : Int32) [(.double lo0), (.double lo1)] (.double 0) := Arv.set A40 q40 S40 M40 H40 U40 rfl W40 1 rfl (Nat.le_of_ble_eq_true rfl)
      have Z40 : n0 ≤ h40.size := Nat.le_trans Z32 (Keep.of_wr W40).1
      obtain ⟨c41, A41, -, S41, M41, -, -⟩ := id Vb_40
      obtain ⟨fs, hr, hrun, hended, hW, hsame⟩ := X40.leave (v := some (.ref b)) (fun h => by rw [Bd.returns] at h; cases h)
      refine ⟨_, _, pre0 _ ?_, hrun, hended, _, _, rfl, ?_, ⟨_, rfl⟩, hW, hsame.mono (by decide) (by decide)⟩
      · show Steps p.tables e below (s₁.setTop (mkF m 0 #[.val (.ref a), .unset, .unset] [])) _
        refine XS.aloadN X0.here hx rfl (hb hby d5_0) rfl rfl ?_
        show Steps p.tables e below (s₁.setTop (mkF m 1 #[.val (.ref a), .unset, .unset] [(.ref a)])) _
        refine st21 _ ?_
        show Steps p.tables e below (T21.setTop (mkF m 4 #[.val (.ref a), .unset, .unset] [.null])) _
        refine XS.ifnullYes X21.here hx rfl (pc0 := 4) (pc' := 12) rfl (hb hby d5_4) rfl (by decide) (by decide) ?_
        show Steps p.tables e below (T21.setTop (mkF m 12 #[.val (.ref a), .unset, .unset] [])) _
        refine XS.aloadN X21.here hx rfl (hb hby d5_12) rfl rfl ?_
        show Steps p.tables e below (T21.setTop (mkF m 13 #[.val (.ref a), .unset, .unset] [(.ref a)])) _
        refine st22 _ ?_
        show Steps p.tables e below (T22.setTop (mkF m 16 #[.val (.ref a), .unset, .unset] [(.ref aL)])) _
        refine X22.arraylength hx (by rw [e22]; exact A23.1) (State.isArrayOf_alike hZ.alike A23.2.1) (g := (mkF m 16 #[.val (.ref a), .unset, .unset] [(.ref aL)])) rfl rfl (hb hby d5_16) _ ?_
        rw [len_of S23 M23]
        show Steps p.tables e below (T22.setTop (mkF m 17 #[.val (.ref a), .unset, .unset] [(.int (2 : Int32))])) _
        refine st24 _ ?_
        show Steps p.tables e below (T24.setTop (mkF m 19 #[.val (.ref a), .unset, .unset] [(.ref b)])) _
        refine XS.astoreN X24.here hx rfl (hb hby d5_19) rfl rfl (l' := #[.val (.ref a), .val (.ref b), .unset]) rfl ?_
        show Steps p.tables e below (T24.setTop (mkF m 20 #[.val (.ref a), .val (.ref b), .unset] [])) _
        refine XS.iconst X24.here hx rfl (hb hby d5_20) ?_
        show Steps p.tables e below (T24.setTop (mkF m 21 #[.val (.ref a), .val (.ref b), .unset] [(.int (0 : Int32))])) _
        refine XS.istoreN X24.here hx rfl (hb hby d5_21) rfl (l' := #[.val (.ref a), .val (.ref b), .val (.int (0 : Int32))]) rfl ?_
        show Steps p.tables e below (T24.setTop (mkF m 22 #[.val (.ref a), .val (.ref b), .val (.int (0 : Int32))] [])) _
        refine XS.iloadN X24.here hx rfl (hb hby d5_22) rfl ?_
        show Steps p.tables e below (T24.setTop (mkF m 23 #[.val (.ref a), .val (.ref b), .val (.int (0 : Int32))] [(.int (0 : Int32))])) _
        refine XS.aloadN X24.here hx rfl (hb hby d5_23) rfl rfl ?_
        show Steps p.tables e below (T24.setTop (mkF m 24 #[.val (.ref a), .val (.ref b), .val (.int (0 : Int32))] [(.ref b), (.int (0 : Int32))])) _
        refine X24.arraylength hx (by rw [e24]; exact A25.1) (State.isArrayOf_alike hZ.alike A25.2.1) (g := (mkF m 24 #[.val (.ref a), .val (.ref b), .val (.int (0 : Int32))] [(.ref b), (.int (0 : Int32))])) rfl rfl (hb hby d5_24) _ ?_
        rw [len_of S25 M25]
        show Steps p.tables e below (T24.setTop (mkF m 25 #[.val (.ref a), .val (.ref b), .val (.int (0 : Int32))] [(.int (2 : Int32)), (.int (0 : Int32))])) _
        refine XS.icmpNo X24.here hx rfl (hb hby d5_25) rfl (by decide) ?_
        show Steps p.tables e below (T24.setTop (mkF m 28 #[.val (.ref a), .val (.ref b), .val (.int (0 : Int32))] [])) _
        refine XS.aloadN X24.here hx rfl (hb hby d5_28) rfl rfl ?_
        show Steps p.tables e below (T24.setTop (mkF m 29 #[.val (.ref a), .val (.ref b), .val (.int (0 : Int32))] [(.ref a)])) _
        refine st26 _ ?_
        show Steps p.tables e below (T26.setTop (mkF m 32 #[.val (.ref a), .val (.ref b), .val (.int (0 : Int32))] [(.ref aL)])) _
        refine XS.iloadN X26.here hx rfl (hb hby d5_32) rfl ?_
        show Steps p.tables e below (T26.setTop (mkF m 33 #[.val (.ref a), .val (.ref b), .val (.int (0 : Int32))] [(.int (0 : Int32)), (.ref aL)])) _
        refine X26.daload hx (j := (0 : Int32)) (v := (.double lo0)) (by rw [e26]; exact A27.1) (State.isArrayOf_alike hZ.alike A27.2.1) A27.2.2 i27 (H27.at i27 rfl) (g := (mkF m 33 #[.val (.ref a), .val (.ref b), .val (.int (0 : Int32))] [(.int (0 : Int32)), (.ref aL)])) rfl rfl (hb hby d5_33) _ ?_
        show Steps p.tables e below (T26.setTop (mkF m 34 #[.val (.ref a), .val (.ref b), .val (.int (0 : Int32))] [(.double lo0)])) _
        refine XS.aloadN X26.here hx rfl (hb hby d5_34) rfl rfl ?_
        show Steps p.tables e below (T26.setTop (mkF m 35 #[.val (.ref a), .val (.ref b), .val (.int (0 : Int32))] [(.ref a), (.double lo0)])) _
        refine st28 _ ?_
        show Steps p.tables e below (T28.setTop (mkF m 38 #[.val (.ref a), .val (.ref b), .val (.int (0 : Int32))] [(.ref aU), (.double lo0)])) _
        refine XS.iloadN X28.here hx rfl (hb hby d5_38) rfl ?_
        show Steps p.tables e below (T28.setTop (mkF m 39 #[.val (.ref a), .val (.ref b), .val (.int (0 : Int32))] [(.int (0 : Int32)), (.ref aU), (.double lo0)])) _
        refine X28.daload hx (j := (0 : Int32)) (v := (.double up0)) (by rw [e28]; exact A29.1) (State.isArrayOf_alike hZ.alike A29.2.1) A29.2.2 i29 (H29.at i29 rfl) (g := (mkF m 39 #[.val (.ref a), .val (.ref b), .val (.int (0 : Int32))] [(.int (0 : Int32)), (.ref aU), (.double lo0)])) rfl rfl (hb hby d5_39) _ ?_
        show Steps p.tables e below (T28.setTop (mkF m 40 #[.val (.ref a), .val (.ref b), .val (.int (0 : Int32))] [(.double up0), (.double lo0)])) _
        refine XS.dcmpS X28.here hx rfl (hb hby d5_40) rfl rfl ?_
        show Steps p.tables e below (T28.setTop (mkF m 41 #[.val (.ref a), .val (.ref b), .val (.int (0 : Int32))] [(.int (cmpValue (FP.dcmp lo0 up0) .l))])) _
        refine XS.ifNo X28.here hx rfl (hb hby d5_41) rfl ((if0 _ _).trans (teq c0).2) ?_
        show Steps p.tables e below (T28.setTop (mkF m 44 #[.val (.ref a), .val (.ref b), .val (.int (0 : Int32))] [])) _
        refine XS.aloadN X28.here hx rfl (hb hby d5_44) rfl rfl ?_
        show Steps p.tables e below (T28.setTop (mkF m 45 #[.val (.ref a), .val (.ref b), .val (.int (0 : Int32))] [(.ref b)])) _
        refine XS.iloadN X28.here hx rfl (hb hby d5_45) rfl ?_
        show Steps p.tables e below (T28.setTop (mkF m 46 #[.val (.ref a), .val (.ref b), .val (.int (0 : Int32))] [(.int (0 : Int32)), (.ref b)])) _
        refine XS.aloadN X28.here hx rfl (hb hby d5_46) rfl rfl ?_
        show Steps p.tables e below (T28.setTop (mkF m 47 #[.val (.ref a), .val (.ref b), .val (.int (0 : Int32))] [(.ref a), (.int (0 : Int32)), (.ref b)])) _
        refine st30 _ ?_
        show Steps p.tables e below (T30.setTop (mkF m 50 #[.val (.ref a), .val (.ref b), .val (.int (0 : Int32))] [(.ref aL), (.int (0 : Int32)), (.ref b)])) _
        refine XS.iloadN X30.here hx rfl (hb hby d5_50) rfl ?_
        show Steps p.tables e below (T30.setTop (mkF m 51 #[.val (.ref a), .val (.ref b), .val (.int (0 : Int32))] [(.int (0 : Int32)), (.ref aL), (.int (0 : Int32)), (.ref b)])) _
        refine X30.daload hx (j := (0 : Int32)) (v := (.double lo0)) (by rw [e30]; exact A31.1) (State.isArrayOf_alike hZ.alike A31.2.1) A31.2.2 i31 (H31.at i31 rfl) (g := (mkF m 51 #[.val (.ref a), .val (.ref b), .val (.int (0 : Int32))] [(.int (0 : Int32)), (.ref aL), (.int (0 : Int32)), (.ref b)])) rfl rfl (hb hby d5_51) _ ?_
        show Steps p.tables e below (T30.setTop (mkF m 52 #[.val (.ref a), .val (.ref b), .val (.int (0 : Int32))] [(.double lo0), (.int (0 : Int32)), (.ref b)])) _
        refine st32 _ ?_
        show Steps p.tables e below (T32.setTop (mkF m 53 #[.val (.ref a), .val (.ref b), .val (.int (0 : Int32))] [])) _
        refine XS.goto X32.here hx rfl (pc0 := 53) (pc' := 76) rfl (hb hby d5_53) (by decide) (by decide) ?_
        show Steps p.tables e below (T32.setTop (mkF m 76 #[.val (.ref a), .val (.ref b), .val (.int (0 : Int32))] [])) _
        refine XS.iinc X32.here hx rfl (hb hby d5_76) rfl (l' := #[.val (.ref a), .val (.ref b), .val (.int (1 : Int32))]) rfl ?_
        show Steps p.tables e below (T32.setTop (mkF m 79 #[.val (.ref a), .val (.ref b), .val (.int (1 : Int32))] [])) _
        refine XS.goto X32.here hx rfl (pc0 := 79) (pc' := 22) rfl (hb hby d5_79) (by decide) (by decide) ?_
        show Steps p.tables e below (T32.setTop (mkF m 22 #[.val (.ref a), .val (.ref b), .val (.int (1 : Int32))] [])) _
        refine XS.iloadN X32.here hx rfl (hb hby d5_22) rfl ?_
        show Steps p.tables e below (T32.setTop (mkF m 23 #[.val (.ref a), .val (.ref b), .val (.int (1 : Int32))] [(.int (1 : Int32))])) _
        refine XS.aloadN X32.here hx rfl (hb hby d5_23) rfl rfl ?_
        show Steps p.tables e below (T32.setTop (mkF m 24 #[.val (.ref a), .val (.ref b), .val (.int (1 : Int32))] [(.ref b), (.int (1 : Int32))])) _
        refine X32.arraylength hx (by rw [e32]; exact A33.1) (State.isArrayOf_alike hZ.alike A33.2.1) (g := (mkF m 24 #[.val (.ref a), .val (.ref b), .val (.int (1 : Int32))] [(.ref b), (.int (1 : Int32))])) rfl rfl (hb hby d5_24) _ ?_
        rw [len_of S33 M33]
        show Steps p.tables e below (T32.setTop (mkF m 25 #[.val (.ref a), .val (.ref b), .val (.int (1 : Int32))] [(.int (2 : Int32)), (.int (1 : Int32))])) _
        refine XS.icmpNo X32.here hx rfl (hb hby d5_25) rfl (by decide) ?_
        show Steps p.tables e below (T32.setTop (mkF m 28 #[.val (.ref a), .val (.ref b), .val (.int (1 : Int32))] [])) _
        refine XS.aloadN X32.here hx rfl (hb hby d5_28) rfl rfl ?_
        show Steps p.tables e below (T32.setTop (mkF m 29 #[.val (.ref a), .val (.ref b), .val (.int (1 : Int32))] [(.ref a)])) _
        refine st34 _ ?_
        show Steps p.tables e below (T34.setTop (mkF m 32 #[.val (.ref a), .val (.ref b), .val (.int (1 : Int32))] [(.ref aL)])) _
        refine XS.iloadN X34.here hx rfl (hb hby d5_32) rfl ?_
        show Steps p.tables e below (T34.setTop (mkF m 33 #[.val (.ref a), .val (.ref b), .val (.int (1 : Int32))] [(.int (1 : Int32)), (.ref aL)])) _
        refine X34.daload hx (j := (1 : Int32)) (v := (.double lo1)) (by rw [e34]; exact A35.1) (State.isArrayOf_alike hZ.alike A35.2.1) A35.2.2 i35 (H35.at i35 rfl) (g := (mkF m 33 #[.val (.ref a), .val (.ref b), .val (.int (1 : Int32))] [(.int (1 : Int32)), (.ref aL)])) rfl rfl (hb hby d5_33) _ ?_
        show Steps p.tables e below (T34.setTop (mkF m 34 #[.val (.ref a), .val (.ref b), .val (.int (1 : Int32))] [(.double lo1)])) _
        refine XS.aloadN X34.here hx rfl (hb hby d5_34) rfl rfl ?_
        show Steps p.tables e below (T34.setTop (mkF m 35 #[.val (.ref a), .val (.ref b), .val (.int (1 : Int32))] [(.ref a), (.double lo1)])) _
        refine st36 _ ?_
        show Steps p.tables e below (T36.setTop (mkF m 38 #[.val (.ref a), .val (.ref b), .val (.int (1 : Int32))] [(.ref aU), (.double lo1)])) _
        refine XS.iloadN X36.here hx rfl (hb hby d5_38) rfl ?_
        show Steps p.tables e below (T36.setTop (mkF m 39 #[.val (.ref a), .val (.ref b), .val (.int (1 : Int32))] [(.int (1 : Int32)), (.ref aU), (.double lo1)])) _
        refine X36.daload hx (j := (1 : Int32)) (v := (.double up1)) (by rw [e36]; exact A37.1) (State.isArrayOf_alike hZ.alike A37.2.1) A37.2.2 i37 (H37.at i37 rfl) (g := (mkF m 39 #[.val (.ref a), .val (.ref b), .val (.int (1 : Int32))] [(.int (1 : Int32)), (.ref aU), (.double lo1)])) rfl rfl (hb hby d5_39) _ ?_
        show Steps p.tables e below (T36.setTop (mkF m 40 #[.val (.ref a), .val (.ref b), .val (.int (1 : Int32))] [(.double up1), (.double lo1)])) _
        refine XS.dcmpS X36.here hx rfl (hb hby d5_40) rfl rfl ?_
        show Steps p.tables e below (T36.setTop (mkF m 41 #[.val (.ref a), .val (.ref b), .val (.int (1 : Int32))] [(.int (cmpValue (FP.dcmp lo1 up1) .l))])) _
        refine XS.ifNo X36.here hx rfl (hb hby d5_41) rfl ((if0 _ _).trans (teq c1).2) ?_
        show Steps p.tables e below (T36.setTop (mkF m 44 #[.val (.ref a), .val (.ref b), .val (.int (1 : Int32))] [])) _
        refine XS.aloadN X36.here hx rfl (hb hby d5_44) rfl rfl ?_
        show Steps p.tables e below (T36.setTop (mkF m 45 #[.val (.ref a), .val (.ref b), .val (.int (1 : Int32))] [(.ref b)])) _
        refine XS.iloadN X36.here hx rfl (hb hby d5_45) rfl ?_
        show Steps p.tables e below (T36.setTop (mkF m 46 #[.val (.ref a), .val (.ref b), .val (.int (1 : Int32))] [(.int (1 : Int32)), (.ref b)])) _
        refine XS.aloadN X36.here hx rfl (hb hby d5_46) rfl rfl ?_
        show Steps p.tables e below (T36.setTop (mkF m 47 #[.val (.ref a), .val (.ref b), .val (.int (1 : Int32))] [(.ref a), (.int (1 : Int32)), (.ref b)])) _
        refine st38 _ ?_
        show Steps p.tables e below (T38.setTop (mkF m 50 #[.val (.ref a), .val (.ref b), .val (.int (1 : Int32))] [(.ref aL), (.int (1 : Int32)), (.ref b)])) _
        refine XS.iloadN X38.here hx rfl (hb hby d5_50) rfl ?_
        show Steps p.tables e below (T38.setTop (mkF m 51 #[.val (.ref a), .val (.ref b), .val (.int (1 : Int32))] [(.int (1 : Int32)), (.ref aL), (.int (1 : Int32)), (.ref b)])) _
        refine X38.daload hx (j := (1 : Int32)) (v := (.double lo1)) (by rw [e38]; exact A39.1) (State.isArrayOf_alike hZ.alike A39.2.1) A39.2.2 i39 (H39.at i39 rfl) (g := (mkF m 51 #[.val (.ref a), .val (.ref b), .val (.int (1 : Int32))] [(.int (1 : Int32)), (.ref aL), (.int (1 : Int32)), (.ref b)])) rfl rfl (hb hby d5_51) _ ?_
        show Steps p.tables e below (T38.setTop (mkF m 52 #[.val (.ref a), .val (.ref b), .val (.int (1 : Int32))] [(.double lo1), (.int (1 : Int32)), (.ref b)])) _
        refine st40 _ ?_
        show Steps p.tables e below (T40.setTop (mkF m 53 #[.val (.ref a), .val (.ref b), .val (.int (1 : Int32))] [])) _
        refine XS.goto X40.here hx rfl (pc0 := 53) (pc' := 76) rfl (hb hby d5_53) (by decide) (by decide) ?_
        show Steps p.tables e below (T40.setTop (mkF m 76 #[.val (.ref a), .val (.ref b), .val (.int (1 : Int32))] [])) _
        refine XS.iinc X40.here hx rfl (hb hby d5_76) rfl (l' := #[.val (.ref a), .val (.ref b), .val (.int (2 : Int32))]) rfl ?_
        show Steps p.tables e below (T40.setTop (mkF m 79 #[.val (.ref a), .val (.ref b), .val (.int (2 : Int32))] [])) _
        refine XS.goto X40.here hx rfl (pc0 := 79) (pc' := 22) rfl (hb hby d5_79) (by decide) (by decide) ?_
        show Steps p.tables e below (T40.setTop (mkF m 22 #[.val (.ref a), .val (.ref b), .val (.int (2 : Int32))] [])) _
        refine XS.iloadN X40.here hx rfl (hb hby d5_22) rfl ?_
        show Steps p.tables e below (T40.setTop (mkF m 23 #[.val (.ref a), .val (.ref b), .val (.int (2 : Int32))] [(.int (2 : Int32))])) _
        refine XS.aloadN X40.here hx rfl (hb hby d5_23) rfl rfl ?_
        show Steps p.tables e below (T40.setTop (mkF m 24 #[.val (.ref a), .val (.ref b), .val (.int (2 : Int32))] [(.ref b), (.int (2 : Int32))])) _
        refine X40.arraylength hx (by rw [e40]; exact A41.1) (State.isArrayOf_alike hZ.alike A41.2.1) (g := (mkF m 24 #[.val (.ref a), .val (.ref b), .val (.int (2 : Int32))] [(.ref b), (.int (2 : Int32))])) rfl rfl (hb hby d5_24) _ ?_
        rw [len_of S41 M41]
        show Steps p.tables e below (T40.setTop (mkF m 25 #[.val (.ref a), .val (.ref b), .val (.int (2 : Int32))] [(.int (2 : Int32)), (.int (2 : Int32))])) _
        refine XS.icmpYes X40.here hx rfl (pc0 := 25) (pc' := 82) rfl (hb hby d5_25) rfl (by decide) (by decide) (by decide) ?_
        show Steps p.tables e below (T40.setTop (mkF m 82 #[.val (.ref a), .val (.ref b), .val (.int (2 : Int32))] [])) _
        refine XS.aloadN X40.here hx rfl (hb hby d5_82) rfl rfl ?_
        show Steps p.tables e below (T40.setTop (mkF m 83 #[.val (.ref a), .val (.ref b), .val (.int (2 : Int32))] [(.ref b)])) _
        exact retOut X40 hx Bd.returns rfl (Or.inr (Or.inr (Or.inr (Or.inr ⟨rfl, rfl, rfl⟩)))) (hb hby d5_83) hr
      · show Q5 Z a aL kL aU kU lo0 lo1 up0 up1 r0 r1 h0 n0 _ T40.heap _
        rw [e40]
        refine ⟨b, k_b, rfl, N40, Nat.le_of_eq g_b.symm, (((Keep.refl h0 []).ext E24).wr W32 (Or.inr (Nat.le_of_eq g_b.symm))).wr W40 (Or.inr (Nat.le_of_eq g_b.symm)), ?_⟩
        rw [hx0, hx1]
        exact Vb_40
    · obtain ⟨T21, X21, e21, st21⟩ := getF X0 hx hZ hown (host := "") (Or.inl (hw _ (List.mem_of_getElem? (i := 19) rfl))) Via.refl e0 FV (g := (mkF m 1 #[.val (.ref a), .unset, .unset] [(.ref a)])) rfl rfl (hb hby d5_1)
      obtain ⟨T22, X22, e22, st22⟩ := getF X21 hx hZ hown (host := "") (Or.inl (hw _ (List.mem_of_getElem? (i := 17) rfl))) Via.refl e21 FL (g := (mkF m 13 #[.val (.ref a), .unset, .unset] [(.ref a)])) rfl rfl (hb hby d5_13)
      obtain ⟨c23, A23, -, S23, M23, -, -⟩ := id VL
      obtain ⟨T24, h24, k_b, X24, e24, E24, A24, st24⟩ := newP X22 hx hZ (hw _ (List.mem_of_getElem? (i := 0) rfl)) e22 (g := (mkF m 17 #[.val (.ref a), .unset, .unset] [(.int (2 : Int32))])) rfl (hb hby d5_17) rfl (by decide : ¬ ((2 : Int32) < (0 : Int32))) (cap := 2) (by decide : (2 : Int32).toNatClampNeg ≤ 2) (by decide) (by decide) (by decide)
      obtain ⟨b, g_b⟩ : ∃ z, z = h0.size := ⟨_, rfl⟩
      rw [← g_b] at A24 st24
      have ge_b : n0 ≤ b := Nat.le_trans Z0 (Nat.le_of_eq g_b.symm)
      have ne_aL_b : aL ≠ b := Nat.ne_of_lt (Nat.lt_of_lt_of_le VL.lt (Nat.le_of_eq g_b.symm))
      have ne_aU_b : aU ≠ b := Nat.ne_of_lt (Nat.lt_of_lt_of_le VU.lt (Nat.le_of_eq g_b.symm))
      have ne_a_b : a ≠ b := Nat.ne_of_lt (Nat.lt_of_lt_of_le FL.lt (Nat.le_of_eq g_b.symm))
      have VaL_24 : Arv Z h24 aL kL .double (2 : Int32) [(.double lo0), (.double lo1)] (.double 0) := VL.ext E24
      have VaU_24 : Arv Z h24 aU kU .double (2 : Int32) [(.double up0), (.double up1)] (.double 0) := VU.ext E24
      have Fa_values_24 : Fld Z h24 a "com/example/umbel/umbel/check/ValueBounds" "values" "[D" .null := FV.ext E24
      have Fa_lower_24 : Fld Z h24 a "com/example/umbel/umbel/check/ValueBounds" "lower" "[D" (.ref aL) := FL.ext E24
      have Fa_upper_24 : Fld Z h24 a "com/example/umbel/umbel/check/ValueBounds" "upper" "[D" (.ref aU) := FU.ext E24
      have Z24 : n0 ≤ h24.size := Nat.le_trans Z0 E24.1
      have P24 : Arv Z h24 b k_b .double (2 : Int32) [] (.double 0) := Arv.new A24 (by decide : ¬ ((2 : Int32) < (0 : Int32)))
      have Vb_24 : Arv Z h24 b k_b .double (2 : Int32) [(.double 0), (.double 0)] (.double 0) := P24.pad (pad_rep [] (.double 0) 2)
      obtain ⟨c25, A25, -, S25, M25, -, -⟩ := id Vb_24
      obtain ⟨T26, X26, e26, st26⟩ := getF X24 hx hZ hown (host := "") (Or.inl (hw _ (List.mem_of_getElem? (i := 17) rfl))) Via.refl e24 Fa_lower_24 (g := (mkF m 29 #[.val (.ref a), .val (.ref b), .val (.int (0 : Int32))] [(.ref a)])) rfl rfl (hb hby d5_29)
      obtain ⟨c27, A27, -, S27, M27, H27, -⟩ := id VaL_24
      have i27 := inb_of (j := (0 : Int32)) S27 ⟨(by decide : ¬ ((0 : Int32) < (0 : Int32))), (by decide : (0 : Int32) < (2 : Int32))⟩
      obtain ⟨T28, X28, e28, st28⟩ := getF X26 hx hZ hown (host := "") (Or.inl (hw _ (List.mem_of_getElem? (i := 21) rfl))) Via.refl e26 Fa_upper_24 (g := (mkF m 35 #[.val (.ref a), .val (.ref b), .val (.int (0 : Int32))] [(.ref a), (.double lo0)])) rfl rfl (hb hby d5_35)
      obtain ⟨c29, A29, -, S29, M29, H29, -⟩ := id VaU_24
      have i29 := inb_of (j := (0 : Int32)) S29 ⟨(by decide : ¬ ((0 : Int32) < (0 : Int32))), (by decide : (0 : Int32) < (2 : Int32))⟩
      obtain ⟨T30, X30, e30, st30⟩ := getF X28 hx hZ hown (host := "") (Or.inl (hw _ (List.mem_of_getElem? (i := 17) rfl))) Via.refl e28 Fa_lower_24 (g := (mkF m 47 #[.val (.ref a), .val (.ref b), .val (.int (0 : Int32))] [(.ref a), (.int (0 : Int32)), (.ref b)])) rfl rfl (hb hby d5_47)
      obtain ⟨c31, A31, -, S31, M31, H31, -⟩ := id VaL_24
      have i31 := inb_of (j := (0 : Int32)) S31 ⟨(by decide : ¬ ((0 : Int32) < (0 : Int32))), (by decide : (0 : Int32) < (2 : Int32))⟩
      obtain ⟨c32, A32, q32, S32, M32, H32, U32⟩ := id Vb_24
      obtain ⟨T32, h32, X32, e32, W32, st32⟩ := stD X30 hx hZ e30 A32 (j := (0 : Int32)) (inb_of S32 ⟨(by decide : ¬ ((0 : Int32) < (0 : Int32))), (by decide : (0 : Int32) < (2 : Int32))⟩) (g := (mkF m 52 #[.val (.ref a), .val (.ref b), .val (.int (0 : Int32))] [(.double lo0), (.int (0 : Int32)), (.ref b)])) rfl rfl (hb hby d5_52)
      have N32 := Fr.snoc X32 N0 ge_b
      have VaL_32 : Arv Z h32 aL kL .double (2 : Int32) [(.double lo0), (.double lo1)] (.double 0) := VaL_24.other W32 ne_aL_b
      have VaU_32 : Arv Z h32 aU kU .double (2 : Int32) [(.double up0), (.double up1)] (.double 0) := VaU_24.other W32 ne_aU_b
      have Fa_values_32 : Fld Z h32 a "com/example/umbel/umbel/check/ValueBounds" "values" "[D" .null := Fa_values_24.other W32 (Or.inl ne_a_b)
      have Fa_lower_32 : Fld Z h32 a "com/example/umbel/umbel/check/ValueBounds" "lower" "[D" (.ref aL) := Fa_lower_24.other W32 (Or.inl ne_a_b)
      have Fa_upper_32 : Fld Z h32 a "com/example/umbel/umbel/check/ValueBounds" "upper" "[D" (.ref aU) := Fa_upper_24.other W32 (Or.inl ne_a_b)
      have Vb_32 : Arv Z h32 b k_b .double (2 : Int32) [(.double lo0), (.double 0)] (.double 0) := Arv.set A32 q32 S32 M32 H32 U32 rfl W32 0 rfl (Nat.le_of_ble_eq_true rfl)
      have Z32 : n0 ≤ h32.size := Nat.le_trans Z24 (Keep.of_wr W32).1
      obtain ⟨c33, A33, -, S33, M33, -, -⟩ := id Vb_32
      obtain ⟨T34, X34, e34, st34⟩ := getF X32 hx hZ hown (host := "") (Or.inl (hw _ (List.mem_of_getElem? (i := 17) rfl))) Via.refl e32 Fa_lower_32 (g := (mkF m 29 #[.val (.ref a), .val (.ref b), .val (.int (1 : Int32))] [(.ref a)])) rfl rfl (hb hby d5_29)
      obtain ⟨c35, A35, -, S35, M35, H35, -⟩ := id VaL_32
      have i35 := inb_of (j := (1 : Int32)) S35 ⟨(by decide : ¬ ((1 : Int32) < (0 : Int32))), (by decide : (1 : Int32) < (2 : Int32))⟩
      obtain ⟨T36, X36, e36, st36⟩ := getF X34 hx hZ hown (host := "") (Or.inl (hw _ (List.mem_of_getElem? (i := 21) rfl))) Via.refl e34 Fa_upper_32 (g := (mkF m 35 #[.val (.ref a), .val (.ref b), .val (.int (1 : Int32))] [(.ref a), (.double lo1)])) rfl rfl (hb hby d5_35)
      obtain ⟨c37, A37, -, S37, M37, H37, -⟩ := id VaU_32
      have i37 := inb_of (j := (1 : Int32)) S37 ⟨(by decide : ¬ ((1 : Int32) < (0 : Int32))), (by decide : (1 : Int32) < (2 : Int32))⟩
      obtain ⟨T38, X38, e38, st38⟩ := getF X36 hx hZ hown (host := "") (Or.inl (hw _ (List.mem_of_getElem? (i := 17) rfl))) Via.refl e36 Fa_lower_32 (g := (mkF m 59 #[.val (.ref a), .val (.ref b), .val (.int (1 : Int32))] [(.ref a), (.int (1 : Int32)), (.ref b)])) rfl rfl (hb hby d5_59)
      obtain ⟨c39, A39, -, S39, M39, H39, -⟩ := id VaL_32
      have i39 := inb_of (j := (1 : Int32)) S39 ⟨(by decide : ¬ ((1 : Int32) < (0 : Int32))), (by decide : (1 : Int32) < (2 : Int32))⟩
      obtain ⟨T40, X40, e40, st40⟩ := getF X38 hx hZ hown (host := "") (Or.inl (hw _ (List.mem_of_getElem? (i := 21) rfl))) Via.refl e38 Fa_upper_32 (g := (mkF m 65 #[.val (.ref a), .val (.ref b), .val (.int (1 : Int32))] [(.ref a), (.double lo1), (.int (1 : Int32)), (.ref b)])) rfl rfl (hb hby d5_65)
      obtain ⟨c41, A41, -, S41, M41, H41, -⟩ := id VaU_32
      have i41 := inb_of (j := (1 : Int32)) S41 ⟨(by decide : ¬ ((1 : Int32) < (0 : Int32))), (by decide : (1 : Int32) < (2 : Int32))⟩
      obtain ⟨c42, A42, q42, S42, M42, H42, U42⟩ := id Vb_32
      obtain ⟨T42, h42, X42, e42, W42, st42⟩ := stD X40 hx hZ e40 A42 (j := (1 : Int32)) (inb_of S42 ⟨(by decide : ¬ ((1 : Int32) < (0 : Int32))), (by decide : (1 : Int32) < (2 : Int32))⟩) (g := (mkF m 75 #[.val (.ref a), .val (.ref b), .val (.int (1 : Int32))] [(.double (FP.ddiv (FP.dadd lo1 up1) (4611686018427387904 : UInt64))), (.int (1 : Int32)), (.ref b)])) rfl rfl (hb hby d5_75)
      have N42 := Fr.snoc X42 N32 ge_b
      have VaL_42 : Arv Z h42 aL kL .double (2 : Int32) [(.double lo0), (.double lo1)] (.double 0) := VaL_32.other W42 ne_aL_b
      have VaU_42 : Arv Z h42 aU kU .double (2 : Int32) [(.double up0), (.double up1)] (.double 0) := VaU_32.other W42 ne_aU_b
      have Fa_values_42 : Fld Z h42 a "com/example/umbel/umbel/check/ValueBounds" "values" "[D" .null := Fa_values_32.other W42 (Or.inl ne_a_b)
      have Fa_lower_42 : Fld Z h42 a "com/example/umbel/umbel/check/ValueBounds" "lower" "[D" (.ref aL) := Fa_lower_32.other W42 (Or.inl ne_a_b)
      have Fa_upper_42 : Fld Z h42 a "com/example/umbel/umbel/check/ValueBounds" "upper" "[D" (.ref aU) := Fa_upper_32.other W42 (Or.inl ne_a_b)
      have Vb_42 : Arv Z h42 b k_b .double (2 : Int32) [(.double lo0), (.double (FP.ddiv (FP.dadd lo1 up1) (4611686018427387904 : UInt64)))] (.double 0) := Arv.set A42 q42 S42 M42 H42 U42 rfl W42 1 rfl (Nat.le_of_ble_eq_true rfl)
      have Z42 : n0 ≤ h42.size := Nat.le_trans Z32 (Keep.of_wr W42).1
      obtain ⟨c43, A43, -, S43, M43, -, -⟩ := id Vb_42
      obtain ⟨fs, hr, hrun, hended, hW, hsame⟩ := X42.leave (v := some (.ref b)) (fun h => by rw [Bd.returns] at h; cases h)
      refine ⟨_, _, pre0 _ ?_, hrun, hended, _, _, rfl, ?_, ⟨_, rfl⟩, hW, hsame.mono (by decide) (by decide)⟩
      · show Steps p.tables e below (s₁.setTop (mkF m 0 #[.val (.ref a), .unset, .unset] [])) _
        refine XS.aloadN X0.here hx rfl (hb hby d5_0) rfl rfl ?_
        show Steps p.tables e below (s₁.setTop (mkF m 1 #[.val (.ref a), .unset, .unset] [(.ref a)])) _
        refine st21 _ ?_
        show Steps p.tables e below (T21.setTop (mkF m 4 #[.val (.ref a), .unset, .unset] [.null])) _
        refine XS.ifnullYes X21.here hx rfl (pc0 := 4) (pc' := 12) rfl (hb hby d5_4) rfl (by decide) (by decide) ?_
        show Steps p.tables e below (T21.setTop (mkF m 12 #[.val (.ref a), .unset, .unset] [])) _
        refine XS.aloadN X21.here hx rfl (hb hby d5_12) rfl rfl ?_
        show Steps p.tables e below (T21.setTop (mkF m 13 #[.val (.ref a), .unset, .unset] [(.ref a)])) _
        refine st22 _ ?_
        show Steps p.tables e below (T22.setTop (mkF m 16 #[.val (.ref a), .unset, .unset] [(.ref aL)])) _
        refine X22.arraylength hx (by rw [e22]; exact A23.1) (State.isArrayOf_alike hZ.alike A23.2.1) (g := (mkF m 16 #[.val (.ref a), .unset, .unset] [(.ref aL)])) rfl rfl (hb hby d5_16) _ ?_
        rw [len_of S23 M23]
        show Steps p.tables e below (T22.setTop (mkF m 17 #[.val (.ref a), .unset, .unset] [(.int (2 : Int32))])) _
        refine st24 _ ?_
        show Steps p.tables e below (T24.setTop (mkF m 19 #[.val (.ref a), .unset, .unset] [(.ref b)])) _
        refine XS.astoreN X24.here hx rfl (hb hby d5_19) rfl rfl (l' := #[.val (.ref a), .val (.ref b), .unset]) rfl ?_
        show Steps p.tables e below (T24.setTop (mkF m 20 #[.val (.ref a), .val (.ref b), .unset] [])) _
        refine XS.iconst X24.here hx rfl (hb hby d5_20) ?_
        show Steps p.tables e below (T24.setTop (mkF m 21 #[.val (.ref a), .val (.ref b), .unset] [(.int (0 : Int32))])) _
        refine XS.istoreN X24.here hx rfl (hb hby d5_21) rfl (l' := #[.val (.ref a), .val (.ref b), .val (.int (0 : Int32))]) rfl ?_
        show Steps p.tables e below (T24.setTop (mkF m 22 #[.val (.ref a), .val (.ref b), .val (.int (0 : Int32))] [])) _
        refine XS.iloadN X24.here hx rfl (hb hby d5_22) rfl ?_
        show Steps p.tables e below (T24.setTop (mkF m 23 #[.val (.ref a), .val (.ref b), .val (.int (0 : Int32))] [(.int (0 : Int32))])) _
        refine XS.aloadN X24.here hx rfl (hb hby d5_23) rfl rfl ?_
        show Steps p.tables e below (T24.setTop (mkF m 24 #[.val (.ref a), .val (.ref b), .val (.int (0 : Int32))] [(.ref b), (.int (0 : Int32))])) _
        refine X24.arraylength hx (by rw [e24]; exact A25.1) (State.isArrayOf_alike hZ.alike A25.2.1) (g := (mkF m 24 #[.val (.ref a), .val (.ref b), .val (.int (0 : Int32))] [(.ref b), (.int (0 : Int32))])) rfl rfl (hb hby d5_24) _ ?_
        rw [len_of S25 M25]
        show Steps p.tables e below (T24.setTop (mkF m 25 #[.val (.ref a), .val (.ref b), .val (.int (0 : Int32))] [(.int (2 : Int32)), (.int (0 : Int32))])) _
        refine XS.icmpNo X24.here hx rfl (hb hby d5_25) rfl (by decide) ?_
        show Steps p.tables e below (T24.setTop (mkF m 28 #[.val (.ref a), .val (.ref b), .val (.int (0 : Int32))] [])) _
        refine XS.aloadN X24.here hx rfl (hb hby d5_28) rfl rfl ?_
        show Steps p.tables e below (T24.setTop (mkF m 29 #[.val (.ref a), .val (.ref b), .val (.int (0 : Int32))] [(.ref a)])) _
        refine st26 _ ?_
        show Steps p.tables e below (T26.setTop (mkF m 32 #[.val (.ref a), .val (.ref b), .val (.int (0 : Int32))] [(.ref aL)])) _
        refine XS.iloadN X26.here hx rfl (hb hby d5_32) rfl ?_
        show Steps p.tables e below (T26.setTop (mkF m 33 #[.val (.ref a), .val (.ref b), .val (.int (0 : Int32))] [(.int (0 : Int32)), (.ref aL)])) _
        refine X26.daload hx (j := (0 : Int32)) (v := (.double lo0)) (by rw [e26]; exact A27.1) (State.isArrayOf_alike hZ.alike A27.2.1) A27.2.2 i27 (H27.at i27 rfl) (g := (mkF m 33 #[.val (.ref a), .val (.ref b), .val (.int (0 : Int32))] [(.int (0 : Int32)), (.ref aL)])) rfl rfl (hb hby d5_33) _ ?_
        show Steps p.tables e below (T26.setTop (mkF m 34 #[.val (.ref a), .val (.ref b), .val (.int (0 : Int32))] [(.double lo0)])) _
        refine XS.aloadN X26.here hx rfl (hb hby d5_34) rfl rfl ?_
        show Steps p.tables e below (T26.setTop (mkF m 35 #[.val (.ref a), .val (.ref b), .val (.int (0 : Int32))] [(.ref a), (.double lo0)])) _
        refine st28 _ ?_
        show Steps p.tables e below (T28.setTop (mkF m 38 #[.val (.ref a), .val (.ref b), .val (.int (0 : Int32))] [(.ref aU), (.double lo0)])) _
        refine XS.iloadN X28.here hx rfl (hb hby d5_38) rfl ?_
        show Steps p.tables e below (T28.setTop (mkF m 39 #[.val (.ref a), .val (.ref b), .val (.int (0 : Int32))] [(.int (0 : Int32)), (.ref aU), (.double lo0)])) _
        refine X28.daload hx (j := (0 : Int32)) (v := (.double up0)) (by rw [e28]; exact A29.1) (State.isArrayOf_alike hZ.alike A29.2.1) A29.2.2 i29 (H29.at i29 rfl) (g := (mkF m 39 #[.val (.ref a), .val (.ref b), .val (.int (0 : Int32))] [(.int (0 : Int32)), (.ref aU), (.double lo0)])) rfl rfl (hb hby d5_39) _ ?_
        show Steps p.tables e below (T28.setTop (mkF m 40 #[.val (.ref a), .val (.ref b), .val (.int (0 : Int32))] [(.double up0), (.double lo0)])) _
        refine XS.dcmpS X28.here hx rfl (hb hby d5_40) rfl rfl ?_
        show Steps p.tables e below (T28.setTop (mkF m 41 #[.val (.ref a), .val (.ref b), .val (.int (0 : Int32))] [(.int (cmpValue (FP.dcmp lo0 up0) .l))])) _
        refine XS.ifNo X28.here hx rfl (hb hby d5_41) rfl ((if0 _ _).trans (teq c0).2) ?_
        show Steps p.tables e below (T28.setTop (mkF m 44 #[.val (.ref a), .val (.ref b), .val (.int (0 : Int32))] [])) _
        refine XS.aloadN X28.here hx rfl (hb hby d5_44) rfl rfl ?_
        show Steps p.tables e below (T28.setTop (mkF m 45 #[.val (.ref a), .val (.ref b), .val (.int (0 : Int32))] [(.ref b)])) _
        refine XS.iloadN X28.here hx rfl (hb hby d5_45) rfl ?_
        show Steps p.tables e below (T28.setTop (mkF m 46 #[.val (.ref a), .val (.ref b), .val (.int (0 : Int32))] [(.int (0 : Int32)), (.ref b)])) _
        refine XS.aloadN X28.here hx rfl (hb hby d5_46) rfl rfl ?_
        show Steps p.tables e below (T28.setTop (mkF m 47 #[.val (.ref a), .val (.ref b), .val (.int (0 : Int32))] [(.ref a), (.int (0 : Int32)), (.ref b)])) _
        refine st30 _ ?_
        show Steps p.tables e below (T30.setTop (mkF m 50 #[.val (.ref a), .val (.ref b), .val (.int (0 : Int32))] [(.ref aL), (.int (0 : Int32)), (.ref b)])) _
        refine XS.iloadN X30.here hx rfl (hb hby d5_50) rfl ?_
        show Steps p.tables e below (T30.setTop (mkF m 51 #[.val (.ref a), .val (.ref b), .val (.int (0 : Int32))] [(.int (0 : Int32)), (.ref aL), (.int (0 : Int32)), (.ref b)])) _
        refine X30.daload hx (j := (0 : Int32)) (v := (.double lo0)) (by rw [e30]; exact A31.1) (State.isArrayOf_alike hZ.alike A31.2.1) A31.2.2 i31 (H31.at i31 rfl) (g := (mkF m 51 #[.val (.ref a), .val (.ref b), .val (.int (0 : Int32))] [(.int (0 : Int32)), (.ref aL), (.int (0 : Int32)), (.ref b)])) rfl rfl (hb hby d5_51) _ ?_
        show Steps p.tables e below (T30.setTop (mkF m 52 #[.val (.ref a), .val (.ref b), .val (.int (0 : Int32))] [(.double lo0), (.int (0 : Int32)), (.ref b)])) _
        refine st32 _ ?_
        show Steps p.tables e below (T32.setTop (mkF m 53 #[.val (.ref a), .val (.ref b), .val (.int (0 : Int32))] [])) _
        refine XS.goto X32.here hx rfl (pc0 := 53) (pc' := 76) rfl (hb hby d5_53) (by decide) (by decide) ?_
        show Steps p.tables e below (T32.setTop (mkF m 76 #[.val (.ref a), .val (.ref b), .val (.int (0 : Int32))] [])) _
        refine XS.iinc X32.here hx rfl (hb hby d5_76) rfl (l' := #[.val (.ref a), .val (.ref b), .val (.int (1 : Int32))]) rfl ?_
        show Steps p.tables e below (T32.setTop (mkF m 79 #[.val (.ref a), .val (.ref b), .val (.int (1 : Int32))] [])) _
        refine XS.goto X32.here hx rfl (pc0 := 79) (pc' := 22) rfl (hb hby d5_79) (by decide) (by decide) ?_
        show Steps p.tables e below (T32.setTop (mkF m 22 #[.val (.ref a), .val (.ref b), .val (.int (1 : Int32))] [])) _
        refine XS.iloadN X32.here hx rfl (hb hby d5_22) rfl ?_
        show Steps p.tables e below (T32.setTop (mkF m 23 #[.val (.ref a), .val (.ref b), .val (.int (1 : Int32))] [(.int (1 : Int32))])) _
        refine XS.aloadN X32.here hx rfl (hb hby d5_23) rfl rfl ?_
        show Steps p.tables e below (T32.setTop (mkF m 24 #[.val (.ref a), .val (.ref b), .val (.int (1 : Int32))] [(.ref b), (.int (1 : Int32))])) _
        refine X32.arraylength hx (by rw [e32]; exact A33.1) (State.isArrayOf_alike hZ.alike A33.2.1) (g := (mkF m 24 #[.val (.ref a), .val (.ref b), .val (.int (1 : Int32))] [(.ref b), (.int (1 : Int32))])) rfl rfl (hb hby d5_24) _ ?_
        rw [len_of S33 M33]
        show Steps p.tables e below (T32.setTop (mkF m 25 #[.val (.ref a), .val (.ref b), .val (.int (1 : Int32))] [(.int (2 : Int32)), (.int (1 : Int32))])) _
        refine XS.icmpNo X32.here hx rfl (hb hby d5_25) rfl (by decide) ?_
        show Steps p.tables e below (T32.setTop (mkF m 28 #[.val (.ref a), .val (.ref b), .val (.int (1 : Int32))] [])) _
        refine XS.aloadN X32.here hx rfl (hb hby d5_28) rfl rfl ?_
        show Steps p.tables e below (T32.setTop (mkF m 29 #[.val (.ref a), .val (.ref b), .val (.int (1 : Int32))] [(.ref a)])) _
        refine st34 _ ?_
        show Steps p.tables e below (T34.setTop (mkF m 32 #[.val (.ref a), .val (.ref b), .val (.int (1 : Int32))] [(.ref aL)])) _
        refine XS.iloadN X34.here hx rfl (hb hby d5_32) rfl ?_
        show Steps p.tables e below (T34.setTop (mkF m 33 #[.val (.ref a), .val (.ref b), .val (.int (1 : Int32))] [(.int (1 : Int32)), (.ref aL)])) _
        refine X34.daload hx (j := (1 : Int32)) (v := (.double lo1)) (by rw [e34]; exact A35.1) (State.isArrayOf_alike hZ.alike A35.2.1) A35.2.2 i35 (H35.at i35 rfl) (g := (mkF m 33 #[.val (.ref a), .val (.ref b), .val (.int (1 : Int32))] [(.int (1 : Int32)), (.ref aL)])) rfl rfl (hb hby d5_33) _ ?_
        show Steps p.tables e below (T34.setTop (mkF m 34 #[.val (.ref a), .val (.ref b), .val (.int (1 : Int32))] [(.double lo1)])) _
        refine XS.aloadN X34.here hx rfl (hb hby d5_34) rfl rfl ?_
        show Steps p.tables e below (T34.setTop (mkF m 35 #[.val (.ref a), .val (.ref b), .val (.int (1 : Int32))] [(.ref a), (.double lo1)])) _
        refine st36 _ ?_
        show Steps p.tables e below (T36.setTop (mkF m 38 #[.val (.ref a), .val (.ref b), .val (.int (1 : Int32))] [(.ref aU), (.double lo1)])) _
        refine XS.iloadN X36.here hx rfl (hb hby d5_38) rfl ?_
        show Steps p.tables e below (T36.setTop (mkF m 39 #[.val (.ref a), .val (.ref b), .val (.int (1 : Int32))] [(.int (1 : Int32)), (.ref aU), (.double lo1)])) _
        refine X36.daload hx (j := (1 : Int32)) (v := (.double up1)) (by rw [e36]; exact A37.1) (State.isArrayOf_alike hZ.alike A37.2.1) A37.2.2 i37 (H37.at i37 rfl) (g := (mkF m 39 #[.val (.ref a), .val (.ref b), .val (.int (1 : Int32))] [(.int (1 : Int32)), (.ref aU), (.double lo1)])) rfl rfl (hb hby d5_39) _ ?_
        show Steps p.tables e below (T36.setTop (mkF m 40 #[.val (.ref a), .val (.ref b), .val (.int (1 : Int32))] [(.double up1), (.double lo1)])) _
        refine XS.dcmpS X36.here hx rfl (hb hby d5_40) rfl rfl ?_
        show Steps p.tables e below (T36.setTop (mkF m 41 #[.val (.ref a), .val (.ref b), .val (.int (1 : Int32))] [(.int (cmpValue (FP.dcmp lo1 up1) .l))])) _
        refine XS.ifYes X36.here hx rfl (pc0 := 41) (pc' := 56) rfl (hb hby d5_41) rfl ((if0 _ _).trans (feq c1).2) (by decide) (by decide) ?_
        show Steps p.tables e below (T36.setTop (mkF m 56 #[.val (.ref a), .val (.ref b), .val (.int (1 : Int32))] [])) _
        refine XS.aloadN X36.here hx rfl (hb hby d5_56) rfl rfl ?_
        show Steps p.tables e below (T36.setTop (mkF m 57 #[.val (.ref a), .val (.ref b), .val (.int (1 : Int32))] [(.ref b)])) _
        refine XS.iloadN X36.here hx rfl (hb hby d5_57) rfl ?_
        show Steps p.tables e below (T36.setTop (mkF m 58 #[.val (.ref a), .val (.ref b), .val (.int (1 : Int32))] [(.int (1 : Int32)), (.ref b)])) _
        refine XS.aloadN X36.here hx rfl (hb hby d5_58) rfl rfl ?_
        show Steps p.tables e below (T36.setTop (mkF m 59 #[.val (.ref a), .val (.ref b), .val (.int (1 : Int32))] [(.ref a), (.int (1 : Int32)), (.ref b)])) _
        refine st38 _ ?_
        show Steps p.tables e below (T38.setTop (mkF m 62 #[.val (.ref a), .val (.ref b), .val (.int (1 : Int32))] [(.ref aL), (.int (1 : Int32)), (.ref b)])) _
        refine XS.iloadN X38.here hx rfl (hb hby d5_62) rfl ?_
        show Steps p.tables e below (T38.setTop (mkF m 63 #[.val (.ref a), .val (.ref b), .val (.int (1 : Int32))] [(.int (1 : Int32)), (.ref aL), (.int (1 : Int32)), (.ref b)])) _
        refine X38.daload hx (j := (1 : Int32)) (v := (.double lo1)) (by rw [e38]; exact A39.1) (State.isArrayOf_alike hZ.alike A39.2.1) A39.2.2 i39 (H39.at i39 rfl) (g := (mkF m 63 #[.val (.ref a), .val (.ref b), .val (.int (1 : Int32))] [(.int (1 : Int32)), (.ref aL), (.int (1 : Int32)), (.ref b)])) rfl rfl (hb hby d5_63) _ ?_
        show Steps p.tables e below (T38.setTop (mkF m 64 #[.val (.ref a), .val (.ref b), .val (.int (1 : Int32))] [(.double lo1), (.int (1 : Int32)), (.ref b)])) _
        refine XS.aloadN X38.here hx rfl (hb hby d5_64) rfl rfl ?_
        show Steps p.tables e below (T38.setTop (mkF m 65 #[.val (.ref a), .val (.ref b), .val (.int (1 : Int32))] [(.ref a), (.double lo1), (.int (1 : Int32)), (.ref b)])) _
        refine st40 _ ?_
        show Steps p.tables e below (T40.setTop (mkF m 68 #[.val (.ref a), .val (.ref b), .val (.int (1 : Int32))] [(.ref aU), (.double lo1), (.int (1 : Int32)), (.ref b)])) _
        refine XS.iloadN X40.here hx rfl (hb hby d5_68) rfl ?_
        show Steps p.tables e below (T40.setTop (mkF m 69 #[.val (.ref a), .val (.ref b), .val (.int (1 : Int32))] [(.int (1 : Int32)), (.ref aU), (.double lo1), (.int (1 : Int32)), (.ref b)])) _
        refine X40.daload hx (j := (1 : Int32)) (v := (.double up1)) (by rw [e40]; exact A41.1) (State.isArrayOf_alike hZ.alike A41.2.1) A41.2.2 i41 (H41.at i41 rfl) (g := (mkF m 69 #[.val (.ref a), .val (.ref b), .val (.int (1 : Int32))] [(.int (1 : Int32)), (.ref aU), (.double lo1), (.int (1 : Int32)), (.ref b)])) rfl rfl (hb hby d5_69) _ ?_
        show Steps p.tables e below (T40.setTop (mkF m 70 #[.val (.ref a), .val (.ref b), .val (.int (1 : Int32))] [(.double up1), (.double lo1), (.int (1 : Int32)), (.ref b)])) _
        refine XS.daddS X40.here hx rfl (hb hby d5_70) rfl p1 rfl ?_
        show Steps p.tables e below (T40.setTop (mkF m 71 #[.val (.ref a), .val (.ref b), .val (.int (1 : Int32))] [(.double (FP.dadd lo1 up1)), (.int (1 : Int32)), (.ref b)])) _
        refine X40.ldc2DoubleC hx hown (mvT hZ (hw _ (List.mem_of_getElem? (i := 28) rfl))) (g := (mkF m 71 #[.val (.ref a), .val (.ref b), .val (.int (1 : Int32))] [(.double (FP.dadd lo1 up1)), (.int (1 : Int32)), (.ref b)])) rfl (hb hby d5_71) _ ?_
        show Steps p.tables e below (T40.setTop (mkF m 74 #[.val (.ref a), .val (.ref b), .val (.int (1 : Int32))] [(.double (4611686018427387904 : UInt64)), (.double (FP.dadd lo1 up1)), (.int (1 : Int32)), (.ref b)])) _
        refine XS.ddivS X40.here hx rfl (hb hby d5_74) rfl q1 rfl ?_
        show Steps p.tables e below (T40.setTop (mkF m 75 #[.val (.ref a), .val (.ref b), .val (.int (1 : Int32))] [(.double (FP.ddiv (FP.dadd lo1 up1) (4611686018427387904 : UInt64))), (.int (1 : Int32)), (.ref b)])) _
        refine st42 _ ?_
        show Steps p.tables e below (T42.setTop (mkF m 76 #[.val (.ref a), .val (.ref b), .val (.int (1 : Int32))] [])) _
        refine XS.iinc X42.here hx rfl (hb hby d5_76) rfl (l' := #[.val (.ref a), .val (.ref b), .val (.int (2 : Int32))]) rfl ?_
        show Steps p.tables e below (T42.setTop (mkF m 79 #[.val (.ref a), .val (.ref b), .val (.int (2 : Int32))] [])) _
        refine XS.goto X42.here hx rfl (pc0 := 79) (pc' := 22) rfl (hb hby d5_79) (by decide) (by decide) ?_
        show Steps p.tables e below (T42.setTop (mkF m 22 #[.val (.ref a), .val (.ref b), .val (.int (2 : Int32))] [])) _
        refine XS.iloadN X42.here hx rfl (hb hby d5_22) rfl ?_
        show Steps p.tables e below (T42.setTop (mkF m 23 #[.val (.ref a), .val (.ref b), .val (.int (2 : Int32))] [(.int (2 : Int32))])) _
        refine XS.aloadN X42.here hx rfl (hb hby d5_23) rfl rfl ?_
        show Steps p.tables e below (T42.setTop (mkF m 24 #[.val (.ref a), .val (.ref b), .val (.int (2 : Int32))] [(.ref b), (.int (2 : Int32))])) _
        refine X42.arraylength hx (by rw [e42]; exact A43.1) (State.isArrayOf_alike hZ.alike A43.2.1) (g := (mkF m 24 #[.val (.ref a), .val (.ref b), .val (.int (2 : Int32))] [(.ref b), (.int (2 : Int32))])) rfl rfl (hb hby d5_24) _ ?_
        rw [len_of S43 M43]
        show Steps p.tables e below (T42.setTop (mkF m 25 #[.val (.ref a), .val (.ref b), .val (.int (2 : Int32))] [(.int (2 : Int32)), (.int (2 : Int32))])) _
        refine XS.icmpYes X42.here hx rfl (pc0 := 25) (pc' := 82) rfl (hb hby d5_25) rfl (by decide) (by decide) (by decide) ?_
        show Steps p.tables e below (T42.setTop (mkF m 82 #[.val (.ref a), .val (.ref b), .val (.int (2 : Int32))] [])) _
        refine XS.aloadN X42.here hx rfl (hb hby d5_82) rfl rfl ?_
        show Steps p.tables e below (T42.setTop (mkF m 83 #[.val (.ref a), .val (.ref b), .val (.int (2 : Int32))] [(.ref b)])) _
        exact retOut X42 hx Bd.returns rfl (Or.inr (Or.inr (Or.inr (Or.inr ⟨rfl, rfl, rfl⟩)))) (hb hby d5_83) hr
      · show Q5 Z a aL kL aU kU lo0 lo1 up0 up1 r0 r1 h0 n0 _ T42.heap _
        rw [e42]
        refine ⟨b, k_b, rfl, N42, Nat.le_of_eq g_b.symm, (((Keep.refl h0 []).ext E24).wr W32 (Or.inr (Nat.le_of_eq g_b.symm))).wr W42 (Or.inr (Nat.le_of_eq g_b.symm)), ?_⟩
        rw [hx0, hx1]
        exact Vb_42
  · rcases hm1 with ⟨c1, hx1⟩ | ⟨c1, p1, q1, hx1⟩
    · obtain ⟨T21, X21, e21, st21⟩ := getF X0 hx hZ hown (host := "") (Or.inl (hw _ (List.mem_of_getElem? (i := 19) rfl))) Via.refl e0 FV (g := (mkF m 1 #[.val (.ref a), .unset, .unset] [(.ref a)])) rfl rfl (hb hby d5_1)
      obtain ⟨T22, X22, e22, st22⟩ := getF X21 hx hZ hown (host := "") (Or.inl (hw _ (List.mem_of_getElem? (i := 17) rfl))) Via.refl e21 FL (g := (mkF m 13 #[.val (.ref a), .unset, .unset] [(.ref a)])) rfl rfl (hb hby d5_13)
      obtain ⟨c23, A23, -, S23, M23, -, -⟩ := id VL
      obtain ⟨T24, h24, k_b, X24, e24, E24, A24, st24⟩ := newP X22 hx hZ (hw _ (List.mem_of_getElem? (i := 0) rfl)) e22 (g := (mkF m 17 #[.val (.ref a), .unset, .unset] [(.int (2 : Int32))])) rfl (hb hby d5_17) rfl (by decide : ¬ ((2 : Int32) < (0 : Int32))) (cap := 2) (by decide : (2 : Int32).toNatClampNeg ≤ 2) (by decide) (by decide) (by decide)
      obtain ⟨b, g_b⟩ : ∃ z, z = h0.size := ⟨_, rfl⟩
      rw [← g_b] at A24 st24
      have ge_b : n0 ≤ b := Nat.le_trans Z0 (Nat.le_of_eq g_b.symm)
      have ne_aL_b : aL ≠ b := Nat.ne_of_lt (Nat.lt_of_lt_of_le VL.lt (Nat.le_of_eq g_b.symm))
      have ne_aU_b : aU ≠ b := Nat.ne_of_lt (Nat.lt_of_lt_of_le VU.lt (Nat.le_of_eq g_b.symm))
      have ne_a_b : a ≠ b := Nat.ne_of_lt (Nat.lt_of_lt_of_le FL.lt (Nat.le_of_eq g_b.symm))
      have VaL_24 : Arv Z h24 aL kL .double (2 : Int32) [(.double lo0), (.double lo1)] (.double 0) := VL.ext E24
      have VaU_24 : Arv Z h24 aU kU .double (2 : Int32) [(.double up0), (.double up1)] (.double 0) := VU.ext E24
      have Fa_values_24 : Fld Z h24 a "com/example/umbel/umbel/check/ValueBounds" "values" "[D" .null := FV.ext E24
      have Fa_lower_24 : Fld Z h24 a "com/example/umbel/umbel/check/ValueBounds" "lower" "[D" (.ref aL) := FL.ext E24
      have Fa_upper_24 : Fld Z h24 a "com/example/umbel/umbel/check/ValueBounds" "upper" "[D" (.ref aU) := FU.ext E24
      have Z24 : n0 ≤ h24.size := Nat.le_trans Z0 E24.1
      have P24 : Arv Z h24 b k_b .double (2 : Int32) [] (.double 0) := Arv.new A24 (by decide : ¬ ((2 : Int32) < (0 : Int32)))
      have Vb_24 : Arv Z h24 b k_b .double (2 : Int32) [(.double 0), (.double 0)] (.double 0) := P24.pad (pad_rep [] (.double 0) 2)
      obtain ⟨c25, A25, -, S25, M25, -, -⟩ := id Vb_24
      obtain ⟨T26, X26, e26, st26⟩ := getF X24 hx hZ hown (host := "") (Or.inl (hw _ (List.mem_of_getElem? (i := 17) rfl))) Via.refl e24 Fa_lower_24 (g := (mkF m 29 #[.val (.ref a), .val (.ref b), .val (.int (0 : Int32))] [(.ref a)])) rfl rfl (hb hby d5_29)
      obtain ⟨c27, A27, -, S27, M27, H27, -⟩ := id VaL_24
      have i27 := inb_of (j := (0 : Int32)) S27 ⟨(by decide : ¬ ((0 : Int32) < (0 : Int32))), (by decide : (0 : Int32) < (2 : Int32))⟩
      obtain ⟨T28, X28, e28, st28⟩ := getF X26 hx hZ hown (host := "") (Or.inl (hw _ (List.mem_of_getElem? (i := 21) rfl))) Via.refl e26 Fa_upper_24 (g := (mkF m 35 #[.val (.ref a), .val (.ref b), .val (.int (0 : Int32))] [(.ref a), (.double lo0)])) rfl rfl (hb hby d5_35)
      obtain ⟨c29, A29, -, S29, M29, H29, -⟩ := id VaU_24
      have i29 := inb_of (j := (0 : Int32)) S29 ⟨(by decide : ¬ ((0 : Int32) < (0 : Int32))), (by decide : (0 : Int32) < (2 : Int32))⟩
      obtain ⟨T30, X30, e30, st30⟩ := getF X28 hx hZ hown (host := "") (Or.inl (hw _ (List.mem_of_getElem? (i := 17) rfl))) Via.refl e28 Fa_lower_24 (g := (mkF m 59 #[.val (.ref a), .val (.ref b), .val (.int (0 : Int32))] [(.ref a), (.int (0 : Int32)), (.ref b)])) rfl rfl (hb hby d5_59)
      obtain ⟨c31, A31, -, S31, M31, H31, -⟩ := id VaL_24
      have i31 := inb_of (j := (0 : Int32)) S31 ⟨(by decide : ¬ ((0 : Int32) < (0 : Int32))), (by decide : (0 : Int32) < (2 : Int32))⟩
      obtain ⟨T32, X32, e32, st32⟩ := getF X30 hx hZ hown (host := "") (Or.inl (hw _ (List.mem_of_getElem? (i := 21) rfl))) Via.refl e30 Fa_upper_24 (g := (mkF m 65 #[.val (.ref a), .val (.ref b), .val (.int (0 : Int32))] [(.ref a), (.double lo0), (.int (0 : Int32)), (.ref b)])) rfl rfl (hb hby d5_65)
      obtain ⟨c33, A33, -, S33, M33, H33, -⟩ := id VaU_24
      have i33 := inb_of (j := (0 : Int32)) S33 ⟨(by decide : ¬ ((0 : Int32) < (0 : Int32))), (by decide : (0 : Int32) < (2 : Int32))⟩
      obtain ⟨c34, A34, q34, S34, M34, H34, U34⟩ := id Vb_24
      obtain ⟨T34, h34, X34, e34, W34, st34⟩ := stD X32 hx hZ e32 A34 (j := (0 : Int32)) (inb_of S34 ⟨(by decide : ¬ ((0 : Int32) < (0 : Int32))), (by decide : (0 : Int32) < (2 : Int32))⟩) (g := (mkF m 75 #[.val (.ref a), .val (.ref b), .val (.int (0 : Int32))] [(.double (FP.ddiv (FP.dadd lo0 up0) (4611686018427387904 : UInt64))), (.int (0 : Int32)), (.ref b)])) rfl rfl (hb hby d5_75)
      have N34 := Fr.snoc X34 N0 ge_b
      have VaL_34 : Arv Z h34 aL kL .double (2 : Int32) [(.double lo0), (.double lo1)] (.double 0) := VaL_24.other W34 ne_aL_b
      have VaU_34 : Arv Z h34 aU kU .double (2 : Int32) [(.double up0), (.double up1)] (.double 0) := VaU_24.other W34 ne_aU_b
      have Fa_values_34 : Fld Z h34 a "com/example/umbel/umbel/check/ValueBounds" "values" "[D" .null := Fa_values_24.other W34 (Or.inl ne_a_b)
      have Fa_lower_34 : Fld Z h34 a "com/example/umbel/umbel/check/ValueBounds" "lower" "[D" (.ref aL) := Fa_lower_24.other W34 (Or.inl ne_a_b)
      have Fa_upper_34 : Fld Z h34 a "com/example/umbel/umbel/check/ValueBounds" "upper" "[D" (.ref aU) := Fa_upper_24.other W34 (Or.inl ne_a_b)
      have Vb_34 : Arv Z h34 b k_b .double (2 : Int32) [(.double (FP.ddiv (FP.dadd lo0 up0) (4611686018427387904 : UInt64))), (.double 0)] (.double 0) := Arv.set A34 q34 S34 M34 H34 U34 rfl W34 0 rfl (Nat.le_of_ble_eq_true rfl)
      have Z34 : n0 ≤ h34.size := Nat.le_trans Z24 (Keep.of_wr W34).1
      obtain ⟨c35, A35, -, S35, M35, -, -⟩ := id Vb_34
      obtain ⟨T36, X36, e36, st36⟩ := getF X34 hx hZ hown (host := "") (Or.inl (hw _ (List.mem_of_getElem? (i := 17) rfl))) Via.refl e34 Fa_lower_34 (g := (mkF m 29 #[.val (.ref a), .val (.ref b), .val (.int (1 : Int32))] [(.ref a)])) rfl rfl (hb hby d5_29)
      obtain ⟨c37, A37, -, S37, M37, H37, -⟩ := id VaL_34
      have i37 := inb_of (j := (1 : Int32)) S37 ⟨(by decide : ¬ ((1 : Int32) < (0 : Int32))), (by decide : (1 : Int32) < (2 : Int32))⟩
      obtain ⟨T38, X38, e38, st38⟩ := getF X36 hx hZ hown (host := "") (Or.inl (hw _ (List.mem_of_getElem? (i := 21) rfl))) Via.refl e36 Fa_upper_34 (g := (mkF m 35 #[.val (.ref a), .val (.ref b), .val (.int (1 : Int32))] [(.ref a), (.double lo1)])) rfl rfl (hb hby d5_35)
      obtain ⟨c39, A39, -, S39, M39, H39, -⟩ := id VaU_34
      have i39 := inb_of (j := (1 : Int32)) S39 ⟨(by decide : ¬ ((1 : Int32) < (0 : Int32))), (by decide : (1 : Int32) < (2 : Int32))⟩
      obtain ⟨T40, X40, e40, st40⟩ := getF X38 hx hZ hown (host := "") (Or.inl (hw _ (List.mem_of_getElem? (i := 17) rfl))) Via.refl e38 Fa_lower_34 (g := (mkF m 47 #[.val (.ref a), .val (.ref b), .val (.int (1 : Int32))] [(.ref a), (.int (1 : Int32)), (.ref b)])) rfl rfl (hb hby d5_47)
      obtain ⟨c41, A41, -, S41, M41, H41, -⟩ := id VaL_34
      have i41 := inb_of (j := (1 : Int32)) S41 ⟨(by decide : ¬ ((1 : Int32) < (0 : Int32))), (by decide : (1 : Int32) < (2 : Int32))⟩
      obtain ⟨c42, A42, q42, S42, M42, H42, U42⟩ := id Vb_34
      obtain ⟨T42, h42, X42, e42, W42, st42⟩ := stD X40 hx hZ e40 A42 (j := (1 : Int32)) (inb_of S42 ⟨(by decide : ¬ ((1 : Int32) < (0 : Int32))), (by decide : (1 : Int32) < (2 : Int32))⟩) (g := (mkF m 52 #[.val (.ref a), .val (.ref b), .val (.int (1 : Int32))] [(.double lo1), (.int (1 : Int32)), (.ref b)])) rfl rfl (hb hby d5_52)
      have N42 := Fr.snoc X42 N34 ge_b
      have VaL_42 : Arv Z h42 aL kL .double (2 : Int32) [(.double lo0), (.double lo1)] (.double 0) := VaL_34.other W42 ne_aL_b
      have VaU_42 : Arv Z h42 aU kU .double (2 : Int32) [(.double up0), (.double up1)] (.double 0) := VaU_34.other W42 ne_aU_b
      have Fa_values_42 : Fld Z h42 a "com/example/umbel/umbel/check/ValueBounds" "values" "[D" .null := Fa_values_34.other W42 (Or.inl ne_a_b)
      have Fa_lower_42 : Fld Z h42 a "com/example/umbel/umbel/check/ValueBounds" "lower" "[D" (.ref aL) := Fa_lower_34.other W42 (Or.inl ne_a_b)
      have Fa_upper_42 : Fld Z h42 a "com/example/umbel/umbel/check/ValueBounds" "upper" "[D" (.ref aU) := Fa_upper_34.other W42 (Or.inl ne_a_b)
      have Vb_42 : Arv Z h42 b k_b .double (2 : Int32) [(.double (FP.ddiv (FP.dadd lo0 up0) (4611686018427387904 : UInt64))), (.double lo1)] (.double 0) := Arv.set A42 q42 S42 M42 H42 U42 rfl W42 1 rfl (Nat.le_of_ble_eq_true rfl)
      have Z42 : n0 ≤ h42.size := Nat.le_trans Z34 (Keep.of_wr W42).1
      obtain ⟨c43, A43, -, S43, M43, -, -⟩ := id Vb_42
      obtain ⟨fs, hr, hrun, hended, hW, hsame⟩ := X42.leave (v := some (.ref b)) (fun h => by rw [Bd.returns] at h; cases h)
      refine ⟨_, _, pre0 _ ?_, hrun, hended, _, _, rfl, ?_, ⟨_, rfl⟩, hW, hsame.mono (by decide) (by decide)⟩
      · show Steps p.tables e below (s₁.setTop (mkF m 0 #[.val (.ref a), .unset, .unset] [])) _
        refine XS.aloadN X0.here hx rfl (hb hby d5_0) rfl rfl ?_
        show Steps p.tables e below (s₁.setTop (mkF m 1 #[.val (.ref a), .unset, .unset] [(.ref a)])) _
        refine st21 _ ?_
        show Steps p.tables e below (T21.setTop (mkF m 4 #[.val (.ref a), .unset, .unset] [.null])) _
        refine XS.ifnullYes X21.here hx rfl (pc0 := 4) (pc' := 12) rfl (hb hby d5_4) rfl (by decide) (by decide) ?_
        show Steps p.tables e below (T21.setTop (mkF m 12 #[.val (.ref a), .unset, .unset] [])) _
        refine XS.aloadN X21.here hx rfl (hb hby d5_12) rfl rfl ?_
        show Steps p.tables e below (T21.setTop (mkF m 13 #[.val (.ref a), .unset, .unset] [(.ref a)])) _
        refine st22 _ ?_
        show Steps p.tables e below (T22.setTop (mkF m 16 #[.val (.ref a), .unset, .unset] [(.ref aL)])) _
        refine X22.arraylength hx (by rw [e22]; exact A23.1) (State.isArrayOf_alike hZ.alike A23.2.1) (g := (mkF m 16 #[.val (.ref a), .unset, .unset] [(.ref aL)])) rfl rfl (hb hby d5_16) _ ?_
        rw [len_of S23 M23]
        show Steps p.tables e below (T22.setTop (mkF m 17 #[.val (.ref a), .unset, .unset] [(.int (2 : Int32))])) _
        refine st24 _ ?_
        show Steps p.tables e below (T24.setTop (mkF m 19 #[.val (.ref a), .unset, .unset] [(.ref b)])) _
        refine XS.astoreN X24.here hx rfl (hb hby d5_19) rfl rfl (l' := #[.val (.ref a), .val (.ref b), .unset]) rfl ?_
        show Steps p.tables e below (T24.setTop (mkF m 20 #[.val (.ref a), .val (.ref b), .unset] [])) _
        refine XS.iconst X24.here hx rfl (hb hby d5_20) ?_
        show Steps p.tables e below (T24.setTop (mkF m 21 #[.val (.ref a), .val (.ref b), .unset] [(.int (0 : Int32))])) _
        refine XS.istoreN X24.here hx rfl (hb hby d5_21) rfl (l' := #[.val (.ref a), .val (.ref b), .val (.int (0 : Int32))]) rfl ?_
        show Steps p.tables e below (T24.setTop (mkF m 22 #[.val (.ref a), .val (.ref b), .val (.int (0 : Int32))] [])) _
        refine XS.iloadN X24.here hx rfl (hb hby d5_22) rfl ?_
        show Steps p.tables e below (T24.setTop (mkF m 23 #[.val (.ref a), .val (.ref b), .val (.int (0 : Int32))] [(.int (0 : Int32))])) _
        refine XS.aloadN X24.here hx rfl (hb hby d5_23) rfl rfl ?_
        show Steps p.tables e below (T24.setTop (mkF m 24 #[.val (.ref a), .val (.ref b), .val (.int (0 : Int32))] [(.ref b), (.int (0 : Int32))])) _
        refine X24.arraylength hx (by rw [e24]; exact A25.1) (State.isArrayOf_alike hZ.alike A25.2.1) (g := (mkF m 24 #[.val (.ref a), .val (.ref b), .val (.int (0 : Int32))] [(.ref b), (.int (0 : Int32))])) rfl rfl (hb hby d5_24) _ ?_
        rw [len_of S25 M25]
        show Steps p.tables e below (T24.setTop (mkF m 25 #[.val (.ref a), .val (.ref b), .val (.int (0 : Int32))] [(.int (2 : Int32)), (.int (0 : Int32))])) _
        refine XS.icmpNo X24.here hx rfl (hb hby d5_25) rfl (by decide) ?_
        show Steps p.tables e below (T24.setTop (mkF m 28 #[.val (.ref a), .val (.ref b), .val (.int (0 : Int32))] [])) _
        refine XS.aloadN X24.here hx rfl (hb hby d5_28) rfl rfl ?_
        show Steps p.tables e below (T24.setTop (mkF m 29 #[.val (.ref a), .val (.ref b), .val (.int (0 : Int32))] [(.ref a)])) _
        refine st26 _ ?_
        show Steps p.tables e below (T26.setTop (mkF m 32 #[.val (.ref a), .val (.ref b), .val (.int (0 : Int32))] [(.ref aL)])) _
        refine XS.iloadN X26.here hx rfl (hb hby d5_32) rfl ?_
        show Steps p.tables e below (T26.setTop (mkF m 33 #[.val (.ref a), .val (.ref b), .val (.int (0 : Int32))] [(.int (0 : Int32)), (.ref aL)])) _
        refine X26.daload hx (j := (0 : Int32)) (v := (.double lo0)) (by rw [e26]; exact A27.1) (State.isArrayOf_alike hZ.alike A27.2.1) A27.2.2 i27 (H27.at i27 rfl) (g := (mkF m 33 #[.val (.ref a), .val (.ref b), .val (.int (0 : Int32))] [(.int (0 : Int32)), (.ref aL)])) rfl rfl (hb hby d5_33) _ ?_
        show Steps p.tables e below (T26.setTop (mkF m 34 #[.val (.ref a), .val (.ref b), .val (.int (0 : Int32))] [(.double lo0)])) _
        refine XS.aloadN X26.here hx rfl (hb hby d5_34) rfl rfl ?_
        show Steps p.tables e below (T26.setTop (mkF m 35 #[.val (.ref a), .val (.ref b), .val (.int (0 : Int32))] [(.ref a), (.double lo0)])) _
        refine st28 _ ?_
        show Steps p.tables e below (T28.setTop (mkF m 38 #[.val (.ref a), .val (.ref b), .val (.int (0 : Int32))] [(.ref aU), (.double lo0)])) _
        refine XS.iloadN X28.here hx rfl (hb hby d5_38) rfl ?_
        show Steps p.tables e below (T28.setTop (mkF m 39 #[.val (.ref a), .val (.ref b), .val (.int (0 : Int32))] [(.int (0 : Int32)), (.ref aU), (.double lo0)])) _
        refine X28.daload hx (j := (0 : Int32)) (v := (.double up0)) (by rw [e28]; exact A29.1) (State.isArrayOf_alike hZ.alike A29.2.1) A29.2.2 i29 (H29.at i29 rfl) (g := (mkF m 39 #[.val (.ref a), .val (.ref b), .val (.int (0 : Int32))] [(.int (0 : Int32)), (.ref aU), (.double lo0)])) rfl rfl (hb hby d5_39) _ ?_
        show Steps p.tables e below (T28.setTop (mkF m 40 #[.val (.ref a), .val (.ref b), .val (.int (0 : Int32))] [(.double up0), (.double lo0)])) _
        refine XS.dcmpS X28.here hx rfl (hb hby d5_40) rfl rfl ?_
        show Steps p.tables e below (T28.setTop (mkF m 41 #[.val (.ref a), .val (.ref b), .val (.int (0 : Int32))] [(.int (cmpValue (FP.dcmp lo0 up0) .l))])) _
        refine XS.ifYes X28.here hx rfl (pc0 := 41) (pc' := 56) rfl (hb hby d5_41) rfl ((if0 _ _).trans (feq c0).2) (by decide) (by decide) ?_
        show Steps p.tables e below (T28.setTop (mkF m 56 #[.val (.ref a), .val (.ref b), .val (.int (0 : Int32))] [])) _
        refine XS.aloadN X28.here hx rfl (hb hby d5_56) rfl rfl ?_
        show Steps p.tables e below (T28.setTop (mkF m 57 #[.val (.ref a), .val (.ref b), .val (.int (0 : Int32))] [(.ref b)])) _
        refine XS.iloadN X28.here hx rfl (hb hby d5_57) rfl ?_
        show Steps p.tables e below (T28.setTop (mkF m 58 #[.val (.ref a), .val (.ref b), .val (.int (0 : Int32))] [(.int (0 : Int32)), (.ref b)])) _
        refine XS.aloadN X28.here hx rfl (hb hby d5_58) rfl rfl ?_
        show Steps p.tables e below (T28.setTop (mkF m 59 #[.val (.ref a), .val (.ref b), .val (.int (0 : Int32))] [(.ref a), (.int (0 : Int32)), (.ref b)])) _
        refine st30 _ ?_
        show Steps p.tables e below (T30.setTop (mkF m 62 #[.val (.ref a), .val (.ref b), .val (.int (0 : Int32))] [(.ref aL), (.int (0 : Int32)), (.ref b)])) _
        refine XS.iloadN X30.here hx rfl (hb hby d5_62) rfl ?_
        show Steps p.tables e below (T30.setTop (mkF m 63 #[.val (.ref a), .val (.ref b), .val (.int (0 : Int32))] [(.int (0 : Int32)), (.ref aL), (.int (0 : Int32)), (.ref b)])) _
        refine X30.daload hx (j := (0 : Int32)) (v := (.double lo0)) (by rw [e30]; exact A31.1) (State.isArrayOf_alike hZ.alike A31.2.1) A31.2.2 i31 (H31.at i31 rfl) (g := (mkF m 63 #[.val (.ref a), .val (.ref b), .val (.int (0 : Int32))] [(.int (0 : Int32)), (.ref aL), (.int (0 : Int32)), (.ref b)])) rfl rfl (hb hby d5_63) _ ?_
        show Steps p.tables e below (T30.setTop (mkF m 64 #[.val (.ref a), .val (.ref b), .val (.int (0 : Int32))] [(.double lo0), (.int (0 : Int32)), (.ref b)])) _
        refine XS.aloadN X30.here hx rfl (hb hby d5_64) rfl rfl ?_
        show Steps p.tables e below (T30.setTop (mkF m 65 #[.val (.ref a), .val (.ref b), .val (.int (0 : Int32))] [(.ref a), (.double lo0), (.int (0 : Int32)), (.ref b)])) _
        refine st32 _ ?_
        show Steps p.tables e below (T32.setTop (mkF m 68 #[.val (.ref a), .val (.ref b), .val (.int (0 : Int32))] [(.ref aU), (.double lo0), (.int (0 : Int32)), (.ref b)])) _
        refine XS.iloadN X32.here hx rfl (hb hby d5_68) rfl ?_
        show Steps p.tables e below (T32.setTop (mkF m 69 #[.val (.ref a), .val (.ref b), .val (.int (0 : Int32))] [(.int (0 : Int32)), (.ref aU), (.double lo0), (.int (0 : Int32)), (.ref b)])) _
        refine X32.daload hx (j := (0 : Int32)) (v := (.double up0)) (by rw [e32]; exact A33.1) (State.isArrayOf_alike hZ.alike A33.2.1) A33.2.2 i33 (H33.at i33 rfl) (g := (mkF m 69 #[.val (.ref a), .val (.ref b), .val (.int (0 : Int32))] [(.int (0 : Int32)), (.ref aU), (.double lo0), (.int (0 : Int32)), (.ref b)])) rfl rfl (hb hby d5_69) _ ?_
        show Steps p.tables e below (T32.setTop (mkF m 70 #[.val (.ref a), .val (.ref b), .val (.int (0 : Int32))] [(.double up0), (.double lo0), (.int (0 : Int32)), (.ref b)])) _
        refine XS.daddS X32.here hx rfl (hb hby d5_70) rfl p0 rfl ?_
        show Steps p.tables e below (T32.setTop (mkF m 71 #[.val (.ref a), .val (.ref b), .val (.int (0 : Int32))] [(.double (FP.dadd lo0 up0)), (.int (0 : Int32)), (.ref b)])) _
        refine X32.ldc2DoubleC hx hown (mvT hZ (hw _ (List.mem_of_getElem? (i := 28) rfl))) (g := (mkF m 71 #[.val (.ref a), .val (.ref b), .val (.int (0 : Int32))] [(.double (FP.dadd lo0 up0)), (.int (0 : Int32)), (.ref b)])) rfl (hb hby d5_71) _ ?_
        show Steps p.tables e below (T32.setTop (mkF m 74 #[.val (.ref a), .val (.ref b), .val (.int (0 : Int32))] [(.double (4611686018427387904 : UInt64)), (.double (FP.dadd lo0 up0)), (.int (0 : Int32)), (.ref b)])) _
        refine XS.ddivS X32.here hx rfl (hb hby d5_74) rfl q0 rfl ?_
        show Steps p.tables e below (T32.setTop (mkF m 75 #[.val (.ref a), .val (.ref b), .val (.int (0 : Int32))] [(.double (FP.ddiv (FP.dadd lo0 up0) (4611686018427387904 : UInt64))), (.int (0 : Int32)), (.ref b)])) _
        refine st34 _ ?_
        show Steps p.tables e below (T34.setTop (mkF m 76 #[.val (.ref a), .val (.ref b), .val (.int (0 : Int32))] [])) _
        refine XS.iinc X34.here hx rfl (hb hby d5_76) rfl (l' := #[.val (.ref a), .val (.ref b), .val (.int (1 : Int32))]) rfl ?_
        show Steps p.tables e below (T34.setTop (mkF m 79 #[.val (.ref a), .val (.ref b), .val (.int (1 : Int32))] [])) _
        refine XS.goto X34.here hx rfl (pc0 := 79) (pc' := 22) rfl (hb hby d5_79) (by decide) (by decide) ?_
        show Steps p.tables e below (T34.setTop (mkF m 22 #[.val (.ref a), .val (.ref b), .val (.int (1 : Int32))] [])) _
        refine XS.iloadN X34.here hx rfl (hb hby d5_22) rfl ?_
        show Steps p.tables e below (T34.setTop (mkF m 23 #[.val (.ref a), .val (.ref b), .val (.int (1 : Int32))] [(.int (1 : Int32))])) _
        refine XS.aloadN X34.here hx rfl (hb hby d5_23) rfl rfl ?_
        show Steps p.tables e below (T34.setTop (mkF m 24 #[.val (.ref a), .val (.ref b), .val (.int (1 : Int32))] [(.ref b), (.int (1 : Int32))])) _
        refine X34.arraylength hx (by rw [e34]; exact A35.1) (State.isArrayOf_alike hZ.alike A35.2.1) (g := (mkF m 24 #[.val (.ref a), .val (.ref b), .val (.int (1 : Int32))] [(.ref b), (.int (1 : Int32))])) rfl rfl (hb hby d5_24) _ ?_
        rw [len_of S35 M35]
        show Steps p.tables e below (T34.setTop (mkF m 25 #[.val (.ref a), .val (.ref b), .val (.int (1 : Int32))] [(.int (2 : Int32)), (.int (1 : Int32))])) _
        refine XS.icmpNo X34.here hx rfl (hb hby d5_25) rfl (by decide) ?_
        show Steps p.tables e below (T34.setTop (mkF m 28 #[.val (.ref a), .val (.ref b), .val (.int (1 : Int32))] [])) _
        refine XS.aloadN X34.here hx rfl (hb hby d5_28) rfl rfl ?_
        show Steps p.tables e below (T34.setTop (mkF m 29 #[.val (.ref a), .val (.ref b), .val (.int (1 : Int32))] [(.ref a)])) _
        refine st36 _ ?_
        show Steps p.tables e below (T36.setTop (mkF m 32 #[.val (.ref a), .val (.ref b), .val (.int (1 : Int32))] [(.ref aL)])) _
        refine XS.iloadN X36.here hx rfl (hb hby d5_32) rfl ?_
        show Steps p.tables e below (T36.setTop (mkF m 33 #[.val (.ref a), .val (.ref b), .val (.int (1 : Int32))] [(.int (1 : Int32)), (.ref aL)])) _
        refine X36.daload hx (j := (1 : Int32)) (v := (.double lo1)) (by rw [e36]; exact A37.1) (State.isArrayOf_alike hZ.alike A37.2.1) A37.2.2 i37 (H37.at i37 rfl) (g := (mkF m 33 #[.val (.ref a), .val (.ref b), .val (.int (1 : Int32))] [(.int (1 : Int32)), (.ref aL)])) rfl rfl (hb hby d5_33) _ ?_
        show Steps p.tables e below (T36.setTop (mkF m 34 #[.val (.ref a), .val (.ref b), .val (.int (1 : Int32))] [(.double lo1)])) _
        refine XS.aloadN X36.here hx rfl (hb hby d5_34) rfl rfl ?_
        show Steps p.tables e below (T36.setTop (mkF m 35 #[.val (.ref a), .val (.ref b), .val (.int (1 : Int32))] [(.ref a), (.double lo1)])) _
        refine st38 _ ?_
        show Steps p.tables e below (T38.setTop (mkF m 38 #[.val (.ref a), .val (.ref b), .val (.int (1 : Int32))] [(.ref aU), (.double lo1)])) _
        refine XS.iloadN X38.here hx rfl (hb hby d5_38) rfl ?_
        show Steps p.tables e below (T38.setTop (mkF m 39 #[.val (.ref a), .val (.ref b), .val (.int (1 : Int32))] [(.int (1 : Int32)), (.ref aU), (.double lo1)])) _
        refine X38.daload hx (j := (1 : Int32)) (v := (.double up1)) (by rw [e38]; exact A39.1) (State.isArrayOf_alike hZ.alike A39.2.1) A39.2.2 i39 (H39.at i39 rfl) (g := (mkF m 39 #[.val (.ref a), .val (.ref b), .val (.int (1 : Int32))] [(.int (1 : Int32)), (.ref aU), (.double lo1)])) rfl rfl (hb hby d5_39) _ ?_
        show Steps p.tables e below (T38.setTop (mkF m 40 #[.val (.ref a), .val (.ref b), .val (.int (1 : Int32))] [(.double up1), (.double lo1)])) _
        refine XS.dcmpS X38.here hx rfl (hb hby d5_40) rfl rfl ?_
        show Steps p.tables e below (T38.setTop (mkF m 41 #[.val (.ref a), .val (.ref b), .val (.int (1 : Int32))] [(.int (cmpValue (FP.dcmp lo1 up1) .l))])) _
        refine XS.ifNo X38.here hx rfl (hb hby d5_41) rfl ((if0 _ _).trans (teq c1).2) ?_
        show Steps p.tables e below (T38.setTop (mkF m 44 #[.val (.ref a), .val (.ref b), .val (.int (1 : Int32))] [])) _
        refine XS.aloadN X38.here hx rfl (hb hby d5_44) rfl rfl ?_
        show Steps p.tables e below (T38.setTop (mkF m 45 #[.val (.ref a), .val (.ref b), .val (.int (1 : Int32))] [(.ref b)])) _
        refine XS.iloadN X38.here hx rfl (hb hby d5_45) rfl ?_
        show Steps p.tables e below (T38.setTop (mkF m 46 #[.val (.ref a), .val (.ref b), .val (.int (1 : Int32))] [(.int (1 : Int32)), (.ref b)])) _
        refine XS.aloadN X38.here hx rfl (hb hby d5_46) rfl rfl ?_
        show Steps p.tables e below (T38.setTop (mkF m 47 #[.val (.ref a), .val (.ref b), .val (.int (1 : Int32))] [(.ref a), (.int (1 : Int32)), (.ref b)])) _
        refine st40 _ ?_
        show Steps p.tables e below (T40.setTop (mkF m 50 #[.val (.ref a), .val (.ref b), .val (.int (1 : Int32))] [(.ref aL), (.int (1 : Int32)), (.ref b)])) _
        refine XS.iloadN X40.here hx rfl (hb hby d5_50) rfl ?_
        show Steps p.tables e below (T40.setTop (mkF m 51 #[.val (.ref a), .val (.ref b), .val (.int (1 : Int32))] [(.int (1 : Int32)), (.ref aL), (.int (1 : Int32)), (.ref b)])) _
        refine X40.daload hx (j := (1 : Int32)) (v := (.double lo1)) (by rw [e40]; exact A41.1) (State.isArrayOf_alike hZ.alike A41.2.1) A41.2.2 i41 (H41.at i41 rfl) (g := (mkF m 51 #[.val (.ref a), .val (.ref b), .val (.int (1 : Int32))] [(.int (1 : Int32)), (.ref aL), (.int (1 : Int32)), (.ref b)])) rfl rfl (hb hby d5_51) _ ?_
        show Steps p.tables e below (T40.setTop (mkF m 52 #[.val (.ref a), .val (.ref b), .val (.int (1 : Int32))] [(.double lo1), (.int (1 : Int32)), (.ref b)])) _
        refine st42 _ ?_
        show Steps p.tables e below (T42.setTop (mkF m 53 #[.val (.ref a), .val (.ref b), .val (.int (1 : Int32))] [])) _
        refine XS.goto X42.here hx rfl (pc0 := 53) (pc' := 76) rfl (hb hby d5_53) (by decide) (by decide) ?_
        show Steps p.tables e below (T42.setTop (mkF m 76 #[.val (.ref a), .val (.ref b), .val (.int (1 : Int32))] [])) _
        refine XS.iinc X42.here hx rfl (hb hby d5_76) rfl (l' := #[.val (.ref a), .val (.ref b), .val (.int (2 : Int32))]) rfl ?_
        show Steps p.tables e below (T42.setTop (mkF m 79 #[.val (.ref a), .val (.ref b), .val (.int (2 : Int32))] [])) _
        refine XS.goto X42.here hx rfl (pc0 := 79) (pc' := 22) rfl (hb hby d5_79) (by decide) (by decide) ?_
        show Steps p.tables e below (T42.setTop (mkF m 22 #[.val (.ref a), .val (.ref b), .val (.int (2 : Int32))] [])) _
        refine XS.iloadN X42.here hx rfl (hb hby d5_22) rfl ?_
        show Steps p.tables e below (T42.setTop (mkF m 23 #[.val (.ref a), .val (.ref b), .val (.int (2 : Int32))] [(.int (2 : Int32))])) _
        refine XS.aloadN X42.here hx rfl (hb hby d5_23) rfl rfl ?_
        show Steps p.tables e below (T42.setTop (mkF m 24 #[.val (.ref a), .val (.ref b), .val (.int (2 : Int32))] [(.ref b), (.int (2 : Int32))])) _
        refine X42.arraylength hx (by rw [e42]; exact A43.1) (State.isArrayOf_alike hZ.alike A43.2.1) (g := (mkF m 24 #[.val (.ref a), .val (.ref b), .val (.int (2 : Int32))] [(.ref b), (.int (2 : Int32))])) rfl rfl (hb hby d5_24) _ ?_
        rw [len_of S43 M43]
        show Steps p.tables e below (T42.setTop (mkF m 25 #[.val (.ref a), .val (.ref b), .val (.int (2 : Int32))] [(.int (2 : Int32)), (.int (2 : Int32))])) _
        refine XS.icmpYes X42.here hx rfl (pc0 := 25) (pc' := 82) rfl (hb hby d5_25) rfl (by decide) (by decide) (by decide) ?_
        show Steps p.tables e below (T42.setTop (mkF m 82 #[.val (.ref a), .val (.ref b), .val (.int (2 : Int32))] [])) _
        refine XS.aloadN X42.here hx rfl (hb hby d5_82) rfl rfl ?_
        show Steps p.tables e below (T42.setTop (mkF m 83 #[.val (.ref a), .val (.ref b), .val (.int (2 : Int32))] [(.ref b)])) _
        exact retOut X42 hx Bd.returns rfl (Or.inr (Or.inr (Or.inr (Or.inr ⟨rfl, rfl, rfl⟩)))) (hb hby d5_83) hr
      · show Q5 Z a aL kL aU kU lo0 lo1 up0 up1 r0 r1 h0 n0 _ T42.heap _
        rw [e42]
        refine ⟨b, k_b, rfl, N42, Nat.le_of_eq g_b.symm, (((Keep.refl h0 []).ext E24).wr W34 (Or.inr (Nat.le_of_eq g_b.symm))).wr W42 (Or.inr (Nat.le_of_eq g_b.symm)), ?_⟩
        rw [hx0, hx1]
        exact Vb_42
    · obtain ⟨T21, X21, e21, st21⟩ := getF X0 hx hZ hown (host := "") (Or.inl (hw _ (List.mem_of_getElem? (i := 19) rfl))) Via.refl e0 FV (g := (mkF m 1 #[.val (.ref a), .unset, .unset] [(.ref a)])) rfl rfl (hb hby d5_1)
      obtain ⟨T22, X22, e22, st22⟩ := getF X21 hx hZ hown (host := "") (Or.inl (hw _ (List.mem_of_getElem? (i := 17) rfl))) Via.refl e21 FL (g := (mkF m 13 #[.val (.ref a), .unset, .unset] [(.ref a)])) rfl rfl (hb hby d5_13)
      obtain ⟨c23, A23, -, S23, M23, -, -⟩ := id VL
      obtain ⟨T24, h24, k_b, X24, e24, E24, A24, st24⟩ := newP X22 hx hZ (hw _ (List.mem_of_getElem? (i := 0) rfl)) e22 (g := (mkF m 17 #[.val (.ref a), .unset, .unset] [(.int (2 : Int32))])) rfl (hb hby d5_17) rfl (by decide : ¬ ((2 : Int32) < (0 : Int32))) (cap := 2) (by decide : (2 : Int32).toNatClampNeg ≤ 2) (by decide) (by decide) (by decide)
      obtain ⟨b, g_b⟩ : ∃ z, z = h0.size := ⟨_, rfl⟩
      rw [← g_b] at A24 st24
      have ge_b : n0 ≤ b := Nat.le_trans Z0 (Nat.le_of_eq g_b.symm)
      have ne_aL_b : aL ≠ b := Nat.ne_of_lt (Nat.lt_of_lt_of_le VL.lt (Nat.le_of_eq g_b.symm))
      have ne_aU_b : aU ≠ b := Nat.ne_of_lt (Nat.lt_of_lt_of_le VU.lt (Nat.le_of_eq g_b.symm))
      have ne_a_b : a ≠ b := Nat.ne_of_lt (Nat.lt_of_lt_of_le FL.lt (Nat.le_of_eq g_b.symm))
      have VaL_24 : Arv Z h24 aL kL .double (2 : Int32) [(.double lo0), (.double lo1)] (.double 0) := VL.ext E24
      have VaU_24 : Arv Z h24 aU kU .double (2 : Int32) [(.double up0), (.double up1)] (.double 0) := VU.ext E24
      have Fa_values_24 : Fld Z h24 a "com/example/umbel/umbel/check/ValueBounds" "values" "[D" .null := FV.ext E24
      have Fa_lower_24 : Fld Z h24 a "com/example/umbel/umbel/check/ValueBounds" "lower" "[D" (.ref aL) := FL.ext E24
      have Fa_upper_24 : Fld Z h24 a "com/example/umbel/umbel/check/ValueBounds" "upper" "[D" (.ref aU) := FU.ext E24
      have Z24 : n0 ≤ h24.size := Nat.le_trans Z0 E24.1
      have P24 : Arv Z h24 b k_b .double (2 : Int32) [] (.double 0) := Arv.new A24 (by decide : ¬ ((2 : Int32) < (0 : Int32)))
      have Vb_24 : Arv Z h24 b k_b .double (2 : Int32) [(.double 0), (.double 0)] (.double 0) := P24.pad (pad_rep [] (.double 0) 2)
      obtain ⟨c25, A25, -, S25, M25, -, -⟩ := id Vb_24
      obtain ⟨T26, X26, e26, st26⟩ := getF X24 hx hZ hown (host := "") (Or.inl (hw _ (List.mem_of_getElem? (i := 17) rfl))) Via.refl e24 Fa_lower_24 (g := (mkF m 29 #[.val (.ref a), .val (.ref b), .val (.int (0 : Int32))] [(.ref a)])) rfl rfl (hb hby d5_29)
      obtain ⟨c27, A27, -, S27, M27, H27, -⟩ := id VaL_24
      have i27 := inb_of (j := (0 : Int32)) S27 ⟨(by decide : ¬ ((0 : Int32) < (0 : Int32))), (by decide : (0 : Int32) < (2 : Int32))⟩
      obtain ⟨T28, X28, e28, st28⟩ := getF X26 hx hZ hown (host := "") (Or.inl (hw _ (List.mem_of_getElem? (i := 21) rfl))) Via.refl e26 Fa_upper_24 (g := (mkF m 35 #[.val (.ref a), .val (.ref b), .val (.int (0 : Int32))] [(.ref a), (.double lo0)])) rfl rfl (hb hby d5_35)
      obtain ⟨c29, A29, -, S29, M29, H29, -⟩ := id VaU_24
      have i29 := inb_of (j := (0 : Int32)) S29 ⟨(by decide : ¬ ((0 : Int32) < (0 : Int32))), (by decide : (0 : Int32) < (2 : Int32))⟩
      obtain ⟨T30, X30, e30, st30⟩ := getF X28 hx hZ hown (host := "") (Or.inl (hw _ (List.mem_of_getElem? (i := 17) rfl))) Via.refl e28 Fa_lower_24 (g := (mkF m 59 #[.val (.ref a), .val (.ref b), .val (.int (0 : Int32))] [(.ref a), (.int (0 : Int32)), (.ref b)])) rfl rfl (hb hby d5_59)
      obtain ⟨c31, A31, -, S31, M31, H31, -⟩ := id VaL_24
      have i31 := inb_of (j := (0 : Int32)) S31 ⟨(by decide : ¬ ((0 : Int32) < (0 : Int32))), (by decide : (0 : Int32) < (2 : Int32))⟩
      obtain ⟨T32, X32, e32, st32⟩ := getF X30 hx hZ hown (host := "") (Or.inl (hw _ (List.mem_of_getElem? (i := 21) rfl))) Via.refl e30 Fa_upper_24 (g := (mkF m 65 #[.val (.ref a), .val (.ref b), .val (.int (0 : Int32))] [(.ref a), (.double lo0), (.int (0 : Int32)), (.ref b)])) rfl rfl (hb hby d5_65)
      obtain ⟨c33, A33, -, S33, M33, H33, -⟩ := id VaU_24
      have i33 := inb_of (j := (0 : Int32)) S33 ⟨(by decide : ¬ ((0 : Int32) < (0 : Int32))), (by decide : (0 : Int32) < (2 : Int32))⟩
      obtain ⟨c34, A34, q34, S34, M34, H34, U34⟩ := id Vb_24
      obtain ⟨T34, h34, X34, e34, W34, st34⟩ := stD X32 hx hZ e32 A34 (j := (0 : Int32)) (inb_of S34 ⟨(by decide : ¬ ((0 : Int32) < (0 : Int32))), (by decide : (0 : Int32) < (2 : Int32))⟩) (g := (mkF m 75 #[.val (.ref a), .val (.ref b), .val (.int (0 : Int32))] [(.double (FP.ddiv (FP.dadd lo0 up0) (4611686018427387904 : UInt64))), (.int (0 : Int32)), (.ref b)])) rfl rfl (hb hby d5_75)
      have N34 := Fr.snoc X34 N0 ge_b
      have VaL_34 : Arv Z h34 aL kL .double (2 : Int32) [(.double lo0), (.double lo1)] (.double 0) := VaL_24.other W34 ne_aL_b
      have VaU_34 : Arv Z h34 aU kU .double (2 : Int32) [(.double up0), (.double up1)] (.double 0) := VaU_24.other W34 ne_aU_b
      have Fa_values_34 : Fld Z h34 a "com/example/umbel/umbel/check/ValueBounds" "values" "[D" .null := Fa_values_24.other W34 (Or.inl ne_a_b)
      have Fa_lower_34 : Fld Z h34 a "com/example/umbel/umbel/check/ValueBounds" "lower" "[D" (.ref aL) := Fa_lower_24.other W34 (Or.inl ne_a_b)
      have Fa_upper_34 : Fld Z h34 a "com/example/umbel/umbel/check/ValueBounds" "upper" "[D" (.ref aU) := Fa_upper_24.other W34 (Or.inl ne_a_b)
      have Vb_34 : Arv Z h34 b k_b .double (2 : Int32) [(.double (FP.ddiv (FP.dadd lo0 up0) (4611686018427387904 : UInt64))), (.double 0)] (.double 0) := Arv.set A34 q34 S34 M34 H34 U34 rfl W34 0 rfl (Nat.le_of_ble_eq_true rfl)
      have Z34 : n0 ≤ h34.size := Nat.le_trans Z24 (Keep.of_wr W34).1
      obtain ⟨c35, A35, -, S35, M35, -, -⟩ := id Vb_34
      obtain ⟨T36, X36, e36, st36⟩ := getF X34 hx hZ hown (host := "") (Or.inl (hw _ (List.mem_of_getElem? (i := 17) rfl))) Via.refl e34 Fa_lower_34 (g := (mkF m 29 #[.val (.ref a), .val (.ref b), .val (.int (1 : Int32))] [(.ref a)])) rfl rfl (hb hby d5_29)
      obtain ⟨c37, A37, -, S37, M37, H37, -⟩ := id VaL_34
      have i37 := inb_of (j := (1 : Int32)) S37 ⟨(by decide : ¬ ((1 : Int32) < (0 : Int32))), (by decide : (1 : Int32) < (2 : Int32))⟩
      obtain ⟨T38, X38, e38, st38⟩ := getF X36 hx hZ hown (host := "") (Or.inl (hw _ (List.mem_of_getElem? (i := 21) rfl))) Via.refl e36 Fa_upper_34 (g := (mkF m 35 #[.val (.ref a), .val (.ref b), .val (.int (1 : Int32))] [(.ref a), (.double lo1)])) rfl rfl (hb hby d5_35)
      obtain ⟨c39, A39, -, S39, M39, H39, -⟩ := id VaU_34
      have i39 := inb_of (j := (1 : Int32)) S39 ⟨(by decide : ¬ ((1 : Int32) < (0 : Int32))), (by decide : (1 : Int32) < (2 : Int32))⟩
      obtain ⟨T40, X40, e40, st40⟩ := getF X38 hx hZ hown (host := "") (Or.inl (hw _ (List.mem_of_getElem? (i := 17) rfl))) Via.refl e38 Fa_lower_34 (g := (mkF m 59 #[.val (.ref a), .val (.ref b), .val (.int (1 : Int32))] [(.ref a), (.int (1 : Int32)), (.ref b)])) rfl rfl (hb hby d5_59)
      obtain ⟨c41, A41, -, S41, M41, H41, -⟩ := id VaL_34
      have i41 := inb_of (j := (1 : Int32)) S41 ⟨(by decide : ¬ ((1 : Int32) < (0 : Int32))), (by decide : (1 : Int32) < (2 : Int32))⟩
      obtain ⟨T42, X42, e42, st42⟩ := getF X40 hx hZ hown (host := "") (Or.inl (hw _ (List.mem_of_getElem? (i := 21) rfl))) Via.refl e40 Fa_upper_34 (g := (mkF m 65 #[.val (.ref a), .val (.ref b), .val (.int (1 : Int32))] [(.ref a), (.double lo1), (.int (1 : Int32)), (.ref b)])) rfl rfl (hb hby d5_65)
      obtain ⟨c43, A43, -, S43, M43, H43, -⟩ := id VaU_34
      have i43 := inb_of (j := (1 : Int32)) S43 ⟨(by decide : ¬ ((1 : Int32) < (0 : Int32))), (by decide : (1 : Int32) < (2 : Int32))⟩
      obtain ⟨c44, A44, q44, S44, M44, H44, U44⟩ := id Vb_34
      obtain ⟨T44, h44, X44, e44, W44, st44⟩ := stD X42 hx hZ e42 A44 (j := (1 : Int32)) (inb_of S44 ⟨(by decide : ¬ ((1 : Int32) < (0 : Int32))), (by decide : (1 : Int32) < (2 : Int32))⟩) (g := (mkF m 75 #[.val (.ref a), .val (.ref b), .val (.int (1 : Int32))] [(.double (FP.ddiv (FP.dadd lo1 up1) (4611686018427387904 : UInt64))), (.int (1 : Int32)), (.ref b)])) rfl rfl (hb hby d5_75)
      have N44 := Fr.snoc X44 N34 ge_b
      have VaL_44 : Arv Z h44 aL kL .double (2 : Int32) [(.double lo0), (.double lo1)] (.double 0) := VaL_34.other W44 ne_aL_b
      have VaU_44 : Arv Z h44 aU kU .double (2 : Int32) [(.double up0), (.double up1)] (.double 0) := VaU_34.other W44 ne_aU_b
      have Fa_values_44 : Fld Z h44 a "com/example/umbel/umbel/check/ValueBounds" "values" "[D" .null := Fa_values_34.other W44 (Or.inl ne_a_b)
      have Fa_lower_44 : Fld Z h44 a "com/example/umbel/umbel/check/ValueBounds" "lower" "[D" (.ref aL) := Fa_lower_34.other W44 (Or.inl ne_a_b)
      have Fa_upper_44 : Fld Z h44 a "com/example/umbel/umbel/check/ValueBounds" "upper" "[D" (.ref aU) := Fa_upper_34.other W44 (Or.inl ne_a_b)
      have Vb_44 : Arv Z h44 b k_b .double (2 : Int32) [(.double (FP.ddiv (FP.dadd lo0 up0) (4611686018427387904 : UInt64))), (.double (FP.ddiv (FP.dadd lo1 up1) (4611686018427387904 : UInt64)))] (.double 0) := Arv.set A44 q44 S44 M44 H44 U44 rfl W44 1 rfl (Nat.le_of_ble_eq_true rfl)
      have Z44 : n0 ≤ h44.size := Nat.le_trans Z34 (Keep.of_wr W44).1
      obtain ⟨c45, A45, -, S45, M45, -, -⟩ := id Vb_44
      obtain ⟨fs, hr, hrun, hended, hW, hsame⟩ := X44.leave (v := some (.ref b)) (fun h => by rw [Bd.returns] at h; cases h)
      refine ⟨_, _, pre0 _ ?_, hrun, hended, _, _, rfl, ?_, ⟨_, rfl⟩, hW, hsame.mono (by decide) (by decide)⟩
      · show Steps p.tables e below (s₁.setTop (mkF m 0 #[.val (.ref a), .unset, .unset] [])) _
        refine XS.aloadN X0.here hx rfl (hb hby d5_0) rfl rfl ?_
        show Steps p.tables e below (s₁.setTop (mkF m 1 #[.val (.ref a), .unset, .unset] [(.ref a)])) _
        refine st21 _ ?_
        show Steps p.tables e below (T21.setTop (mkF m 4 #[.val (.ref a), .unset, .unset] [.null])) _
        refine XS.ifnullYes X21.here hx rfl (pc0 := 4) (pc' := 12) rfl (hb hby d5_4) rfl (by decide) (by decide) ?_
        show Steps p.tables e below (T21.setTop (mkF m 12 #[.val (.ref a), .unset, .unset] [])) _
        refine XS.aloadN X21.here hx rfl (hb hby d5_12) rfl rfl ?_
        show Steps p.tables e below (T21.setTop (mkF m 13 #[.val (.ref a), .unset, .unset] [(.ref a)])) _
        refine st22 _ ?_
        show Steps p.tables e below (T22.setTop (mkF m 16 #[.val (.ref a), .unset, .unset] [(.ref aL)])) _
        refine X22.arraylength hx (by rw [e22]; exact A23.1) (State.isArrayOf_alike hZ.alike A23.2.1) (g := (mkF m 16 #[.val (.ref a), .unset, .unset] [(.ref aL)])) rfl rfl (hb hby d5_16) _ ?_
        rw [len_of S23 M23]
        show Steps p.tables e below (T22.setTop (mkF m 17 #[.val (.ref a), .unset, .unset] [(.int (2 : Int32))])) _
        refine st24 _ ?_
        show Steps p.tables e below (T24.setTop (mkF m 19 #[.val (.ref a), .unset, .unset] [(.ref b)])) _
        refine XS.astoreN X24.here hx rfl (hb hby d5_19) rfl rfl (l' := #[.val (.ref a), .val (.ref b), .unset]) rfl ?_
        show Steps p.tables e below (T24.setTop (mkF m 20 #[.val (.ref a), .val (.ref b), .unset] [])) _
        refine XS.iconst X24.here hx rfl (hb hby d5_20) ?_
        show Steps p.tables e below (T24.setTop (mkF m 21 #[.val (.ref a), .val (.ref b), .unset] [(.int (0 : Int32))])) _
        refine XS.istoreN X24.here hx rfl (hb hby d5_21) rfl (l' := #[.val (.ref a), .val (.ref b), .val (.int (0 : Int32))]) rfl ?_
        show Steps p.tables e below (T24.setTop (mkF m 22 #[.val (.ref a), .val (.ref b), .val (.int (0 : Int32))] [])) _
        refine XS.iloadN X24.here hx rfl (hb hby d5_22) rfl ?_
        show Steps p.tables e below (T24.setTop (mkF m 23 #[.val (.ref a), .val (.ref b), .val (.int (0 : Int32))] [(.int (0 : Int32))])) _
        refine XS.aloadN X24.here hx rfl (hb hby d5_23) rfl rfl ?_
        show Steps p.tables e below (T24.setTop (mkF m 24 #[.val (.ref a), .val (.ref b), .val (.int (0 : Int32))] [(.ref b), (.int (0 : Int32))])) _
        refine X24.arraylength hx (by rw [e24]; exact A25.1) (State.isArrayOf_alike hZ.alike A25.2.1) (g := (mkF m 24 #[.val (.ref a), .val (.ref b), .val (.int (0 : Int32))] [(.ref b), (.int (0 : Int32))])) rfl rfl (hb hby d5_24) _ ?_
        rw [len_of S25 M25]
        show Steps p.tables e below (T24.setTop (mkF m 25 #[.val (.ref a), .val (.ref b), .val (.int (0 : Int32))] [(.int (2 : Int32)), (.int (0 : Int32))])) _
        refine XS.icmpNo X24.here hx rfl (hb hby d5_25) rfl (by decide) ?_
        show Steps p.tables e below (T24.setTop (mkF m 28 #[.val (.ref a), .val (.ref b), .val (.int (0 : Int32))] [])) _
        refine XS.aloadN X24.here hx rfl (hb hby d5_28) rfl rfl ?_
        show Steps p.tables e below (T24.setTop (mkF m 29 #[.val (.ref a), .val (.ref b), .val (.int (0 : Int32))] [(.ref a)])) _
        refine st26 _ ?_
        show Steps p.tables e below (T26.setTop (mkF m 32 #[.val (.ref a), .val (.ref b), .val (.int (0 : Int32))] [(.ref aL)])) _
        refine XS.iloadN X26.here hx rfl (hb hby d5_32) rfl ?_
        show Steps p.tables e below (T26.setTop (mkF m 33 #[.val (.ref a), .val (.ref b), .val (.int (0 : Int32))] [(.int (0 : Int32)), (.ref aL)])) _
        refine X26.daload hx (j := (0 : Int32)) (v := (.double lo0)) (by rw [e26]; exact A27.1) (State.isArrayOf_alike hZ.alike A27.2.1) A27.2.2 i27 (H27.at i27 rfl) (g := (mkF m 33 #[.val (.ref a), .val (.ref b), .val (.int (0 : Int32))] [(.int (0 : Int32)), (.ref aL)])) rfl rfl (hb hby d5_33) _ ?_
        show Steps p.tables e below (T26.setTop (mkF m 34 #[.val (.ref a), .val (.ref b), .val (.int (0 : Int32))] [(.double lo0)])) _
        refine XS.aloadN X26.here hx rfl (hb hby d5_34) rfl rfl ?_
        show Steps p.tables e below (T26.setTop (mkF m 35 #[.val (.ref a), .val (.ref b), .val (.int (0 : Int32))] [(.ref a), (.double lo0)])) _
        refine st28 _ ?_
        show Steps p.tables e below (T28.setTop (mkF m 38 #[.val (.ref a), .val (.ref b), .val (.int (0 : Int32))] [(.ref aU), (.double lo0)])) _
        refine XS.iloadN X28.here hx rfl (hb hby d5_38) rfl ?_
        show Steps p.tables e below (T28.setTop (mkF m 39 #[.val (.ref a), .val (.ref b), .val (.int (0 : Int32))] [(.int (0 : Int32)), (.ref aU), (.double lo0)])) _
        refine X28.daload hx (j := (0 : Int32)) (v := (.double up0)) (by rw [e28]; exact A29.1) (State.isArrayOf_alike hZ.alike A29.2.1) A29.2.2 i29 (H29.at i29 rfl) (g := (mkF m 39 #[.val (.ref a), .val (.ref b), .val (.int (0 : Int32))] [(.int (0 : Int32)), (.ref aU), (.double lo0)])) rfl rfl (hb hby d5_39) _ ?_
        show Steps p.tables e below (T28.setTop (mkF m 40 #[.val (.ref a), .val (.ref b), .val (.int (0 : Int32))] [(.double up0), (.double lo0)])) _
        refine XS.dcmpS X28.here hx rfl (hb hby d5_40) rfl rfl ?_
        show Steps p.tables e below (T28.setTop (mkF m 41 #[.val (.ref a), .val (.ref b), .val (.int (0 : Int32))] [(.int (cmpValue (FP.dcmp lo0 up0) .l))])) _
        refine XS.ifYes X28.here hx rfl (pc0 := 41) (pc' := 56) rfl (hb hby d5_41) rfl ((if0 _ _).trans (feq c0).2) (by decide) (by decide) ?_
        show Steps p.tables e below (T28.setTop (mkF m 56 #[.val (.ref a), .val (.ref b), .val (.int (0 : Int32))] [])) _
        refine XS.aloadN X28.here hx rfl (hb hby d5_56) rfl rfl ?_
        show Steps p.tables e below (T28.setTop (mkF m 57 #[.val (.ref a), .val (.ref b), .val (.int (0 : Int32))] [(.ref b)])) _
        refine XS.iloadN X28.here hx rfl (hb hby d5_57) rfl ?_
        show Steps p.tables e below (T28.setTop (mkF m 58 #[.val (.ref a), .val (.ref b), .val (.int (0 : Int32))] [(.int (0 : Int32)), (.ref b)])) _
        refine XS.aloadN X28.here hx rfl (hb hby d5_58) rfl rfl ?_
        show Steps p.tables e below (T28.setTop (mkF m 59 #[.val (.ref a), .val (.ref b), .val (.int (0 : Int32))] [(.ref a), (.int (0 : Int32)), (.ref b)])) _
        refine st30 _ ?_
        show Steps p.tables e below (T30.setTop (mkF m 62 #[.val (.ref a), .val (.ref b), .val (.int (0 : Int32))] [(.ref aL), (.int (0 : Int32)), (.ref b)])) _
        refine XS.iloadN X30.here hx rfl (hb hby d5_62) rfl ?_
        show Steps p.tables e below (T30.setTop (mkF m 63 #[.val (.ref a), .val (.ref b), .val (.int (0 : Int32))] [(.int (0 : Int32)), (.ref aL), (.int (0 : Int32)), (.ref b)])) _
        refine X30.daload hx (j := (0 : Int32)) (v := (.double lo0)) (by rw [e30]; exact A31.1) (State.isArrayOf_alike hZ.alike A31.2.1) A31.2.2 i31 (H31.at i31 rfl) (g := (mkF m 63 #[.val (.ref a), .val (.ref b), .val (.int (0 : Int32))] [(.int (0 : Int32)), (.ref aL), (.int (0 : Int32)), (.ref b)])) rfl rfl (hb hby d5_63) _ ?_
        show Steps p.tables e below (T30.setTop (mkF m 64 #[.val (.ref a), .val (.ref b), .val (.int (0 : Int32))] [(.double lo0), (.int (0 : Int32)), (.ref b)])) _
        refine XS.aloadN X30.here hx rfl (hb hby d5_64) rfl rfl ?_
        show Steps p.tables e below (T30.setTop (mkF m 65 #[.val (.ref a), .val (.ref b), .val (.int (0 : Int32))] [(.ref a), (.double lo0), (.int (0 : Int32)), (.ref b)])) _
        refine st32 _ ?_
        show Steps p.tables e below (T32.setTop (mkF m 68 #[.val (.ref a), .val (.ref b), .val (.int (0 : Int32))] [(.ref aU), (.double lo0), (.int (0 : Int32)), (.ref b)])) _
        refine XS.iloadN X32.here hx rfl (hb hby d5_68) rfl ?_
        show Steps p.tables e below (T32.setTop (mkF m 69 #[.val (.ref a), .val (.ref b), .val (.int (0 : Int32))] [(.int (0 : Int32)), (.ref aU), (.double lo0), (.int (0 : Int32)), (.ref b)])) _
        refine X32.daload hx (j := (0 : Int32)) (v := (.double up0)) (by rw [e32]; exact A33.1) (State.isArrayOf_alike hZ.alike A33.2.1) A33.2.2 i33 (H33.at i33 rfl) (g := (mkF m 69 #[.val (.ref a), .val (.ref b), .val (.int (0 : Int32))] [(.int (0 : Int32)), (.ref aU), (.double lo0), (.int (0 : Int32)), (.ref b)])) rfl rfl (hb hby d5_69) _ ?_
        show Steps p.tables e below (T32.setTop (mkF m 70 #[.val (.ref a), .val (.ref b), .val (.int (0 : Int32))] [(.double up0), (.double lo0), (.int (0 : Int32)), (.ref b)])) _
        refine XS.daddS X32.here hx rfl (hb hby d5_70) rfl p0 rfl ?_
        show Steps p.tables e below (T32.setTop (mkF m 71 #[.val (.ref a), .val (.ref b), .val (.int (0 : Int32))] [(.double (FP.dadd lo0 up0)), (.int (0 : Int32)), (.ref b)])) _
        refine X32.ldc2DoubleC hx hown (mvT hZ (hw _ (List.mem_of_getElem? (i := 28) rfl))) (g := (mkF m 71 #[.val (.ref a), .val (.ref b), .val (.int (0 : Int32))] [(.double (FP.dadd lo0 up0)), (.int (0 : Int32)), (.ref b)])) rfl (hb hby d5_71) _ ?_
        show Steps p.tables e below (T32.setTop (mkF m 74 #[.val (.ref a), .val (.ref b), .val (.int (0 : Int32))] [(.double (4611686018427387904 : UInt64)), (.double (FP.dadd lo0 up0)), (.int (0 : Int32)), (.ref b)])) _
        refine XS.ddivS X32.here hx rfl (hb hby d5_74) rfl q0 rfl ?_
        show Steps p.tables e below (T32.setTop (mkF m 75 #[.val (.ref a), .val (.ref b), .val (.int (0 : Int32))] [(.double (FP.ddiv (FP.dadd lo0 up0) (4611686018427387904 : UInt64))), (.int (0 : Int32)), (.ref b)])) _
        refine st34 _ ?_
        show Steps p.tables e below (T34.setTop (mkF m 76 #[.val (.ref a), .val (.ref b), .val (.int (0 : Int32))] [])) _
        refine XS.iinc X34.here hx rfl (hb hby d5_76) rfl (l' := #[.val (.ref a), .val (.ref b), .val (.int (1 : Int32))]) rfl ?_
        show Steps p.tables e below (T34.setTop (mkF m 79 #[.val (.ref a), .val (.ref b), .val (.int (1 : Int32))] [])) _
        refine XS.goto X34.here hx rfl (pc0 := 79) (pc' := 22) rfl (hb hby d5_79) (by decide) (by decide) ?_
        show Steps p.tables e below (T34.setTop (mkF m 22 #[.val (.ref a), .val (.ref b), .val (.int (1 : Int32))] [])) _
        refine XS.iloadN X34.here hx rfl (hb hby d5_22) rfl ?_
        show Steps p.tables e below (T34.setTop (mkF m 23 #[.val (.ref a), .val (.ref b), .val (.int (1 : Int32))] [(.int (1 : Int32))])) _
        refine XS.aloadN X34.here hx rfl (hb hby d5_23) rfl rfl ?_
        show Steps p.tables e below (T34.setTop (mkF m 24 #[.val (.ref a), .val (.ref b), .val (.int (1 : Int32))] [(.ref b), (.int (1 : Int32))])) _
        refine X34.arraylength hx (by rw [e34]; exact A35.1) (State.isArrayOf_alike hZ.alike A35.2.1) (g := (mkF m 24 #[.val (.ref a), .val (.ref b), .val (.int (1 : Int32))] [(.ref b), (.int (1 : Int32))])) rfl rfl (hb hby d5_24) _ ?_
        rw [len_of S35 M35]
        show Steps p.tables e below (T34.setTop (mkF m 25 #[.val (.ref a), .val (.ref b), .val (.int (1 : Int32))] [(.int (2 : Int32)), (.int (1 : Int32))])) _
        refine XS.icmpNo X34.here hx rfl (hb hby d5_25) rfl (by decide) ?_
        show Steps p.tables e below (T34.setTop (mkF m 28 #[.val (.ref a), .val (.ref b), .val (.int (1 : Int32))] [])) _
        refine XS.aloadN X34.here hx rfl (hb hby d5_28) rfl rfl ?_
        show Steps p.tables e below (T34.setTop (mkF m 29 #[.val (.ref a), .val (.ref b), .val (.int (1 : Int32))] [(.ref a)])) _
        refine st36 _ ?_
        show Steps p.tables e below (T36.setTop (mkF m 32 #[.val (.ref a), .val (.ref b), .val (.int (1 : Int32))] [(.ref aL)])) _
        refine XS.iloadN X36.here hx rfl (hb hby d5_32) rfl ?_
        show Steps p.tables e below (T36.setTop (mkF m 33 #[.val (.ref a), .val (.ref b), .val (.int (1 : Int32))] [(.int (1 : Int32)), (.ref aL)])) _
        refine X36.daload hx (j := (1 : Int32)) (v := (.double lo1)) (by rw [e36]; exact A37.1) (State.isArrayOf_alike hZ.alike A37.2.1) A37.2.2 i37 (H37.at i37 rfl) (g := (mkF m 33 #[.val (.ref a), .val (.ref b), .val (.int (1 : Int32))] [(.int (1 : Int32)), (.ref aL)])) rfl rfl (hb hby d5_33) _ ?_
        show Steps p.tables e below (T36.setTop (mkF m 34 #[.val (.ref a), .val (.ref b), .val (.int (1 : Int32))] [(.double lo1)])) _
        refine XS.aloadN X36.here hx rfl (hb hby d5_34) rfl rfl ?_
        show Steps p.tables e below (T36.setTop (mkF m 35 #[.val (.ref a), .val (.ref b), .val (.int (1 : Int32))] [(.ref a), (.double lo1)])) _
        refine st38 _ ?_
        show Steps p.tables e below (T38.setTop (mkF m 38 #[.val (.ref a), .val (.ref b), .val (.int (1 : Int32))] [(.ref aU), (.double lo1)])) _
        refine XS.iloadN X38.here hx rfl (hb hby d5_38) rfl ?_
        show Steps p.tables e below (T38.setTop (mkF m 39 #[.val (.ref a), .val (.ref b), .val (.int (1 : Int32))] [(.int (1 : Int32)), (.ref aU), (.double lo1)])) _
        refine X38.daload hx (j := (1 : Int32)) (v := (.double up1)) (by rw [e38]; exact A39.1) (State.isArrayOf_alike hZ.alike A39.2.1) A39.2.2 i39 (H39.at i39 rfl) (g := (mkF m 39 #[.val (.ref a), .val (.ref b), .val (.int (1 : Int32))] [(.int (1 : Int32)), (.ref aU), (.double lo1)])) rfl rfl (hb hby d5_39) _ ?_
        show Steps p.tables e below (T38.setTop (mkF m 40 #[.val (.ref a), .val (.ref b), .val (.int (1 : Int32))] [(.double up1), (.double lo1)])) _
        refine XS.dcmpS X38.here hx rfl (hb hby d5_40) rfl rfl ?_
        show Steps p.tables e below (T38.setTop (mkF m 41 #[.val (.ref a), .val (.ref b), .val (.int (1 : Int32))] [(.int (cmpValue (FP.dcmp lo1 up1) .l))])) _
        refine XS.ifYes X38.here hx rfl (pc0 := 41) (pc' := 56) rfl (hb hby d5_41) rfl ((if0 _ _).trans (feq c1).2) (by decide) (by decide) ?_
        show Steps p.tables e below (T38.setTop (mkF m 56 #[.val (.ref a), .val (.ref b), .val (.int (1 : Int32))] [])) _
        refine XS.aloadN X38.here hx rfl (hb hby d5_56) rfl rfl ?_
        show Steps p.tables e below (T38.setTop (mkF m 57 #[.val (.ref a), .val (.ref b), .val (.int (1 : Int32))] [(.ref b)])) _
        refine XS.iloadN X38.here hx rfl (hb hby d5_57) rfl ?_
        show Steps p.tables e below (T38.setTop (mkF m 58 #[.val (.ref a), .val (.ref b), .val (.int (1 : Int32))] [(.int (1 : Int32)), (.ref b)])) _
        refine XS.aloadN X38.here hx rfl (hb hby d5_58) rfl rfl ?_
        show Steps p.tables e below (T38.setTop (mkF m 59 #[.val (.ref a), .val (.ref b), .val (.int (1 : Int32))] [(.ref a), (.int (1 : Int32)), (.ref b)])) _
        refine st40 _ ?_
        show Steps p.tables e below (T40.setTop (mkF m 62 #[.val (.ref a), .val (.ref b), .val (.int (1 : Int32))] [(.ref aL), (.int (1 : Int32)), (.ref b)])) _
        refine XS.iloadN X40.here hx rfl (hb hby d5_62) rfl ?_
        show Steps p.tables e below (T40.setTop (mkF m 63 #[.val (.ref a), .val (.ref b), .val (.int (1 : Int32))] [(.int (1 : Int32)), (.ref aL), (.int (1 : Int32)), (.ref b)])) _
        refine X40.daload hx (j := (1 : Int32)) (v := (.double lo1)) (by rw [e40]; exact A41.1) (State.isArrayOf_alike hZ.alike A41.2.1) A41.2.2 i41 (H41.at i41 rfl) (g := (mkF m 63 #[.val (.ref a), .val (.ref b), .val (.int (1 : Int32))] [(.int (1 : Int32)), (.ref aL), (.int (1 : Int32)), (.ref b)])) rfl rfl (hb hby d5_63) _ ?_
        show Steps p.tables e below (T40.setTop (mkF m 64 #[.val (.ref a), .val (.ref b), .val (.int (1 : Int32))] [(.double lo1), (.int (1 : Int32)), (.ref b)])) _
        refine XS.aloadN X40.here hx rfl (hb hby d5_64) rfl rfl ?_
        show Steps p.tables e below (T40.setTop (mkF m 65 #[.val (.ref a), .val (.ref b), .val (.int (1 : Int32))] [(.ref a), (.double lo1), (.int (1 : Int32)), (.ref b)])) _
        refine st42 _ ?_
        show Steps p.tables e below (T42.setTop (mkF m 68 #[.val (.ref a), .val (.ref b), .val (.int (1 : Int32))] [(.ref aU), (.double lo1), (.int (1 : Int32)), (.ref b)])) _
        refine XS.iloadN X42.here hx rfl (hb hby d5_68) rfl ?_
        show Steps p.tables e below (T42.setTop (mkF m 69 #[.val (.ref a), .val (.ref b), .val (.int (1 : Int32))] [(.int (1 : Int32)), (.ref aU), (.double lo1), (.int (1 : Int32)), (.ref b)])) _
        refine X42.daload hx (j := (1 : Int32)) (v := (.double up1)) (by rw [e42]; exact A43.1) (State.isArrayOf_alike hZ.alike A43.2.1) A43.2.2 i43 (H43.at i43 rfl) (g := (mkF m 69 #[.val (.ref a), .val (.ref b), .val (.int (1 : Int32))] [(.int (1 : Int32)), (.ref aU), (.double lo1), (.int (1 : Int32)), (.ref b)])) rfl rfl (hb hby d5_69) _ ?_
        show Steps p.tables e below (T42.setTop (mkF m 70 #[.val (.ref a), .val (.ref b), .val (.int (1 : Int32))] [(.double up1), (.double lo1), (.int (1 : Int32)), (.ref b)])) _
        refine XS.daddS X42.here hx rfl (hb hby d5_70) rfl p1 rfl ?_
        show Steps p.tables e below (T42.setTop (mkF m 71 #[.val (.ref a), .val (.ref b), .val (.int (1 : Int32))] [(.double (FP.dadd lo1 up1)), (.int (1 : Int32)), (.ref b)])) _
        refine X42.ldc2DoubleC hx hown (mvT hZ (hw _ (List.mem_of_getElem? (i := 28) rfl))) (g := (mkF m 71 #[.val (.ref a), .val (.ref b), .val (.int (1 : Int32))] [(.double (FP.dadd lo1 up1)), (.int (1 : Int32)), (.ref b)])) rfl (hb hby d5_71) _ ?_
        show Steps p.tables e below (T42.setTop (mkF m 74 #[.val (.ref a), .val (.ref b), .val (.int (1 : Int32))] [(.double (4611686018427387904 : UInt64)), (.double (FP.dadd lo1 up1)), (.int (1 : Int32)), (.ref b)])) _
        refine XS.ddivS X42.here hx rfl (hb hby d5_74) rfl q1 rfl ?_
        show Steps p.tables e below (T42.setTop (mkF m 75 #[.val (.ref a), .val (.ref b), .val (.int (1 : Int32))] [(.double (FP.ddiv (FP.dadd lo1 up1) (4611686018427387904 : UInt64))), (.int (1 : Int32)), (.ref b)])) _
        refine st44 _ ?_
        show Steps p.tables e below (T44.setTop (mkF m 76 #[.val (.ref a), .val (.ref b), .val (.int (1 : Int32))] [])) _
        refine XS.iinc X44.here hx rfl (hb hby d5_76) rfl (l' := #[.val (.ref a), .val (.ref b), .val (.int (2 : Int32))]) rfl ?_
        show Steps p.tables e below (T44.setTop (mkF m 79 #[.val (.ref a), .val (.ref b), .val (.int (2 : Int32))] [])) _
        refine XS.goto X44.here hx rfl (pc0 := 79) (pc' := 22) rfl (hb hby d5_79) (by decide) (by decide) ?_
        show Steps p.tables e below (T44.setTop (mkF m 22 #[.val (.ref a), .val (.ref b), .val (.int (2 : Int32))] [])) _
        refine XS.iloadN X44.here hx rfl (hb hby d5_22) rfl ?_
        show Steps p.tables e below (T44.setTop (mkF m 23 #[.val (.ref a), .val (.ref b), .val (.int (2 : Int32))] [(.int (2 : Int32))])) _
        refine XS.aloadN X44.here hx rfl (hb hby d5_23) rfl rfl ?_
        show Steps p.tables e below (T44.setTop (mkF m 24 #[.val (.ref a), .val (.ref b), .val (.int (2 : Int32))] [(.ref b), (.int (2 : Int32))])) _
        refine X44.arraylength hx (by rw [e44]; exact A45.1) (State.isArrayOf_alike hZ.alike A45.2.1) (g := (mkF m 24 #[.val (.ref a), .val (.ref b), .val (.int (2 : Int32))] [(.ref b), (.int (2 : Int32))])) rfl rfl (hb hby d5_24) _ ?_
        rw [len_of S45 M45]
        show Steps p.tables e below (T44.setTop (mkF m 25 #[.val (.ref a), .val (.ref b), .val (.int (2 : Int32))] [(.int (2 : Int32)), (.int (2 : Int32))])) _
        refine XS.icmpYes X44.here hx rfl (pc0 := 25) (pc' := 82) rfl (hb hby d5_25) rfl (by decide) (by decide) (by decide) ?_
        show Steps p.tables e below (T44.setTop (mkF m 82 #[.val (.ref a), .val (.ref b), .val (.int (2 : Int32))] [])) _
        refine XS.aloadN X44.here hx rfl (hb hby d5_82) rfl rfl ?_
        show Steps p.tables e below (T44.setTop (mkF m 83 #[.val (.ref a), .val (.ref b), .val (.int (2 : Int32))] [(.ref b)])) _
        exact retOut X44 hx Bd.returns rfl (Or.inr (Or.inr (Or.inr (Or.inr ⟨rfl, rfl, rfl⟩)))) (hb hby d5_83) hr
      · show Q5 Z a aL kL aU kU lo0 lo1 up0 up1 r0 r1 h0 n0 _ T44.heap _
        rw [e44]
        refine ⟨b, k_b, rfl, N44, Nat.le_of_eq g_b.symm, (((Keep.refl h0 []).ext E24).wr W34 (Or.inr (Nat.le_of_eq g_b.symm))).wr W44 (Or.inr (Nat.le_of_eq g_b.symm)), ?_⟩
        rw [hx0, hx1]
        exact Vb_44
/-! ## the law -/
theorem ef0 (m : MethodId) (x0 : Int32) (x1 : Int32) (x2 : Int32) (x3 : Int32) (x4 : Int32) : entryFrame m #[(.int x0), (.int x1), (.int x2), (.int x3), (.int x4)] maxLocals = mkF m 0 #[.val (.int x0), .val (.int x1), .val (.int x2), .val (.int x3), .val (.int x4), .unset, .unset, .unset, .unset, .unset, .unset, .unset, .unset, .unset] [] := by first | (simp [entryFrame, mkF, argsToLocals, Value.category, maxLocals]; done) | rfl
def Q0 (Z : State) (p1 p2 p3 p4 p5 : Int32) (h0 : Heap) (n0 : Nat) (v : Option Value) (h : Heap) (L : List Loc) : Prop := v = some (.int 1) ∧ Fr n0 L
set_option maxRecDepth 65536 in
set_option maxHeartbeats 40000000 in
theorem rm0 (l : Launch) (Z : State) (a0 : Array Value) (hw : ∀ d ∈ tables_1, d.before a0 Z = true) (ws : List Jvm.Cond) (p1 p2 p3 p4 p5 : Int32) (h0 : Heap) (n0 : Nat) (Z0 : n0 ≤ h0.size)  :
    MetFree l x (head1 (Jvm.Cond.code x code maxLocals ret :: ws) room_1) (fun aa U => aa = #[(.int p1), (.int p2), (.int p3), (.int p4), (.int p5)] ∧ Z.Warmed39 U.vm ∧ U.heap = h0) (fun _ _ _ _ _ => True) (fun _ U o U' => ∃ v L, o = .returned v ∧ Q0 Z p1 p2 p3 p4 p5 h0 n0 v U'.heap L ∧ FrameEnd U o U' L room_1.cells room_1.slots) := by
  refine MetFree.of_bodySF (plainFor_of_name pn0) hisR ?_
  intro p e s m args below meth c s₁ Bd hml0 hP hK
  obtain ⟨rfl, hZ, hh⟩ := hP
  have hx := Bd.exec
  have hby := Bd.bytes
  have hml : c.maxLocals = 14 := hml0
  have hown : s.vm.findClass "com/example/umbel/umbel/check/ValueBoundsValuesPinLaw" = some m.cls := findClass_of_methodNamed Bd.named
  have hnm := (name_of_methodNamed Bd.named Bd.method).1
  have X0 : Stand p l e room_1 s m #[(.int p1), (.int p2), (.int p3), (.int p4), (.int p5)] below meth c s₁ [] 0 0 := Stand.of_body Bd
  have e0 : s₁.heap = h0 := by rw [← hh, Bd.state]; rfl
  have N0 := Fr.nil n0
  have pre0 : ∀ t, Steps p.tables e below (s₁.setTop (mkF m 0 #[.val (.int p1), .val (.int p2), .val (.int p3), .val (.int p4), .val (.int p5), .unset, .unset, .unset, .unset, .unset, .unset, .unset, .unset, .unset] [])) t → Steps p.tables e below (s₁.setTop (entryFrame m #[(.int p1), (.int p2), (.int p3), (.int p4), (.int p5)] maxLocals)) t := fun t k => castTop (ef0 m p1 p2 p3 p4 p5) k
  obtain ⟨gv, h_gv⟩ : ∃ z : Int32, z = (if (p5 &&& (1 : Int32)) = 0 then 0 else 1) := ⟨_, rfl⟩
  have S1 : ∀ target, Steps p.tables e below (s₁.setTop (mkF m 14 #[.val (.int p1), .val (.int p2), .val (.int p3), .val (.int p4), .val (.int p5), .val (.int gv), .unset, .unset, .unset, .unset, .unset, .unset, .unset, .unset] [])) target → Steps p.tables e below (s₁.setTop (mkF m 0 #[.val (.int p1), .val (.int p2), .val (.int p3), .val (.int p4), .val (.int p5), .unset, .unset, .unset, .unset, .unset, .unset, .unset, .unset, .unset] [])) target := by
    intro target kk
    by_cases c : (p5 &&& (1 : Int32)) = 0
    · rw [if_pos c] at h_gv; subst h_gv
      show Steps p.tables e below (s₁.setTop (mkF m 0 #[.val (.int p1), .val (.int p2), .val (.int p3), .val (.int p4), .val (.int p5), .unset, .unset, .unset, .unset, .unset, .unset, .unset, .unset, .unset] [])) _
      refine XS.iload X0.here hx rfl (hb hby at_0) rfl ?_
      show Steps p.tables e below (s₁.setTop (mkF m 2 #[.val (.int p1), .val (.int p2), .val (.int p3), .val (.int p4), .val (.int p5), .unset, .unset, .unset, .unset, .unset, .unset, .unset, .unset, .unset] [(.int p5)])) _
      refine XS.iconst X0.here hx rfl (hb hby at_2) ?_
      show Steps p.tables e below (s₁.setTop (mkF m 3 #[.val (.int p1), .val (.int p2), .val (.int p3), .val (.int p4), .val (.int p5), .unset, .unset, .unset, .unset, .unset, .unset, .unset, .unset, .unset] [(.int (1 : Int32)), (.int p5)])) _
      refine XS.iand X0.here hx rfl (hb hby at_3) rfl ?_
      show Steps p.tables e below (s₁.setTop (mkF m 4 #[.val (.int p1), .val (.int p2), .val (.int p3), .val (.int p4), .val (.int p5), .unset, .unset, .unset, .unset, .unset, .unset, .unset, .unset, .unset] [(.int (p5 &&& (1 : Int32)))])) _
      refine XS.ifYes X0.here hx rfl (pc0 := 4) (pc' := 11) rfl (hb hby at_4) rfl ((if0 _ _).trans (teq c).1) (by decide) (by decide) ?_
      show Steps p.tables e below (s₁.setTop (mkF m 11 #[.val (.int p1), .val (.int p2), .val (.int p3), .val (.int p4), .val (.int p5), .unset, .unset, .unset, .unset, .unset, .unset, .unset, .unset, .unset] [])) _
      refine XS.iconst X0.here hx rfl (hb hby at_11) ?_
      show Steps p.tables e below (s₁.setTop (mkF m 12 #[.val (.int p1), .val (.int p2), .val (.int p3), .val (.int p4), .val (.int p5), .unset, .unset, .unset, .unset, .unset, .unset, .unset, .unset, .unset] [(.int (0 : Int32))])) _
      refine XS.istore X0.here hx rfl (hb hby at_12) rfl (l' := #[.val (.int p1), .val (.int p2), .val (.int p3), .val (.int p4), .val (.int p5), .val (.int (0 : Int32)), .unset, .unset, .unset, .unset, .unset, .unset, .unset, .unset]) rfl ?_
      show Steps p.tables e below (s₁.setTop (mkF m 14 #[.val (.int p1), .val (.int p2), .val (.int p3), .val (.int p4), .val (.int p5), .val (.int (0 : Int32)), .unset, .unset, .unset, .unset, .unset, .unset, .unset, .unset] [])) _
      exact kk
    · rw [if_neg c] at h_gv; subst h_gv
      show Steps p.tables e below (s₁.setTop (mkF m 0 #[.val (.int p1), .val (.int p2), .val (.int p3), .val (.int p4), .val (.int p5), .unset, .unset, .unset, .unset, .unset, .unset, .unset, .unset, .unset] [])) _
      refine XS.iload X0.here hx rfl (hb hby at_0) rfl ?_
      show Steps p.tables e below (s₁.setTop (mkF m 2 #[.val (.int p1), .val (.int p2), .val (.int p3), .val (.int p4), .val (.int p5), .unset, .unset, .unset, .unset, .unset, .unset, .unset, .unset, .unset] [(.int p5)])) _
      refine XS.iconst X0.here hx rfl (hb hby at_2) ?_
      show Steps p.tables e below (s₁.setTop (mkF m 3 #[.val (.int p1), .val (.int p2), .val (.int p3), .val (.int p4), .val (.int p5), .unset, .unset, .unset, .unset, .unset, .unset, .unset, .unset, .unset] [(.int (1 : Int32)), (.int p5)])) _
      refine XS.iand X0.here hx rfl (hb hby at_3) rfl ?_
      show Steps p.tables e below (s₁.setTop (mkF m 4 #[.val (.int p1), .val (.int p2), .val (.int p3), .val (.int p4), .val (.int p5), .unset, .unset, .unset, .unset, .unset, .unset, .unset, .unset, .unset] [(.int (p5 &&& (1 : Int32)))])) _
      refine XS.ifNo X0.here hx rfl (hb hby at_4) rfl ((if0 _ _).trans (feq c).1) ?_
      show Steps p.tables e below (s₁.setTop (mkF m 7 #[.val (.int p1), .val (.int p2), .val (.int p3), .val (.int p4), .val (.int p5), .unset, .unset, .unset, .unset, .unset, .unset, .unset, .unset, .unset] [])) _
      refine XS.iconst X0.here hx rfl (hb hby at_7) ?_
      show Steps p.tables e below (s₁.setTop (mkF m 8 #[.val (.int p1), .val (.int p2), .val (.int p3), .val (.int p4), .val (.int p5), .unset, .unset, .unset, .unset, .unset, .unset, .unset, .unset, .unset] [(.int (1 : Int32))])) _
      refine XS.goto X0.here hx rfl (pc0 := 8) (pc' := 12) rfl (hb hby at_8) (by decide) (by decide) ?_
      show Steps p.tables e below (s₁.setTop (mkF m 12 #[.val (.int p1), .val (.int p2), .val (.int p3), .val (.int p4), .val (.int p5), .unset, .unset, .unset, .unset, .unset, .unset, .unset, .unset, .unset] [(.int (1 : Int32))])) _
      refine XS.istore X0.here hx rfl (hb hby at_12) rfl (l' := #[.val (.int p1), .val (.int p2), .val (.int p3), .val (.int p4), .val (.int p5), .val (.int (1 : Int32)), .unset, .unset, .unset, .unset, .unset, .unset, .unset, .unset]) rfl ?_
      show Steps p.tables e below (s₁.setTop (mkF m 14 #[.val (.int p1), .val (.int p2), .val (.int p3), .val (.int p4), .val (.int p5), .val (.int (1 : Int32)), .unset, .unset, .unset, .unset, .unset, .unset, .unset, .unset] [])) _
      exact kk
  obtain ⟨z0, h_z0⟩ : ∃ z : Int32, z = (if (p5 &&& (2 : Int32)) = 0 then 0 else 1) := ⟨_, rfl⟩
  have S2 : ∀ target, Steps p.tables e below (s₁.setTop (mkF m 28 #[.val (.int p1), .val (.int p2), .val (.int p3), .val (.int p4), .val (.int p5), .val (.int gv), .val (.int z0), .unset, .unset, .unset, .unset, .unset, .unset, .unset] [])) target → Steps p.tables e below (s₁.setTop (mkF m 14 #[.val (.int p1), .val (.int p2), .val (.int p3), .val (.int p4), .val (.int p5), .val (.int gv), .unset, .unset, .unset, .unset, .unset, .unset, .unset, .unset] [])) target := by
    intro target kk
    by_cases c : (p5 &&& (2 : Int32)) = 0
    · rw [if_pos c] at h_z0; subst h_z0
      show Steps p.tables e below (s₁.setTop (mkF m 14 #[.val (.int p1), .val (.int p2), .val (.int p3), .val (.int p4), .val (.int p5), .val (.int gv), .unset, .unset, .unset, .unset, .unset, .unset, .unset, .unset] [])) _
      refine XS.iload X0.here hx rfl (hb hby at_14) rfl ?_
      show Steps p.tables e below (s₁.setTop (mkF m 16 #[.val (.int p1), .val (.int p2), .val (.int p3), .val (.int p4), .val (.int p5), .val (.int gv), .unset, .unset, .unset, .unset, .unset, .unset, .unset, .unset] [(.int p5)])) _
      refine XS.iconst X0.here hx rfl (hb hby at_16) ?_
      show Steps p.tables e below (s₁.setTop (mkF m 17 #[.val (.int p1), .val (.int p2), .val (.int p3), .val (.int p4), .val (.int p5), .val (.int gv), .unset, .unset, .unset, .unset, .unset, .unset, .unset, .unset] [(.int (2 : Int32)), (.int p5)])) _
      refine XS.iand X0.here hx rfl (hb hby at_17) rfl ?_
      show Steps p.tables e below (s₁.setTop (mkF m 18 #[.val (.int p1), .val (.int p2), .val (.int p3), .val (.int p4), .val (.int p5), .val (.int gv), .unset, .unset, .unset, .unset, .unset, .unset, .unset, .unset] [(.int (p5 &&& (2 : Int32)))])) _
      refine XS.ifYes X0.here hx rfl (pc0 := 18) (pc' := 25) rfl (hb hby at_18) rfl ((if0 _ _).trans (teq c).1) (by decide) (by decide) ?_
      show Steps p.tables e below (s₁.setTop (mkF m 25 #[.val (.int p1), .val (.int p2), .val (.int p3), .val (.int p4), .val (.int p5), .val (.int gv), .unset, .unset, .unset, .unset, .unset, .unset, .unset, .unset] [])) _
      refine XS.iconst X0.here hx rfl (hb hby at_25) ?_
      show Steps p.tables e below (s₁.setTop (mkF m 26 #[.val (.int p1), .val (.int p2), .val (.int p3), .val (.int p4), .val (.int p5), .val (.int gv), .unset, .unset, .unset, .unset, .unset, .unset, .unset, .unset] [(.int (0 : Int32))])) _
      refine XS.istore X0.here hx rfl (hb hby at_26) rfl (l' := #[.val (.int p1), .val (.int p2), .val (.int p3), .val (.int p4), .val (.int p5), .val (.int gv), .val (.int (0 : Int32)), .unset, .unset, .unset, .unset, .unset, .unset, .unset]) rfl ?_
      show Steps p.tables e below (s₁.setTop (mkF m 28 #[.val (.int p1), .val (.int p2), .val (.int p3), .val (.int p4), .val (.int p5), .val (.int gv), .val (.int (0 : Int32)), .unset, .unset, .unset, .unset, .unset, .unset, .unset] [])) _
      exact kk
    · rw [if_neg c] at h_z0; subst h_z0
      show Steps p.tables e below (s₁.setTop (mkF m 14 #[.val (.int p1), .val (.int p2), .val (.int p3), .val (.int p4), .val (.int p5), .val (.int gv), .unset, .unset, .unset, .unset, .unset, .unset, .unset, .unset] [])) _
      refine XS.iload X0.here hx rfl (hb hby at_14) rfl ?_
      show Steps p.tables e below (s₁.setTop (mkF m 16 #[.val (.int p1), .val (.int p2), .val (.int p3), .val (.int p4), .val (.int p5), .val (.int gv), .unset, .unset, .unset, .unset, .unset, .unset, .unset, .unset] [(.int p5)])) _
      refine XS.iconst X0.here hx rfl (hb hby at_16) ?_
      show Steps p.tables e below (s₁.setTop (mkF m 17 #[.val (.int p1), .val (.int p2), .val (.int p3), .val (.int p4), .val (.int p5), .val (.int gv), .unset, .unset, .unset, .unset, .unset, .unset, .unset, .unset] [(.int (2 : Int32)), (.int p5)])) _
      refine XS.iand X0.here hx rfl (hb hby at_17) rfl ?_
      show Steps p.tables e below (s₁.setTop (mkF m 18 #[.val (.int p1), .val (.int p2), .val (.int p3), .val (.int p4), .val (.int p5), .val (.int gv), .unset, .unset, .unset, .unset, .unset, .unset, .unset, .unset] [(.int (p5 &&& (2 : Int32)))])) _
      refine XS.ifNo X0.here hx rfl (hb hby at_18) rfl ((if0 _ _).trans (feq c).1) ?_
      show Steps p.tables e below (s₁.setTop (mkF m 21 #[.val (.int p1), .val (.int p2), .val (.int p3), .val (.int p4), .val (.int p5), .val (.int gv), .unset, .unset, .unset, .unset, .unset, .unset, .unset, .unset] [])) _
      refine XS.iconst X0.here hx rfl (hb hby at_21) ?_
      show Steps p.tables e below (s₁.setTop (mkF m 22 #[.val (.int p1), .val (.int p2), .val (.int p3), .val (.int p4), .val (.int p5), .val (.int gv), .unset, .unset, .unset, .unset, .unset, .unset, .unset, .unset] [(.int (1 : Int32))])) _
      refine XS.goto X0.here hx rfl (pc0 := 22) (pc' := 26) rfl (hb hby at_22) (by decide) (by decide) ?_
      show Steps p.tables e below (s₁.setTop (mkF m 26 #[.val (.int p1), .val (.int p2), .val (.int p3), .val (.int p4), .val (.int p5), .val (.int gv), .unset, .unset, .unset, .unset, .unset, .unset, .unset, .unset] [(.int (1 : Int32))])) _
      refine XS.istore X0.here hx rfl (hb hby at_26) rfl (l' := #[.val (.int p1), .val (.int p2), .val (.int p3), .val (.int p4), .val (.int p5), .val (.int gv), .val (.int (1 : Int32)), .unset, .unset, .unset, .unset, .unset, .unset, .unset]) rfl ?_
      show Steps p.tables e below (s₁.setTop (mkF m 28 #[.val (.int p1), .val (.int p2), .val (.int p3), .val (.int p4), .val (.int p5), .val (.int gv), .val (.int (1 : Int32)), .unset, .unset, .unset, .unset, .unset, .unset, .unset] [])) _
      exact kk
  obtain ⟨z1, h_z1⟩ : ∃ z : Int32, z = (if (p5 &&& (4 : Int32)) = 0 then 0 else 1) := ⟨_, rfl⟩
  have S3 : ∀ target, Steps p.tables e below (s₁.setTop (mkF m 42 #[.val (.int p1), .val (.int p2), .val (.int p3), .val (.int p4), .val (.int p5), .val (.int gv), .val (.int z0), .val (.int z1), .unset, .unset, .unset, .unset, .unset, .unset] [])) target → Steps p.tables e below (s₁.setTop (mkF m 28 #[.val (.int p1), .val (.int p2), .val (.int p3), .val (.int p4), .val (.int p5), .val (.int gv), .val (.int z0), .unset, .unset, .unset, .unset, .unset, .unset, .unset] [])) target := by
    intro target kk
    by_cases c : (p5 &&& (4 : Int32)) = 0
    · rw [if_pos c] at h_z1; subst h_z1
      show Steps p.tables e below (s₁.setTop (mkF m 28 #[.val (.int p1), .val (.int p2), .val (.int p3), .val (.int p4), .val (.int p5), .val (.int gv), .val (.int z0), .unset, .unset, .unset, .unset, .unset, .unset, .unset] [])) _
      refine XS.iload X0.here hx rfl (hb hby at_28) rfl ?_
      show Steps p.tables e below (s₁.setTop (mkF m 30 #[.val (.int p1), .val (.int p2), .val (.int p3), .val (.int p4), .val (.int p5), .val (.int gv), .val (.int z0), .unset, .unset, .unset, .unset, .unset, .unset, .unset] [(.int p5)])) _
      refine XS.iconst X0.here hx rfl (hb hby at_30) ?_
      show Steps p.tables e below (s₁.setTop (mkF m 31 #[.val (.int p1), .val (.int p2), .val (.int p3), .val (.int p4), .val (.int p5), .val (.int gv), .val (.int z0), .unset, .unset, .unset, .unset, .unset, .unset, .unset] [(.int (4 : Int32)), (.int p5)])) _
      refine XS.iand X0.here hx rfl (hb hby at_31) rfl ?_
      show Steps p.tables e below (s₁.setTop (mkF m 32 #[.val (.int p1), .val (.int p2), .val (.int p3), .val (.int p4), .val (.int p5), .val (.int gv), .val (.int z0), .unset, .unset, .unset, .unset, .unset, .unset, .unset] [(.int (p5 &&& (4 : Int32)))])) _
      refine XS.ifYes X0.here hx rfl (pc0 := 32) (pc' := 39) rfl (hb hby at_32) rfl ((if0 _ _).trans (teq c).1) (by decide) (by decide) ?_
      show Steps p.tables e below (s₁.setTop (mkF m 39 #[.val (.int p1), .val (.int p2), .val (.int p3), .val (.int p4), .val (.int p5), .val (.int gv), .val (.int z0), .unset, .unset, .unset, .unset, .unset, .unset, .unset] [])) _
      refine XS.iconst X0.here hx rfl (hb hby at_39) ?_
      show Steps p.tables e below (s₁.setTop (mkF m 40 #[.val (.int p1), .val (.int p2), .val (.int p3), .val (.int p4), .val (.int p5), .val (.int gv), .val (.int z0), .unset, .unset, .unset, .unset, .unset, .unset, .unset] [(.int (0 : Int32))])) _
      refine XS.istore X0.here hx rfl (hb hby at_40) rfl (l' := #[.val (.int p1), .val (.int p2), .val (.int p3), .val (.int p4), .val (.int p5), .val (.int gv), .val (.int z0), .val (.int (0 : Int32)), .unset, .unset, .unset, .unset, .unset, .unset]) rfl ?_
      show Steps p.tables e below (s₁.setTop (mkF m 42 #[.val (.int p1), .val (.int p2), .val (.int p3), .val (.int p4), .val (.int p5), .val (.int gv), .val (.int z0), .val (.int (0 : Int32)), .unset, .unset, .unset, .unset, .unset, .unset] [])) _
      exact kk
    · rw [if_neg c] at h_z1; subst h_z1
      show Steps p.tables e below (s₁.setTop (mkF m 28 #[.val (.int p1), .val (.int p2), .val (.int p3), .val (.int p4), .val (.int p5), .val (.int gv), .val (.int z0), .unset, .unset, .unset, .unset, .unset, .unset, .unset] [])) _
      refine XS.iload X0.here hx rfl (hb hby at_28) rfl ?_
      show Steps p.tables e below (s₁.setTop (mkF m 30 #[.val (.int p1), .val (.int p2), .val (.int p3), .val (.int p4), .val (.int p5), .val (.int gv), .val (.int z0), .unset, .unset, .unset, .unset, .unset, .unset, .unset] [(.int p5)])) _
      refine XS.iconst X0.here hx rfl (hb hby at_30) ?_
      show Steps p.tables e below (s₁.setTop (mkF m 31 #[.val (.int p1), .val (.int p2), .val (.int p3), .val (.int p4), .val (.int p5), .val (.int gv), .val (.int z0), .unset, .unset, .unset, .unset, .unset, .unset, .unset] [(.int (4 : Int32)), (.int p5)])) _
      refine XS.iand X0.here hx rfl (hb hby at_31) rfl ?_
      show Steps p.tables e below (s₁.setTop (mkF m 32 #[.val (.int p1), .val (.int p2), .val (.int p3), .val (.int p4), .val (.int p5), .val (.int gv), .val (.int z0), .unset, .unset, .unset, .unset, .unset, .unset, .unset] [(.int (p5 &&& (4 : Int32)))])) _
      refine XS.ifNo X0.here hx rfl (hb hby at_32) rfl ((if0 _ _).trans (feq c).1) ?_
      show Steps p.tables e below (s₁.setTop (mkF m 35 #[.val (.int p1), .val (.int p2), .val (.int p3), .val (.int p4), .val (.int p5), .val (.int gv), .val (.int z0), .unset, .unset, .unset, .unset, .unset, .unset, .unset] [])) _
      refine XS.iconst X0.here hx rfl (hb hby at_35) ?_
      show Steps p.tables e below (s₁.setTop (mkF m 36 #[.val (.int p1), .val (.int p2), .val (.int p3), .val (.int p4), .val (.int p5), .val (.int gv), .val (.int z0), .unset, .unset, .unset, .unset, .unset, .unset, .unset] [(.int (1 : Int32))])) _
      refine XS.goto X0.here hx rfl (pc0 := 36) (pc' := 40) rfl (hb hby at_36) (by decide) (by decide) ?_
      show Steps p.tables e below (s₁.setTop (mkF m 40 #[.val (.int p1), .val (.int p2), .val (.int p3), .val (.int p4), .val (.int p5), .val (.int gv), .val (.int z0), .unset, .unset, .unset, .unset, .unset, .unset, .unset] [(.int (1 : Int32))])) _
      refine XS.istore X0.here hx rfl (hb hby at_40) rfl (l' := #[.val (.int p1), .val (.int p2), .val (.int p3), .val (.int p4), .val (.int p5), .val (.int gv), .val (.int z0), .val (.int (1 : Int32)), .unset, .unset, .unset, .unset, .unset, .unset]) rfl ?_
      show Steps p.tables e below (s₁.setTop (mkF m 42 #[.val (.int p1), .val (.int p2), .val (.int p3), .val (.int p4), .val (.int p5), .val (.int gv), .val (.int z0), .val (.int (1 : Int32)), .unset, .unset, .unset, .unset, .unset, .unset] [])) _
      exact kk
  obtain ⟨lo0, up0, r0, ex0, hl0, hu0, he0, hm0, hc0⟩ := own_el p1 p2 z0
  obtain ⟨lo1, up1, r1, ex1, hl1, hu1, he1, hm1, hc1⟩ := own_el p3 p4 z1
  by_cases cg : gv = 0
  · obtain ⟨T21, h21, k_aL, X21, e21, E21, A21, st21⟩ := newP X0 hx hZ (hw _ (List.mem_of_getElem? (i := 0) rfl)) e0 (g := (mkF m 43 #[.val (.int p1), .val (.int p2), .val (.int p3), .val (.int p4), .val (.int p5), .val (.int gv), .val (.int z0), .val (.int z1), .unset, .unset, .unset, .unset, .unset, .unset] [(.int (2 : Int32))])) rfl (hb hby at_43) rfl (by decide : ¬ ((2 : Int32) < (0 : Int32))) (cap := 2) (by decide : (2 : Int32).toNatClampNeg ≤ 2) (by decide) (by decide) (by decide)
    obtain ⟨aL, g_aL⟩ : ∃ z, z = h0.size := ⟨_, rfl⟩
    rw [← g_aL] at A21 st21
    have ge_aL : n0 ≤ aL := Nat.le_trans Z0 (Nat.le_of_eq g_aL.symm)
    have Z21 : n0 ≤ h21.size := Nat.le_trans Z0 E21.1
    have P21 : Arv Z h21 aL k_aL .double (2 : Int32) [] (.double 0) := Arv.new A21 (by decide : ¬ ((2 : Int32) < (0 : Int32)))
    have VaL_21 : Arv Z h21 aL k_aL .double (2 : Int32) [(.double 0), (.double 0)] (.double 0) := P21.pad (pad_rep [] (.double 0) 2)
    obtain ⟨_, _, ⟨T22, L22, k22, n22⟩, -, X22, ⟨Lc22, hQ22, l22, y22, z22⟩, st22⟩ := Jvm.LawKit.callS X21 hx (y := (⟨"com/example/umbel/umbel/check/ValueBoundsValuesPinLaw", "lo", "(IZ)D"⟩ : MethodName)) hown (mvT hZ (hw _ (List.mem_of_getElem? (i := 1) rfl))) (mvT hZ (hw _ (List.mem_of_getElem? (i := 2) rfl))) (mvT hZ (hw _ (List.mem_of_getElem? (i := 3) rfl))) (mvT hZ (hw _ (List.mem_of_getElem? (i := 4) rfl))) (by decide) (backOf (W := 3) (rm1 l Z a0 hw [] p1 z0 lo0 h21 n0 Z21 hl0) hZ (hw _ (List.mem_of_getElem? (i := 4) rfl)) (hw _ (List.mem_of_getElem? (i := 3) rfl)) (by decide) (by decide)) (g := (mkF m 50 #[.val (.int p1), .val (.int p2), .val (.int p3), .val (.int p4), .val (.int p5), .val (.int gv), .val (.int z0), .val (.int z1), .unset, .unset, .unset, .unset, .unset, .unset] [(.int z0), (.int p1), (.int (0 : Int32)), (.ref aL), (.ref aL)])) rfl (by rw [hml]; rfl) (argsL := [(.int p1), (.int z0)]) (rest := [(.int (0 : Int32)), (.ref aL), (.ref aL)]) (lenOf pd1 rfl) rfl (by show 2 * 0 + _ ≤ _; exact Nat.le_of_eq rfl) (hb hby at_50) (fun _ _ => ⟨rfl, e21, (by decide : 1 + 0 ≤ _), (by decide : 2 + 0 ≤ _)⟩)
    dsimp only [Pt.U, Pt.locs, Pt.cells, Pt.slots] at X22 l22 y22 z22 st22 hQ22
    subst l22 y22 z22
    obtain ⟨rfl, N22, e22⟩ := hQ22
    have M22 := Fr.app N0 N22
    obtain ⟨c23, A23, q23, S23, M23, H23, U23⟩ := id VaL_21
    obtain ⟨T23, h23, X23, e23, W23, st23⟩ := stD X22 hx hZ e22 A23 (j := (0 : Int32)) (inb_of S23 ⟨(by decide : ¬ ((0 : Int32) < (0 : Int32))), (by decide : (0 : Int32) < (2 : Int32))⟩) (g := (mkF m 53 #[.val (.int p1), .val (.int p2), .val (.int p3), .val (.int p4), .val (.int p5), .val (.int gv), .val (.int z0), .val (.int z1), .unset, .unset, .unset, .unset, .unset, .unset] [(.double lo0), (.int (0 : Int32)), (.ref aL), (.ref aL)])) rfl rfl (hb hby at_53)
    have N23 := Fr.snoc X23 M22 ge_aL
    have VaL_23 : Arv Z h23 aL k_aL .double (2 : Int32) [(.double lo0), (.double 0)] (.double 0) := Arv.set A23 q23 S23 M23 H23 U23 rfl W23 0 rfl (Nat.le_of_ble_eq_true rfl)
    have Z23 : n0 ≤ h23.size := Nat.le_trans Z21 (Keep.of_wr W23).1
    obtain ⟨_, _, ⟨T24, L24, k24, n24⟩, -, X24, ⟨Lc24, hQ24, l24, y24, z24⟩, st24⟩ := Jvm.LawKit.callS X23 hx (y := (⟨"com/example/umbel/umbel/check/ValueBoundsValuesPinLaw", "lo", "(IZ)D"⟩ : MethodName)) hown (mvT hZ (hw _ (List.mem_of_getElem? (i := 1) rfl))) (mvT hZ (hw _ (List.mem_of_getElem? (i := 2) rfl))) (mvT hZ (hw _ (List.mem_of_getElem? (i := 3) rfl))) (mvT hZ (hw _ (List.mem_of_getElem? (i := 4) rfl))) (by decide) (backOf (W := 3) (rm1 l Z a0 hw [] p3 z1 lo1 h23 n0 Z23 hl1) hZ (hw _ (List.mem_of_getElem? (i := 4) rfl)) (hw _ (List.mem_of_getElem? (i := 3) rfl)) (by decide) (by decide)) (g := (mkF m 59 #[.val (.int p1), .val (.int p2), .val (.int p3), .val (.int p4), .val (.int p5), .val (.int gv), .val (.int z0), .val (.int z1), .unset, .unset, .unset, .unset, .unset, .unset] [(.int z1), (.int p3), (.int (1 : Int32)), (.ref aL), (.ref aL)])) rfl (by rw [hml]; rfl) (argsL := [(.int p3), (.int z1)]) (rest := [(.int (1 : Int32)), (.ref aL), (.ref aL)]) (lenOf pd1 rfl) rfl (by show 2 * 0 + _ ≤ _; exact Nat.le_of_eq rfl) (hb hby at_59) (fun _ _ => ⟨rfl, e23, (by decide : 1 + 0 ≤ _), (by decide : 2 + 0 ≤ _)⟩)
    dsimp only [Pt.U, Pt.locs, Pt.cells, Pt.slots] at X24 l24 y24 z24 st24 hQ24
    subst l24 y24 z24
    obtain ⟨rfl, N24, e24⟩ := hQ24
    have M24 := Fr.app N23 N24
    obtain ⟨c25, A25, q25, S25, M25, H25, U25⟩ := id VaL_23
    obtain ⟨T25, h25, X25, e25, W25, st25⟩ := stD X24 hx hZ e24 A25 (j := (1 : Int32)) (inb_of S25 ⟨(by decide : ¬ ((1 : Int32) < (0 : Int32))), (by decide : (1 : Int32) < (2 : Int32))⟩) (g := (mkF m 62 #[.val (.int p1), .val (.int p2), .val (.int p3), .val (.int p4), .val (.int p5), .val (.int gv), .val (.int z0), .val (.int z1), .unset, .unset, .unset, .unset, .unset, .unset] [(.double lo1), (.int (1 : Int32)), (.ref aL), (.ref aL)])) rfl rfl (hb hby at_62)
    have N25 := Fr.snoc X25 M24 ge_aL
    have VaL_25 : Arv Z h25 aL k_aL .double (2 : Int32) [(.double lo0), (.double lo1)] (.double 0) := Arv.set A25 q25 S25 M25 H25 U25 rfl W25 1 rfl (Nat.le_of_ble_eq_true rfl)
    have Z25 : n0 ≤ h25.size := Nat.le_trans Z23 (Keep.of_wr W25).1
    obtain ⟨T26, h26, k_aU, X26, e26, E26, A26, st26⟩ := newP X25 hx hZ (hw _ (List.mem_of_getElem? (i := 0) rfl)) e25 (g := (mkF m 66 #[.val (.int p1), .val (.int p2), .val (.int p3), .val (.int p4), .val (.int p5), .val (.int gv), .val (.int z0), .val (.int z1), .val (.ref aL), .unset, .unset, .unset, .unset, .unset] [(.int (2 : Int32))])) rfl (hb hby at_66) rfl (by decide : ¬ ((2 : Int32) < (0 : Int32))) (cap := 2) (by decide : (2 : Int32).toNatClampNeg ≤ 2) (by decide) (by decide) (by decide)
    obtain ⟨aU, g_aU⟩ : ∃ z, z = h25.size := ⟨_, rfl⟩
    rw [← g_aU] at A26 st26
    have ge_aU : n0 ≤ aU := Nat.le_trans Z25 (Nat.le_of_eq g_aU.symm)
    have ne_aL_aU : aL ≠ aU := Nat.ne_of_lt (Nat.lt_of_lt_of_le VaL_25.lt (Nat.le_of_eq g_aU.symm))
    have VaL_26 : Arv Z h26 aL k_aL .double (2 : Int32) [(.double lo0), (.double lo1)] (.double 0) := VaL_25.ext E26
    have Z26 : n0 ≤ h26.size := Nat.le_trans Z25 E26.1
    have P26 : Arv Z h26 aU k_aU .double (2 : Int32) [] (.double 0) := Arv.new A26 (by decide : ¬ ((2 : Int32) < (0 : Int32)))
    have VaU_26 : Arv Z h26 aU k_aU .double (2 : Int32) [(.double 0), (.double 0)] (.double 0) := P26.pad (pad_rep [] (.double 0) 2)
    obtain ⟨_, _, ⟨T27, L27, k27, n27⟩, -, X27, ⟨Lc27, hQ27, l27, y27, z27⟩, st27⟩ := Jvm.LawKit.callS X26 hx (y := (⟨"com/example/umbel/umbel/check/ValueBoundsValuesPinLaw", "hi", "(IIZ)D"⟩ : MethodName)) hown (mvT hZ (hw _ (List.mem_of_getElem? (i := 5) rfl))) (mvT hZ (hw _ (List.mem_of_getElem? (i := 6) rfl))) (mvT hZ (hw _ (List.mem_of_getElem? (i := 3) rfl))) (mvT hZ (hw _ (List.mem_of_getElem? (i := 7) rfl))) (by decide) (backOf (W := 3) (rm2 l Z a0 hw [] p1 p2 z0 up0 h26 n0 Z26 hu0) hZ (hw _ (List.mem_of_getElem? (i := 7) rfl)) (hw _ (List.mem_of_getElem? (i := 3) rfl)) (by decide) (by decide)) (g := (mkF m 74 #[.val (.int p1), .val (.int p2), .val (.int p3), .val (.int p4), .val (.int p5), .val (.int gv), .val (.int z0), .val (.int z1), .val (.ref aL), .unset, .unset, .unset, .unset, .unset] [(.int z0), (.int p2), (.int p1), (.int (0 : Int32)), (.ref aU), (.ref aU)])) rfl (by rw [hml]; rfl) (argsL := [(.int p1), (.int p2), (.int z0)]) (rest := [(.int (0 : Int32)), (.ref aU), (.ref aU)]) (lenOf pd2 rfl) rfl (by show 2 * 0 + _ ≤ _; exact Nat.le_of_eq rfl) (hb hby at_74) (fun _ _ => ⟨rfl, e26, (by decide : 2 + 0 ≤ _), (by decide : 4 + 0 ≤ _)⟩)
    dsimp only [Pt.U, Pt.locs, Pt.cells, Pt.slots] at X27 l27 y27 z27 st27 hQ27
    subst l27 y27 z27
    obtain ⟨rfl, N27, e27⟩ := hQ27
    have M27 := Fr.app N25 N27
    obtain ⟨c28, A28, q28, S28, M28, H28, U28⟩ := id VaU_26
    obtain ⟨T28, h28, X28, e28, W28, st28⟩ := stD X27 hx hZ e27 A28 (j := (0 : Int32)) (inb_of S28 ⟨(by decide : ¬ ((0 : Int32) < (0 : Int32))), (by decide : (0 : Int32) < (2 : Int32))⟩) (g := (mkF m 77 #[.val (.int p1), .val (.int p2), .val (.int p3), .val (.int p4), .val (.int p5), .val (.int gv), .val (.int z0), .val (.int z1), .val (.ref aL), .unset, .unset, .unset, .unset, .unset] [(.double up0), (.int (0 : Int32)), (.ref aU), (.ref aU)])) rfl rfl (hb hby at_77)
    have N28 := Fr.snoc X28 M27 ge_aU
    have VaL_28 : Arv Z h28 aL k_aL .double (2 : Int32) [(.double lo0), (.double lo1)] (.double 0) := VaL_26.other W28 ne_aL_aU
    have VaU_28 : Arv Z h28 aU k_aU .double (2 : Int32) [(.double up0), (.double 0)] (.double 0) := Arv.set A28 q28 S28 M28 H28 U28 rfl W28 0 rfl (Nat.le_of_ble_eq_true rfl)
    have Z28 : n0 ≤ h28.size := Nat.le_trans Z26 (Keep.of_wr W28).1
    obtain ⟨_, _, ⟨T29, L29, k29, n29⟩, -, X29, ⟨Lc29, hQ29, l29, y29, z29⟩, st29⟩ := Jvm.LawKit.callS X28 hx (y := (⟨"com/example/umbel/umbel/check/ValueBoundsValuesPinLaw", "hi", "(IIZ)D"⟩ : MethodName)) hown (mvT hZ (hw _ (List.mem_of_getElem? (i := 5) rfl))) (mvT hZ (hw _ (List.mem_of_getElem? (i := 6) rfl))) (mvT hZ (hw _ (List.mem_of_getElem? (i := 3) rfl))) (mvT hZ (hw _ (List.mem_of_getElem? (i := 7) rfl))) (by decide) (backOf (W := 3) (rm2 l Z a0 hw [] p3 p4 z1 up1 h28 n0 Z28 hu1) hZ (hw _ (List.mem_of_getElem? (i := 7) rfl)) (hw _ (List.mem_of_getElem? (i := 3) rfl)) (by decide) (by decide)) (g := (mkF m 84 #[.val (.int p1), .val (.int p2), .val (.int p3), .val (.int p4), .val (.int p5), .val (.int gv), .val (.int z0), .val (.int z1), .val (.ref aL), .unset, .unset, .unset, .unset, .unset] [(.int z1), (.int p4), (.int p3), (.int (1 : Int32)), (.ref aU), (.ref aU)])) rfl (by rw [hml]; rfl) (argsL := [(.int p3), (.int p4), (.int z1)]) (rest := [(.int (1 : Int32)), (.ref aU), (.ref aU)]) (lenOf pd2 rfl) rfl (by show 2 * 0 + _ ≤ _; exact Nat.le_of_eq rfl) (hb hby at_84) (fun _ _ => ⟨rfl, e28, (by decide : 2 + 0 ≤ _), (by decide : 4 + 0 ≤ _)⟩)
    dsimp only [Pt.U, Pt.locs, Pt.cells, Pt.slots] at X29 l29 y29 z29 st29 hQ29
    subst l29 y29 z29
    obtain ⟨rfl, N29, e29⟩ := hQ29
    have M29 := Fr.app N28 N29
    obtain ⟨c30, A30, q30, S30, M30, H30, U30⟩ := id VaU_28
    obtain ⟨T30, h30, X30, e30, W30, st30⟩ := stD X29 hx hZ e29 A30 (j := (1 : Int32)) (inb_of S30 ⟨(by decide : ¬ ((1 : Int32) < (0 : Int32))), (by decide : (1 : Int32) < (2 : Int32))⟩) (g := (mkF m 87 #[.val (.int p1), .val (.int p2), .val (.int p3), .val (.int p4), .val (.int p5), .val (.int gv), .val (.int z0), .val (.int z1), .val (.ref aL), .unset, .unset, .unset, .unset, .unset] [(.double up1), (.int (1 : Int32)), (.ref aU), (.ref aU)])) rfl rfl (hb hby at_87)
    have N30 := Fr.snoc X30 M29 ge_aU
    have VaL_30 : Arv Z h30 aL k_aL .double (2 : Int32) [(.double lo0), (.double lo1)] (.double 0) := VaL_28.other W30 ne_aL_aU
    have VaU_30 : Arv Z h30 aU k_aU .double (2 : Int32) [(.double up0), (.double up1)] (.double 0) := Arv.set A30 q30 S30 M30 H30 U30 rfl W30 1 rfl (Nat.le_of_ble_eq_true rfl)
    have Z30 : n0 ≤ h30.size := Nat.le_trans Z28 (Keep.of_wr W30).1
    obtain ⟨T31, h31, X31, e31, E31, A31, D31, -, st31⟩ := newO X30 hx hZ hown (hw _ (List.mem_of_getElem? (i := 8) rfl)) (hw _ (List.mem_of_getElem? (i := 9) rfl)) (hw _ (List.mem_of_getElem? (i := 10) rfl)) e30 (g := (mkF m 159 #[.val (.int p1), .val (.int p2), .val (.int p3), .val (.int p4), .val (.int p5), .val (.int gv), .val (.int z0), .val (.int z1), .val (.ref aL), .val (.ref aU), .unset, .unset, .unset, .unset] [])) rfl (hb hby at_159) (by decide) (by decide)
    obtain ⟨aB, g_aB⟩ : ∃ z, z = h30.size := ⟨_, rfl⟩
    rw [← g_aB] at A31 D31 st31
    have ge_aB : n0 ≤ aB := Nat.le_trans Z30 (Nat.le_of_eq g_aB.symm)
    have ne_aL_aB : aL ≠ aB := Nat.ne_of_lt (Nat.lt_of_lt_of_le VaL_30.lt (Nat.le_of_eq g_aB.symm))
    have ne_aU_aB : aU ≠ aB := Nat.ne_of_lt (Nat.lt_of_lt_of_le VaU_30.lt (Nat.le_of_eq g_aB.symm))
    have VaL_31 : Arv Z h31 aL k_aL .double (2 : Int32) [(.double lo0), (.double lo1)] (.double 0) := VaL_30.ext E31
    have VaU_31 : Arv Z h31 aU k_aU .double (2 : Int32) [(.double up0), (.double up1)] (.double 0) := VaU_30.ext E31
    have Z31 : n0 ≤ h31.size := Nat.le_trans Z30 E31.1
    have FaB_lower_31 : Fld Z h31 aB "com/example/umbel/umbel/check/ValueBounds" "lower" "[D" .null := D31 (Or.inr (hw _ (List.mem_of_getElem? (i := 18) rfl))) (ty := (.array .double)) (by decide)
    have FaB_values_31 : Fld Z h31 aB "com/example/umbel/umbel/check/ValueBounds" "values" "[D" .null := D31 (Or.inr (hw _ (List.mem_of_getElem? (i := 20) rfl))) (ty := (.array .double)) (by decide)
    have FaB_upper_31 : Fld Z h31 aB "com/example/umbel/umbel/check/ValueBounds" "upper" "[D" .null := D31 (Or.inr (hw _ (List.mem_of_getElem? (i := 22) rfl))) (ty := (.array .double)) (by decide)
    obtain ⟨_, _, ⟨T32, L32, k32, n32⟩, -, X32, ⟨Lc32, hQ32, l32, y32, z32⟩, st32⟩ := X31.specialBack hx (y := (⟨"com/example/umbel/umbel/check/ValueBounds", "<init>", "([D[D[D)V"⟩ : MethodName)) rfl hown (mvT hZ (hw _ (List.mem_of_getElem? (i := 11) rfl))) (mvT hZ (hw _ (List.mem_of_getElem? (i := 12) rfl))) (mvT hZ (hw _ (List.mem_of_getElem? (i := 13) rfl))) (by decide) (backOf (W := 1) (rm3n l Z a0 hw [] aB aL aU .null .null .null h31 n0 Z31 A31 FaB_lower_31 ge_aB FaB_values_31 FaB_upper_31) hZ (hw _ (List.mem_of_getElem? (i := 13) rfl)) (hw _ (List.mem_of_getElem? (i := 10) rfl)) (by decide) (by decide)) (g := (mkF m 171 #[.val (.int p1), .val (.int p2), .val (.int p3), .val (.int p4), .val (.int p5), .val (.int gv), .val (.int z0), .val (.int z1), .val (.ref aL), .val (.ref aU), .unset, .unset, .unset, .unset] [(.ref aU), .null, (.ref aL), (.ref aB), (.ref aB)])) rfl (by rw [hml]; rfl) (Steps.refl _) (a := aB) (argsL := [(.ref aL), .null, (.ref aU)]) (rest := [(.ref aB)]) (lenOf pd3 rfl) rfl (by show 2 * 0 + _ ≤ _; exact Nat.le_of_eq rfl) (hb hby at_171) (fun _ _ => ⟨rfl, e31, (by decide : 3 + 0 ≤ _), (by decide : 7 + 0 ≤ _)⟩)
    dsimp only [Pt.U, Pt.locs, Pt.cells, Pt.slots] at X32 l32 y32 z32 st32 hQ32
    subst l32 y32 z32
    obtain ⟨rfl, N32, K32, EE32, FL32, FV32, FU32⟩ := hQ32
    have M32 := Fr.app N30 N32
    have VaL_32 : Arv Z T32.heap aL k_aL .double (2 : Int32) [(.double lo0), (.double lo1)] (.double 0) := VaL_31.keep K32 (ninS ne_aL_aB nin0)
    have VaU_32 : Arv Z T32.heap aU k_aU .double (2 : Int32) [(.double up0), (.double up1)] (.double 0) := VaU_31.keep K32 (ninS ne_aU_aB nin0)
    have Z32 : n0 ≤ T32.heap.size := Nat.le_trans Z31 K32.1
    obtain ⟨cq33, kq33, qa33, qb33, qc33⟩ := isOf hZ rfl EE32
    obtain ⟨_, _, ⟨T33, L33, k33, n33⟩, -, X33, ⟨Lc33, hQ33, l33, y33, z33⟩, st33⟩ := X32.virtualBack hx (y := (⟨"com/example/umbel/umbel/check/ValueBounds", "values", "()[D"⟩ : MethodName)) (z := (⟨"com/example/umbel/umbel/check/ValueBounds", "values", "()[D"⟩ : MethodName)) hown (mvT hZ (hw _ (List.mem_of_getElem? (i := 23) rfl))) (mvT hZ (hw _ (List.mem_of_getElem? (i := 24) rfl))) (notFace_of_selects (args := #[]) (mvT hZ (hw _ (List.mem_of_getElem? (i := 26) rfl)))) (mvT hZ (hw _ (List.mem_of_getElem? (i := 26) rfl))) (mvT hZ (hw _ (List.mem_of_getElem? (i := 25) rfl))) (by decide) (backOf (W := 0) (rm5 l Z a0 hw [] aB aL k_aL aU k_aU lo0 lo1 up0 up1 r0 r1 T32.heap n0 Z32 FV32 FL32 FU32 VaL_32 VaU_32 hm0 hm1) hZ (hw _ (List.mem_of_getElem? (i := 27) rfl)) (hw _ (List.mem_of_getElem? (i := 10) rfl)) (by decide) (by decide)) qa33 qc33 (g := (mkF m 178 #[.val (.int p1), .val (.int p2), .val (.int p3), .val (.int p4), .val (.int p5), .val (.int gv), .val (.int z0), .val (.int z1), .val (.ref aL), .val (.ref aU), .val (.ref aB), .unset, .unset, .unset] [(.ref aB)])) rfl (by rw [hml]; rfl) (Steps.refl _) (argsL := []) (rest := []) (lenOf pd5 rfl) rfl (by show 2 * 0 + _ ≤ _; exact Nat.le_of_eq rfl) (hb hby at_178) (fun _ _ => ⟨rfl, rfl, (by decide : 3 + 1 ≤ _), (by decide : 7 + 2 ≤ _)⟩)
    dsimp only [Pt.U, Pt.locs, Pt.cells, Pt.slots] at X33 l33 y33 z33 st33 hQ33
    subst l33 y33 z33
    obtain ⟨aR, k_aR, rfl, N33, g_aR, K33, VaR_33⟩ := hQ33
    have M33 := Fr.app M32 N33
    have ne_aL_aR : aL ≠ aR := Nat.ne_of_lt (Nat.lt_of_lt_of_le VaL_32.lt (g_aR))
    have ne_aU_aR : aU ≠ aR := Nat.ne_of_lt (Nat.lt_of_lt_of_le VaU_32.lt (g_aR))
    have ne_aB_aR : aB ≠ aR := Nat.ne_of_lt (Nat.lt_of_lt_of_le EE32.lt (g_aR))
    have VaL_33 : Arv Z T33.heap aL k_aL .double (2 : Int32) [(.double lo0), (.double lo1)] (.double 0) := VaL_32.keep K33 nin0
    have VaU_33 : Arv Z T33.heap aU k_aU .double (2 : Int32) [(.double up0), (.double up1)] (.double 0) := VaU_32.keep K33 nin0
    have FaB_lower_33 : Fld Z T33.heap aB "com/example/umbel/umbel/check/ValueBounds" "lower" "[D" (.ref aL) := FL32.keep K33 nin0
    have FaB_values_33 : Fld Z T33.heap aB "com/example/umbel/umbel/check/ValueBounds" "values" "[D" .null := FV32.keep K33 nin0
    have FaB_upper_33 : Fld Z T33.heap aB "com/example/umbel/umbel/check/ValueBounds" "upper" "[D" (.ref aU) := FU32.keep K33 nin0
    have EaB_33 : Exa Z T33.heap aB "com/example/umbel/umbel/check/ValueBounds" := EE32.keep K33
    have Z33 : n0 ≤ T33.heap.size := Nat.le_trans Z32 K33.1
    obtain ⟨cq34, kq34, qa34, qb34, qc34⟩ := isOf hZ rfl EaB_33
    obtain ⟨_, _, ⟨T34, L34, k34, n34⟩, -, X34, ⟨Lc34, hQ34, l34, y34, z34⟩, st34⟩ := X33.virtualBack hx (y := (⟨"com/example/umbel/umbel/check/ValueBounds", "values", "()[D"⟩ : MethodName)) (z := (⟨"com/example/umbel/umbel/check/ValueBounds", "values", "()[D"⟩ : MethodName)) hown (mvT hZ (hw _ (List.mem_of_getElem? (i := 23) rfl))) (mvT hZ (hw _ (List.mem_of_getElem? (i := 24) rfl))) (notFace_of_selects (args := #[]) (mvT hZ (hw _ (List.mem_of_getElem? (i := 26) rfl)))) (mvT hZ (hw _ (List.mem_of_getElem? (i := 26) rfl))) (mvT hZ (hw _ (List.mem_of_getElem? (i := 25) rfl))) (by decide) (backOf (W := 0) (rm5 l Z a0 hw [] aB aL k_aL aU k_aU lo0 lo1 up0 up1 r0 r1 T33.heap n0 Z33 FaB_values_33 FaB_lower_33 FaB_upper_33 VaL_33 VaU_33 hm0 hm1) hZ (hw _ (List.mem_of_getElem? (i := 27) rfl)) (hw _ (List.mem_of_getElem? (i := 10) rfl)) (by decide) (by decide)) qa34 qc34 (g := (mkF m 185 #[.val (.int p1), .val (.int p2), .val (.int p3), .val (.int p4), .val (.int p5), .val (.int gv), .val (.int z0), .val (.int z1), .val (.ref aL), .val (.ref aU), .val (.ref aB), .val (.ref aR), .unset, .unset] [(.ref aB)])) rfl (by rw [hml]; rfl) (Steps.refl _) (argsL := []) (rest := []) (lenOf pd5 rfl) rfl (by show 2 * 0 + _ ≤ _; exact Nat.le_of_eq rfl) (hb hby at_185) (fun _ _ => ⟨rfl, rfl, (by decide : 4 + 1 ≤ _), (by decide : 9 + 2 ≤ _)⟩)
    dsimp only [Pt.U, Pt.locs, Pt.cells, Pt.slots] at X34 l34 y34 z34 st34 hQ34
    subst l34 y34 z34
    obtain ⟨aS, k_aS, rfl, N34, g_aS, K34, VaS_34⟩ := hQ34
    have M34 := Fr.app M33 N34
    have ne_aL_aS : aL ≠ aS := Nat.ne_of_lt (Nat.lt_of_lt_of_le VaL_33.lt (g_aS))
    have ne_aU_aS : aU ≠ aS := Nat.ne_of_lt (Nat.lt_of_lt_of_le VaU_33.lt (g_aS))
    have ne_aR_aS : aR ≠ aS := Nat.ne_of_lt (Nat.lt_of_lt_of_le VaR_33.lt (g_aS))
    have ne_aB_aS : aB ≠ aS := Nat.ne_of_lt (Nat.lt_of_lt_of_le EaB_33.lt (g_aS))
    have VaL_34 : Arv Z T34.heap aL k_aL .double (2 : Int32) [(.double lo0), (.double lo1)] (.double 0) := VaL_33.keep K34 nin0
    have VaU_34 : Arv Z T34.heap aU k_aU .double (2 : Int32) [(.double up0), (.double up1)] (.double 0) := VaU_33.keep K34 nin0
    have VaR_34 : Arv Z T34.heap aR k_aR .double (2 : Int32) [(.double r0), (.double r1)] (.double 0) := VaR_33.keep K34 nin0
    have FaB_lower_34 : Fld Z T34.heap aB "com/example/umbel/umbel/check/ValueBounds" "lower" "[D" (.ref aL) := FaB_lower_33.keep K34 nin0
    have FaB_values_34 : Fld Z T34.heap aB "com/example/umbel/umbel/check/ValueBounds" "values" "[D" .null := FaB_values_33.keep K34 nin0
    have FaB_upper_34 : Fld Z T34.heap aB "com/example/umbel/umbel/check/ValueBounds" "upper" "[D" (.ref aU) := FaB_upper_33.keep K34 nin0
    have EaB_34 : Exa Z T34.heap aB "com/example/umbel/umbel/check/ValueBounds" := EaB_33.keep K34
    have Z34 : n0 ≤ T34.heap.size := Nat.le_trans Z33 K34.1
    obtain ⟨c35, A35, -, S35, M35, -, -⟩ := id VaR_34
    obtain ⟨c36, A36, -, S36, M36, H36, -⟩ := id VaR_34
    have i36 := inb_of (j := (0 : Int32)) S36 ⟨(by decide : ¬ ((0 : Int32) < (0 : Int32))), (by decide : (0 : Int32) < (2 : Int32))⟩
    obtain ⟨_, _, ⟨T37, L37, k37, n37⟩, -, X37, ⟨Lc37, hQ37, l37, y37, z37⟩, st37⟩ := Jvm.LawKit.callS X34 hx (y := (⟨"com/example/umbel/umbel/check/ValueBoundsValuesPinLaw", "expected", "(IIZ)D"⟩ : MethodName)) hown (mvT hZ (hw _ (List.mem_of_getElem? (i := 29) rfl))) (mvT hZ (hw _ (List.mem_of_getElem? (i := 30) rfl))) (mvT hZ (hw _ (List.mem_of_getElem? (i := 3) rfl))) (mvT hZ (hw _ (List.mem_of_getElem? (i := 31) rfl))) (by decide) (backOf (W := 2) (rm6 l Z a0 hw [] p1 p2 z0 ex0 T34.heap n0 Z34 he0) hZ (hw _ (List.mem_of_getElem? (i := 31) rfl)) (hw _ (List.mem_of_getElem? (i := 3) rfl)) (by decide) (by decide)) (g := (mkF m 242 #[.val (.int p1), .val (.int p2), .val (.int p3), .val (.int p4), .val (.int p5), .val (.int gv), .val (.int z0), .val (.int z1), .val (.ref aL), .val (.ref aU), .val (.ref aB), .val (.ref aR), .val (.ref aS), .unset] [(.int z0), (.int p2), (.int p1), (.double r0)])) rfl (by rw [hml]; rfl) (argsL := [(.int p1), (.int p2), (.int z0)]) (rest := [(.double r0)]) (lenOf pd6 rfl) rfl (by show 2 * 0 + _ ≤ _; exact Nat.le_of_eq rfl) (hb hby at_242) (fun _ _ => ⟨rfl, rfl, (by decide : 5 + 0 ≤ _), (by decide : 11 + 0 ≤ _)⟩)
    dsimp only [Pt.U, Pt.locs, Pt.cells, Pt.slots] at X37 l37 y37 z37 st37 hQ37
    subst l37 y37 z37
    obtain ⟨rfl, N37, e37⟩ := hQ37
    have M37 := Fr.app M34 N37
    obtain ⟨c38, A38, -, S38, M38, H38, -⟩ := id VaR_34
    have i38 := inb_of (j := (1 : Int32)) S38 ⟨(by decide : ¬ ((1 : Int32) < (0 : Int32))), (by decide : (1 : Int32) < (2 : Int32))⟩
    obtain ⟨_, _, ⟨T39, L39, k39, n39⟩, -, X39, ⟨Lc39, hQ39, l39, y39, z39⟩, st39⟩ := Jvm.LawKit.callS X37 hx (y := (⟨"com/example/umbel/umbel/check/ValueBoundsValuesPinLaw", "expected", "(IIZ)D"⟩ : MethodName)) hown (mvT hZ (hw _ (List.mem_of_getElem? (i := 29) rfl))) (mvT hZ (hw _ (List.mem_of_getElem? (i := 30) rfl))) (mvT hZ (hw _ (List.mem_of_getElem? (i := 3) rfl))) (mvT hZ (hw _ (List.mem_of_getElem? (i := 31) rfl))) (by decide) (backOf (W := 2) (rm6 l Z a0 hw [] p3 p4 z1 ex1 T34.heap n0 Z34 he1) hZ (hw _ (List.mem_of_getElem? (i := 31) rfl)) (hw _ (List.mem_of_getElem? (i := 3) rfl)) (by decide) (by decide)) (g := (mkF m 257 #[.val (.int p1), .val (.int p2), .val (.int p3), .val (.int p4), .val (.int p5), .val (.int gv), .val (.int z0), .val (.int z1), .val (.ref aL), .val (.ref aU), .val (.ref aB), .val (.ref aR), .val (.ref aS), .unset] [(.int z1), (.int p4), (.int p3), (.double r1)])) rfl (by rw [hml]; rfl) (argsL := [(.int p3), (.int p4), (.int z1)]) (rest := [(.double r1)]) (lenOf pd6 rfl) rfl (by show 2 * 0 + _ ≤ _; exact Nat.le_of_eq rfl) (hb hby at_257) (fun _ _ => ⟨rfl, e37, (by decide : 5 + 0 ≤ _), (by decide : 11 + 0 ≤ _)⟩)
    dsimp only [Pt.U, Pt.locs, Pt.cells, Pt.slots] at X39 l39 y39 z39 st39 hQ39
    subst l39 y39 z39
    obtain ⟨rfl, N39, e39⟩ := hQ39
    have M39 := Fr.app M37 N39
    obtain ⟨fs, hr, hrun, hended, hW, hsame⟩ := X39.leave (v := some (.int (1 : Int32))) (fun h => by rw [Bd.returns] at h; cases h)
    refine ⟨_, _, pre0 _ ?_, hrun, hended, _, _, rfl, ?_, ⟨_, rfl⟩, hW, hsame.mono (by decide) (by decide)⟩
    · refine S1 _ (S2 _ (S3 _ ?_))
      show Steps p.tables e below (s₁.setTop (mkF m 42 #[.val (.int p1), .val (.int p2), .val (.int p3), .val (.int p4), .val (.int p5), .val (.int gv), .val (.int z0), .val (.int z1), .unset, .unset, .unset, .unset, .unset, .unset] [])) _
      refine XS.iconst X0.here hx rfl (hb hby at_42) ?_
      show Steps p.tables e below (s₁.setTop (mkF m 43 #[.val (.int p1), .val (.int p2), .val (.int p3), .val (.int p4), .val (.int p5), .val (.int gv), .val (.int z0), .val (.int z1), .unset, .unset, .unset, .unset, .unset, .unset] [(.int (2 : Int32))])) _
      refine st21 _ ?_
      show Steps p.tables e below (T21.setTop (mkF m 45 #[.val (.int p1), .val (.int p2), .val (.int p3), .val (.int p4), .val (.int p5), .val (.int gv), .val (.int z0), .val (.int z1), .unset, .unset, .unset, .unset, .unset, .unset] [(.ref aL)])) _
      refine XS.dup X21.here hx rfl (hb hby at_45) rfl rfl ?_
      show Steps p.tables e below (T21.setTop (mkF m 46 #[.val (.int p1), .val (.int p2), .val (.int p3), .val (.int p4), .val (.int p5), .val (.int gv), .val (.int z0), .val (.int z1), .unset, .unset, .unset, .unset, .unset, .unset] [(.ref aL), (.ref aL)])) _
      refine XS.iconst X21.here hx rfl (hb hby at_46) ?_
      show Steps p.tables e below (T21.setTop (mkF m 47 #[.val (.int p1), .val (.int p2), .val (.int p3), .val (.int p4), .val (.int p5), .val (.int gv), .val (.int z0), .val (.int z1), .unset, .unset, .unset, .unset, .unset, .unset] [(.int (0 : Int32)), (.ref aL), (.ref aL)])) _
      refine XS.iloadN X21.here hx rfl (hb hby at_47) rfl ?_
      show Steps p.tables e below (T21.setTop (mkF m 48 #[.val (.int p1), .val (.int p2), .val (.int p3), .val (.int p4), .val (.int p5), .val (.int gv), .val (.int z0), .val (.int z1), .unset, .unset, .unset, .unset, .unset, .unset] [(.int p1), (.int (0 : Int32)), (.ref aL), (.ref aL)])) _
      refine XS.iload X21.here hx rfl (hb hby at_48) rfl ?_
      show Steps p.tables e below (T21.setTop (mkF m 50 #[.val (.int p1), .val (.int p2), .val (.int p3), .val (.int p4), .val (.int p5), .val (.int gv), .val (.int z0), .val (.int z1), .unset, .unset, .unset, .unset, .unset, .unset] [(.int z0), (.int p1), (.int (0 : Int32)), (.ref aL), (.ref aL)])) _
      refine st22 _ ?_
      show Steps p.tables e below (T22.setTop (mkF m 53 #[.val (.int p1), .val (.int p2), .val (.int p3), .val (.int p4), .val (.int p5), .val (.int gv), .val (.int z0), .val (.int z1), .unset, .unset, .unset, .unset, .unset, .unset] [(.double lo0), (.int (0 : Int32)), (.ref aL), (.ref aL)])) _
      refine st23 _ ?_
      show Steps p.tables e below (T23.setTop (mkF m 54 #[.val (.int p1), .val (.int p2), .val (.int p3), .val (.int p4), .val (.int p5), .val (.int gv), .val (.int z0), .val (.int z1), .unset, .unset, .unset, .unset, .unset, .unset] [(.ref aL)])) _
      refine XS.dup X23.here hx rfl (hb hby at_54) rfl rfl ?_
      show Steps p.tables e below (T23.setTop (mkF m 55 #[.val (.int p1), .val (.int p2), .val (.int p3), .val (.int p4), .val (.int p5), .val (.int gv), .val (.int z0), .val (.int z1), .unset, .unset, .unset, .unset, .unset, .unset] [(.ref aL), (.ref aL)])) _
      refine XS.iconst X23.here hx rfl (hb hby at_55) ?_
      show Steps p.tables e below (T23.setTop (mkF m 56 #[.val (.int p1), .val (.int p2), .val (.int p3), .val (.int p4), .val (.int p5), .val (.int gv), .val (.int z0), .val (.int z1), .unset, .unset, .unset, .unset, .unset, .unset] [(.int (1 : Int32)), (.ref aL), (.ref aL)])) _
      refine XS.iloadN X23.here hx rfl (hb hby at_56) rfl ?_
      show Steps p.tables e below (T23.setTop (mkF m 57 #[.val (.int p1), .val (.int p2), .val (.int p3), .val (.int p4), .val (.int p5), .val (.int gv), .val (.int z0), .val (.int z1), .unset, .unset, .unset, .unset, .unset, .unset] [(.int p3), (.int (1 : Int32)), (.ref aL), (.ref aL)])) _
      refine XS.iload X23.here hx rfl (hb hby at_57) rfl ?_
      show Steps p.tables e below (T23.setTop (mkF m 59 #[.val (.int p1), .val (.int p2), .val (.int p3), .val (.int p4), .val (.int p5), .val (.int gv), .val (.int z0), .val (.int z1), .unset, .unset, .unset, .unset, .unset, .unset] [(.int z1), (.int p3), (.int (1 : Int32)), (.ref aL), (.ref aL)])) _
      refine st24 _ ?_
      show Steps p.tables e below (T24.setTop (mkF m 62 #[.val (.int p1), .val (.int p2), .val (.int p3), .val (.int p4), .val (.int p5), .val (.int gv), .val (.int z0), .val (.int z1), .unset, .unset, .unset, .unset, .unset, .unset] [(.double lo1), (.int (1 : Int32)), (.ref aL), (.ref aL)])) _
      refine st25 _ ?_
      show Steps p.tables e below (T25.setTop (mkF m 63 #[.val (.int p1), .val (.int p2), .val (.int p3), .val (.int p4), .val (.int p5), .val (.int gv), .val (.int z0), .val (.int z1), .unset, .unset, .unset, .unset, .unset, .unset] [(.ref aL)])) _
      refine XS.astore X25.here hx rfl (hb hby at_63) rfl rfl (l' := #[.val (.int p1), .val (.int p2), .val (.int p3), .val (.int p4), .val (.int p5), .val (.int gv), .val (.int z0), .val (.int z1), .val (.ref aL), .unset, .unset, .unset, .unset, .unset]) rfl ?_
      show Steps p.tables e below (T25.setTop (mkF m 65 #[.val (.int p1), .val (.int p2), .val (.int p3), .val (.int p4), .val (.int p5), .val (.int gv), .val (.int z0), .val (.int z1), .val (.ref aL), .unset, .unset, .unset, .unset, .unset] [])) _
      refine XS.iconst X25.here hx rfl (hb hby at_65) ?_
      show Steps p.tables e below (T25.setTop (mkF m 66 #[.val (.int p1), .val (.int p2), .val (.int p3), .val (.int p4), .val (.int p5), .val (.int gv), .val (.int z0), .val (.int z1), .val (.ref aL), .unset, .unset, .unset, .unset, .unset] [(.int (2 : Int32))])) _
      refine st26 _ ?_
      show Steps p.tables e below (T26.setTop (mkF m 68 #[.val (.int p1), .val (.int p2), .val (.int p3), .val (.int p4), .val (.int p5), .val (.int gv), .val (.int z0), .val (.int z1), .val (.ref aL), .unset, .unset, .unset, .unset, .unset] [(.ref aU)])) _
      refine XS.dup X26.here hx rfl (hb hby at_68) rfl rfl ?_
      show Steps p.tables e below (T26.setTop (mkF m 69 #[.val (.int p1), .val (.int p2), .val (.int p3), .val (.int p4), .val (.int p5), .val (.int gv), .val (.int z0), .val (.int z1), .val (.ref aL), .unset, .unset, .unset, .unset, .unset] [(.ref aU), (.ref aU)])) _
      refine XS.iconst X26.here hx rfl (hb hby at_69) ?_
      show Steps p.tables e below (T26.setTop (mkF m 70 #[.val (.int p1), .val (.int p2), .val (.int p3), .val (.int p4), .val (.int p5), .val (.int gv), .val (.int z0), .val (.int z1), .val (.ref aL), .unset, .unset, .unset, .unset, .unset] [(.int (0 : Int32)), (.ref aU), (.ref aU)])) _
      refine XS.iloadN X26.here hx rfl (hb hby at_70) rfl ?_
      show Steps p.tables e below (T26.setTop (mkF m 71 #[.val (.int p1), .val (.int p2), .val (.int p3), .val (.int p4), .val (.int p5), .val (.int gv), .val (.int z0), .val (.int z1), .val (.ref aL), .unset, .unset, .unset, .unset, .unset] [(.int p1), (.int (0 : Int32)), (.ref aU), (.ref aU)])) _
      refine XS.iloadN X26.here hx rfl (hb hby at_71) rfl ?_
      show Steps p.tables e below (T26.setTop (mkF m 72 #[.val (.int p1), .val (.int p2), .val (.int p3), .val (.int p4), .val (.int p5), .val (.int gv), .val (.int z0), .val (.int z1), .val (.ref aL), .unset, .unset, .unset, .unset, .unset] [(.int p2), (.int p1), (.int (0 : Int32)), (.ref aU), (.ref aU)])) _
      refine XS.iload X26.here hx rfl (hb hby at_72) rfl ?_
      show Steps p.tables e below (T26.setTop (mkF m 74 #[.val (.int p1), .val (.int p2), .val (.int p3), .val (.int p4), .val (.int p5), .val (.int gv), .val (.int z0), .val (.int z1), .val (.ref aL), .unset, .unset, .unset, .unset, .unset] [(.int z0), (.int p2), (.int p1), (.int (0 : Int32)), (.ref aU), (.ref aU)])) _
      refine st27 _ ?_
      show Steps p.tables e below (T27.setTop (mkF m 77 #[.val (.int p1), .val (.int p2), .val (.int p3), .val (.int p4), .val (.int p5), .val (.int gv), .val (.int z0), .val (.int z1), .val (.ref aL), .unset, .unset, .unset, .unset, .unset] [(.double up0), (.int (0 : Int32)), (.ref aU), (.ref aU)])) _
      refine st28 _ ?_
      show Steps p.tables e below (T28.setTop (mkF m 78 #[.val (.int p1), .val (.int p2), .val (.int p3), .val (.int p4), .val (.int p5), .val (.int gv), .val (.int z0), .val (.int z1), .val (.ref aL), .unset, .unset, .unset, .unset, .unset] [(.ref aU)])) _
      refine XS.dup X28.here hx rfl (hb hby at_78) rfl rfl ?_
      show Steps p.tables e below (T28.setTop (mkF m 79 #[.val (.int p1), .val (.int p2), .val (.int p3), .val (.int p4), .val (.int p5), .val (.int gv), .val (.int z0), .val (.int z1), .val (.ref aL), .unset, .unset, .unset, .unset, .unset] [(.ref aU), (.ref aU)])) _
      refine XS.iconst X28.here hx rfl (hb hby at_79) ?_
      show Steps p.tables e below (T28.setTop (mkF m 80 #[.val (.int p1), .val (.int p2), .val (.int p3), .val (.int p4), .val (.int p5), .val (.int gv), .val (.int z0), .val (.int z1), .val (.ref aL), .unset, .unset, .unset, .unset, .unset] [(.int (1 : Int32)), (.ref aU), (.ref aU)])) _
      refine XS.iloadN X28.here hx rfl (hb hby at_80) rfl ?_
      show Steps p.tables e below (T28.setTop (mkF m 81 #[.val (.int p1), .val (.int p2), .val (.int p3), .val (.int p4), .val (.int p5), .val (.int gv), .val (.int z0), .val (.int z1), .val (.ref aL), .unset, .unset, .unset, .unset, .unset] [(.int p3), (.int (1 : Int32)), (.ref aU), (.ref aU)])) _
      refine XS.iloadN X28.here hx rfl (hb hby at_81) rfl ?_
      show Steps p.tables e below (T28.setTop (mkF m 82 #[.val (.int p1), .val (.int p2), .val (.int p3), .val (.int p4), .val (.int p5), .val (.int gv), .val (.int z0), .val (.int z1), .val (.ref aL), .unset, .unset, .unset, .unset, .unset] [(.int p4), (.int p3), (.int (1 : Int32)), (.ref aU), (.ref aU)])) _
      refine XS.iload X28.here hx rfl (hb hby at_82) rfl ?_
      show Steps p.tables e below (T28.setTop (mkF m 84 #[.val (.int p1), .val (.int p2), .val (.int p3), .val (.int p4), .val (.int p5), .val (.int gv), .val (.int z0), .val (.int z1), .val (.ref aL), .unset, .unset, .unset, .unset, .unset] [(.int z1), (.int p4), (.int p3), (.int (1 : Int32)), (.ref aU), (.ref aU)])) _
      refine st29 _ ?_
      show Steps p.tables e below (T29.setTop (mkF m 87 #[.val (.int p1), .val (.int p2), .val (.int p3), .val (.int p4), .val (.int p5), .val (.int gv), .val (.int z0), .val (.int z1), .val (.ref aL), .unset, .unset, .unset, .unset, .unset] [(.double up1), (.int (1 : Int32)), (.ref aU), (.ref aU)])) _
      refine st30 _ ?_
      show Steps p.tables e below (T30.setTop (mkF m 88 #[.val (.int p1), .val (.int p2), .val (.int p3), .val (.int p4), .val (.int p5), .val (.int gv), .val (.int z0), .val (.int z1), .val (.ref aL), .unset, .unset, .unset, .unset, .unset] [(.ref aU)])) _
      refine XS.astore X30.here hx rfl (hb hby at_88) rfl rfl (l' := #[.val (.int p1), .val (.int p2), .val (.int p3), .val (.int p4), .val (.int p5), .val (.int gv), .val (.int z0), .val (.int z1), .val (.ref aL), .val (.ref aU), .unset, .unset, .unset, .unset]) rfl ?_
      show Steps p.tables e below (T30.setTop (mkF m 90 #[.val (.int p1), .val (.int p2), .val (.int p3), .val (.int p4), .val (.int p5), .val (.int gv), .val (.int z0), .val (.int z1), .val (.ref aL), .val (.ref aU), .unset, .unset, .unset, .unset] [])) _
      refine XS.iload X30.here hx rfl (hb hby at_90) rfl ?_
      show Steps p.tables e below (T30.setTop (mkF m 92 #[.val (.int p1), .val (.int p2), .val (.int p3), .val (.int p4), .val (.int p5), .val (.int gv), .val (.int z0), .val (.int z1), .val (.ref aL), .val (.ref aU), .unset, .unset, .unset, .unset] [(.int gv)])) _
      refine XS.ifYes X30.here hx rfl (pc0 := 92) (pc' := 159) rfl (hb hby at_92) rfl ((if0 _ _).trans (teq cg).1) (by decide) (by decide) ?_
      show Steps p.tables e below (T30.setTop (mkF m 159 #[.val (.int p1), .val (.int p2), .val (.int p3), .val (.int p4), .val (.int p5), .val (.int gv), .val (.int z0), .val (.int z1), .val (.ref aL), .val (.ref aU), .unset, .unset, .unset, .unset] [])) _
      refine st31 _ ?_
      show Steps p.tables e below (T31.setTop (mkF m 162 #[.val (.int p1), .val (.int p2), .val (.int p3), .val (.int p4), .val (.int p5), .val (.int gv), .val (.int z0), .val (.int z1), .val (.ref aL), .val (.ref aU), .unset, .unset, .unset, .unset] [(.ref aB)])) _
      refine XS.dup X31.here hx rfl (hb hby at_162) rfl rfl ?_
      show Steps p.tables e below (T31.setTop (mkF m 163 #[.val (.int p1), .val (.int p2), .val (.int p3), .val (.int p4), .val (.int p5), .val (.int gv), .val (.int z0), .val (.int z1), .val (.ref aL), .val (.ref aU), .unset, .unset, .unset, .unset] [(.ref aB), (.ref aB)])) _
      refine XS.aload X31.here hx rfl (hb hby at_163) rfl rfl ?_
      show Steps p.tables e below (T31.setTop (mkF m 165 #[.val (.int p1), .val (.int p2), .val (.int p3), .val (.int p4), .val (.int p5), .val (.int gv), .val (.int z0), .val (.int z1), .val (.ref aL), .val (.ref aU), .unset, .unset, .unset, .unset] [(.ref aL), (.ref aB), (.ref aB)])) _
      refine XS.aconstNull X31.here hx rfl (hb hby at_165) ?_
      show Steps p.tables e below (T31.setTop (mkF m 166 #[.val (.int p1), .val (.int p2), .val (.int p3), .val (.int p4), .val (.int p5), .val (.int gv), .val (.int z0), .val (.int z1), .val (.ref aL), .val (.ref aU), .unset, .unset, .unset, .unset] [.null, (.ref aL), (.ref aB), (.ref aB)])) _
      refine X31.checkcastNull hx (g := (mkF m 166 #[.val (.int p1), .val (.int p2), .val (.int p3), .val (.int p4), .val (.int p5), .val (.int gv), .val (.int z0), .val (.int z1), .val (.ref aL), .val (.ref aU), .unset, .unset, .unset, .unset] [.null, (.ref aL), (.ref aB), (.ref aB)])) rfl rfl (hb hby at_166) _ ?_
      show Steps p.tables e below (T31.setTop (mkF m 169 #[.val (.int p1), .val (.int p2), .val (.int p3), .val (.int p4), .val (.int p5), .val (.int gv), .val (.int z0), .val (.int z1), .val (.ref aL), .val (.ref aU), .unset, .unset, .unset, .unset] [.null, (.ref aL), (.ref aB), (.ref aB)])) _
      refine XS.aload X31.here hx rfl (hb hby at_169) rfl rfl ?_
      show Steps p.tables e below (T31.setTop (mkF m 171 #[.val (.int p1), .val (.int p2), .val (.int p3), .val (.int p4), .val (.int p5), .val (.int gv), .val (.int z0), .val (.int z1), .val (.ref aL), .val (.ref aU), .unset, .unset, .unset, .unset] [(.ref aU), .null, (.ref aL), (.ref aB), (.ref aB)])) _
      refine st32.trans ?_
      show Steps p.tables e below (T32.setTop (mkF m 174 #[.val (.int p1), .val (.int p2), .val (.int p3), .val (.int p4), .val (.int p5), .val (.int gv), .val (.int z0), .val (.int z1), .val (.ref aL), .val (.ref aU), .unset, .unset, .unset, .unset] [(.ref aB)])) _
      refine XS.astore X32.here hx rfl (hb hby at_174) rfl rfl (l' := #[.val (.int p1), .val (.int p2), .val (.int p3), .val (.int p4), .val (.int p5), .val (.int gv), .val (.int z0), .val (.int z1), .val (.ref aL), .val (.ref aU), .val (.ref aB), .unset, .unset, .unset]) rfl ?_
      show Steps p.tables e below (T32.setTop (mkF m 176 #[.val (.int p1), .val (.int p2), .val (.int p3), .val (.int p4), .val (.int p5), .val (.int gv), .val (.int z0), .val (.int z1), .val (.ref aL), .val (.ref aU), .val (.ref aB), .unset, .unset, .unset] [])) _
      refine XS.aload X32.here hx rfl (hb hby at_176) rfl rfl ?_
      show Steps p.tables e below (T32.setTop (mkF m 178 #[.val (.int p1), .val (.int p2), .val (.int p3), .val (.int p4), .val (.int p5), .val (.int gv), .val (.int z0), .val (.int z1), .val (.ref aL), .val (.ref aU), .val (.ref aB), .unset, .unset, .unset] [(.ref aB)])) _
      refine st33.trans ?_
      show Steps p.tables e below (T33.setTop (mkF m 181 #[.val (.int p1), .val (.int p2), .val (.int p3), .val (.int p4), .val (.int p5), .val (.int gv), .val (.int z0), .val (.int z1), .val (.ref aL), .val (.ref aU), .val (.ref aB), .unset, .unset, .unset] [(.ref aR)])) _
      refine XS.astore X33.here hx rfl (hb hby at_181) rfl rfl (l' := #[.val (.int p1), .val (.int p2), .val (.int p3), .val (.int p4), .val (.int p5), .val (.int gv), .val (.int z0), .val (.int z1), .val (.ref aL), .val (.ref aU), .val (.ref aB), .val (.ref aR), .unset, .unset]) rfl ?_
      show Steps p.tables e below (T33.setTop (mkF m 183 #[.val (.int p1), .val (.int p2), .val (.int p3), .val (.int p4), .val (.int p5), .val (.int gv), .val (.int z0), .val (.int z1), .val (.ref aL), .val (.ref aU), .val (.ref aB), .val (.ref aR), .unset, .unset] [])) _
      refine XS.aload X33.here hx rfl (hb hby at_183) rfl rfl ?_
      show Steps p.tables e below (T33.setTop (mkF m 185 #[.val (.int p1), .val (.int p2), .val (.int p3), .val (.int p4), .val (.int p5), .val (.int gv), .val (.int z0), .val (.int z1), .val (.ref aL), .val (.ref aU), .val (.ref aB), .val (.ref aR), .unset, .unset] [(.ref aB)])) _
      refine st34.trans ?_
      show Steps p.tables e below (T34.setTop (mkF m 188 #[.val (.int p1), .val (.int p2), .val (.int p3), .val (.int p4), .val (.int p5), .val (.int gv), .val (.int z0), .val (.int z1), .val (.ref aL), .val (.ref aU), .val (.ref aB), .val (.ref aR), .unset, .unset] [(.ref aS)])) _
      refine XS.astore X34.here hx rfl (hb hby at_188) rfl rfl (l' := #[.val (.int p1), .val (.int p2), .val (.int p3), .val (.int p4), .val (.int p5), .val (.int gv), .val (.int z0), .val (.int z1), .val (.ref aL), .val (.ref aU), .val (.ref aB), .val (.ref aR), .val (.ref aS), .unset]) rfl ?_
      show Steps p.tables e below (T34.setTop (mkF m 190 #[.val (.int p1), .val (.int p2), .val (.int p3), .val (.int p4), .val (.int p5), .val (.int gv), .val (.int z0), .val (.int z1), .val (.ref aL), .val (.ref aU), .val (.ref aB), .val (.ref aR), .val (.ref aS), .unset] [])) _
      refine XS.aload X34.here hx rfl (hb hby at_190) rfl rfl ?_
      show Steps p.tables e below (T34.setTop (mkF m 192 #[.val (.int p1), .val (.int p2), .val (.int p3), .val (.int p4), .val (.int p5), .val (.int gv), .val (.int z0), .val (.int z1), .val (.ref aL), .val (.ref aU), .val (.ref aB), .val (.ref aR), .val (.ref aS), .unset] [(.ref aR)])) _
      refine XS.ifnullNo X34.here hx rfl (hb hby at_192) rfl ?_
      show Steps p.tables e below (T34.setTop (mkF m 195 #[.val (.int p1), .val (.int p2), .val (.int p3), .val (.int p4), .val (.int p5), .val (.int gv), .val (.int z0), .val (.int z1), .val (.ref aL), .val (.ref aU), .val (.ref aB), .val (.ref aR), .val (.ref aS), .unset] [])) _
      refine XS.aload X34.here hx rfl (hb hby at_195) rfl rfl ?_
      show Steps p.tables e below (T34.setTop (mkF m 197 #[.val (.int p1), .val (.int p2), .val (.int p3), .val (.int p4), .val (.int p5), .val (.int gv), .val (.int z0), .val (.int z1), .val (.ref aL), .val (.ref aU), .val (.ref aB), .val (.ref aR), .val (.ref aS), .unset] [(.ref aS)])) _
      refine XT.ifnonnullYes X34.here hx rfl (pc0 := 197) (pc' := 202) rfl (hb hby at_197) rfl (by decide) (by decide) ?_
      show Steps p.tables e below (T34.setTop (mkF m 202 #[.val (.int p1), .val (.int p2), .val (.int p3), .val (.int p4), .val (.int p5), .val (.int gv), .val (.int z0), .val (.int z1), .val (.ref aL), .val (.ref aU), .val (.ref aB), .val (.ref aR), .val (.ref aS), .unset] [])) _
      refine XS.aload X34.here hx rfl (hb hby at_202) rfl rfl ?_
      show Steps p.tables e below (T34.setTop (mkF m 204 #[.val (.int p1), .val (.int p2), .val (.int p3), .val (.int p4), .val (.int p5), .val (.int gv), .val (.int z0), .val (.int z1), .val (.ref aL), .val (.ref aU), .val (.ref aB), .val (.ref aR), .val (.ref aS), .unset] [(.ref aR)])) _
      refine XS.aload X34.here hx rfl (hb hby at_204) rfl rfl ?_
      show Steps p.tables e below (T34.setTop (mkF m 206 #[.val (.int p1), .val (.int p2), .val (.int p3), .val (.int p4), .val (.int p5), .val (.int gv), .val (.int z0), .val (.int z1), .val (.ref aL), .val (.ref aU), .val (.ref aB), .val (.ref aR), .val (.ref aS), .unset] [(.ref aL), (.ref aR)])) _
      refine XT.acmpNo X34.here hx rfl (hb hby at_206) rfl rfl rfl (decide_eq_false (fun q => ne_aL_aR.symm (Value.ref.inj q))) ?_
      show Steps p.tables e below (T34.setTop (mkF m 209 #[.val (.int p1), .val (.int p2), .val (.int p3), .val (.int p4), .val (.int p5), .val (.int gv), .val (.int z0), .val (.int z1), .val (.ref aL), .val (.ref aU), .val (.ref aB), .val (.ref aR), .val (.ref aS), .unset] [])) _
      refine XS.aload X34.here hx rfl (hb hby at_209) rfl rfl ?_
      show Steps p.tables e below (T34.setTop (mkF m 211 #[.val (.int p1), .val (.int p2), .val (.int p3), .val (.int p4), .val (.int p5), .val (.int gv), .val (.int z0), .val (.int z1), .val (.ref aL), .val (.ref aU), .val (.ref aB), .val (.ref aR), .val (.ref aS), .unset] [(.ref aR)])) _
      refine XS.aload X34.here hx rfl (hb hby at_211) rfl rfl ?_
      show Steps p.tables e below (T34.setTop (mkF m 213 #[.val (.int p1), .val (.int p2), .val (.int p3), .val (.int p4), .val (.int p5), .val (.int gv), .val (.int z0), .val (.int z1), .val (.ref aL), .val (.ref aU), .val (.ref aB), .val (.ref aR), .val (.ref aS), .unset] [(.ref aU), (.ref aR)])) _
      refine XT.acmpNo X34.here hx rfl (hb hby at_213) rfl rfl rfl (decide_eq_false (fun q => ne_aU_aR.symm (Value.ref.inj q))) ?_
      show Steps p.tables e below (T34.setTop (mkF m 216 #[.val (.int p1), .val (.int p2), .val (.int p3), .val (.int p4), .val (.int p5), .val (.int gv), .val (.int z0), .val (.int z1), .val (.ref aL), .val (.ref aU), .val (.ref aB), .val (.ref aR), .val (.ref aS), .unset] [])) _
      refine XS.aload X34.here hx rfl (hb hby at_216) rfl rfl ?_
      show Steps p.tables e below (T34.setTop (mkF m 218 #[.val (.int p1), .val (.int p2), .val (.int p3), .val (.int p4), .val (.int p5), .val (.int gv), .val (.int z0), .val (.int z1), .val (.ref aL), .val (.ref aU), .val (.ref aB), .val (.ref aR), .val (.ref aS), .unset] [(.ref aR)])) _
      refine XS.aload X34.here hx rfl (hb hby at_218) rfl rfl ?_
      show Steps p.tables e below (T34.setTop (mkF m 220 #[.val (.int p1), .val (.int p2), .val (.int p3), .val (.int p4), .val (.int p5), .val (.int gv), .val (.int z0), .val (.int z1), .val (.ref aL), .val (.ref aU), .val (.ref aB), .val (.ref aR), .val (.ref aS), .unset] [(.ref aS), (.ref aR)])) _
      refine XT.acmpYes X34.here hx rfl (pc0 := 220) (pc' := 225) rfl (hb hby at_220) rfl rfl rfl (decide_eq_true (fun q => ne_aR_aS (Value.ref.inj q))) (by decide) (by decide) ?_
      show Steps p.tables e below (T34.setTop (mkF m 225 #[.val (.int p1), .val (.int p2), .val (.int p3), .val (.int p4), .val (.int p5), .val (.int gv), .val (.int z0), .val (.int z1), .val (.ref aL), .val (.ref aU), .val (.ref aB), .val (.ref aR), .val (.ref aS), .unset] [])) _
      refine XS.aload X34.here hx rfl (hb hby at_225) rfl rfl ?_
      show Steps p.tables e below (T34.setTop (mkF m 227 #[.val (.int p1), .val (.int p2), .val (.int p3), .val (.int p4), .val (.int p5), .val (.int gv), .val (.int z0), .val (.int z1), .val (.ref aL), .val (.ref aU), .val (.ref aB), .val (.ref aR), .val (.ref aS), .unset] [(.ref aR)])) _
      refine X34.arraylength hx A35.1 (State.isArrayOf_alike hZ.alike A35.2.1) (g := (mkF m 227 #[.val (.int p1), .val (.int p2), .val (.int p3), .val (.int p4), .val (.int p5), .val (.int gv), .val (.int z0), .val (.int z1), .val (.ref aL), .val (.ref aU), .val (.ref aB), .val (.ref aR), .val (.ref aS), .unset] [(.ref aR)])) rfl rfl (hb hby at_227) _ ?_
      rw [len_of S35 M35]
      show Steps p.tables e below (T34.setTop (mkF m 228 #[.val (.int p1), .val (.int p2), .val (.int p3), .val (.int p4), .val (.int p5), .val (.int gv), .val (.int z0), .val (.int z1), .val (.ref aL), .val (.ref aU), .val (.ref aB), .val (.ref aR), .val (.ref aS), .unset] [(.int (2 : Int32))])) _
      refine XS.iconst X34.here hx rfl (hb hby at_228) ?_
      show Steps p.tables e below (T34.setTop (mkF m 229 #[.val (.int p1), .val (.int p2), .val (.int p3), .val (.int p4), .val (.int p5), .val (.int gv), .val (.int z0), .val (.int z1), .val (.ref aL), .val (.ref aU), .val (.ref aB), .val (.ref aR), .val (.ref aS), .unset] [(.int (2 : Int32)), (.int (2 : Int32))])) _
      refine XS.icmpYes X34.here hx rfl (pc0 := 229) (pc' := 234) rfl (hb hby at_229) rfl (by decide) (by decide) (by decide) ?_
      show Steps p.tables e below (T34.setTop (mkF m 234 #[.val (.int p1), .val (.int p2), .val (.int p3), .val (.int p4), .val (.int p5), .val (.int gv), .val (.int z0), .val (.int z1), .val (.ref aL), .val (.ref aU), .val (.ref aB), .val (.ref aR), .val (.ref aS), .unset] [])) _
      refine XS.aload X34.here hx rfl (hb hby at_234) rfl rfl ?_
      show Steps p.tables e below (T34.setTop (mkF m 236 #[.val (.int p1), .val (.int p2), .val (.int p3), .val (.int p4), .val (.int p5), .val (.int gv), .val (.int z0), .val (.int z1), .val (.ref aL), .val (.ref aU), .val (.ref aB), .val (.ref aR), .val (.ref aS), .unset] [(.ref aR)])) _
      refine XS.iconst X34.here hx rfl (hb hby at_236) ?_
      show Steps p.tables e below (T34.setTop (mkF m 237 #[.val (.int p1), .val (.int p2), .val (.int p3), .val (.int p4), .val (.int p5), .val (.int gv), .val (.int z0), .val (.int z1), .val (.ref aL), .val (.ref aU), .val (.ref aB), .val (.ref aR), .val (.ref aS), .unset] [(.int (0 : Int32)), (.ref aR)])) _
      refine X34.daload hx (j := (0 : Int32)) (v := (.double r0)) A36.1 (State.isArrayOf_alike hZ.alike A36.2.1) A36.2.2 i36 (H36.at i36 rfl) (g := (mkF m 237 #[.val (.int p1), .val (.int p2), .val (.int p3), .val (.int p4), .val (.int p5), .val (.int gv), .val (.int z0), .val (.int z1), .val (.ref aL), .val (.ref aU), .val (.ref aB), .val (.ref aR), .val (.ref aS), .unset] [(.int (0 : Int32)), (.ref aR)])) rfl rfl (hb hby at_237) _ ?_
      show Steps p.tables e below (T34.setTop (mkF m 238 #[.val (.int p1), .val (.int p2), .val (.int p3), .val (.int p4), .val (.int p5), .val (.int gv), .val (.int z0), .val (.int z1), .val (.ref aL), .val (.ref aU), .val (.ref aB), .val (.ref aR), .val (.ref aS), .unset] [(.double r0)])) _
      refine XS.iloadN X34.here hx rfl (hb hby at_238) rfl ?_
      show Steps p.tables e below (T34.setTop (mkF m 239 #[.val (.int p1), .val (.int p2), .val (.int p3), .val (.int p4), .val (.int p5), .val (.int gv), .val (.int z0), .val (.int z1), .val (.ref aL), .val (.ref aU), .val (.ref aB), .val (.ref aR), .val (.ref aS), .unset] [(.int p1), (.double r0)])) _
      refine XS.iloadN X34.here hx rfl (hb hby at_239) rfl ?_
      show Steps p.tables e below (T34.setTop (mkF m 240 #[.val (.int p1), .val (.int p2), .val (.int p3), .val (.int p4), .val (.int p5), .val (.int gv), .val (.int z0), .val (.int z1), .val (.ref aL), .val (.ref aU), .val (.ref aB), .val (.ref aR), .val (.ref aS), .unset] [(.int p2), (.int p1), (.double r0)])) _
      refine XS.iload X34.here hx rfl (hb hby at_240) rfl ?_
      show Steps p.tables e below (T34.setTop (mkF m 242 #[.val (.int p1), .val (.int p2), .val (.int p3), .val (.int p4), .val (.int p5), .val (.int gv), .val (.int z0), .val (.int z1), .val (.ref aL), .val (.ref aU), .val (.ref aB), .val (.ref aR), .val (.ref aS), .unset] [(.int z0), (.int p2), (.int p1), (.double r0)])) _
      refine st37 _ ?_
      show Steps p.tables e below (T37.setTop (mkF m 245 #[.val (.int p1), .val (.int p2), .val (.int p3), .val (.int p4), .val (.int p5), .val (.int gv), .val (.int z0), .val (.int z1), .val (.ref aL), .val (.ref aU), .val (.ref aB), .val (.ref aR), .val (.ref aS), .unset] [(.double ex0), (.double r0)])) _
      refine XS.dcmpS X37.here hx rfl (hb hby at_245) rfl hc0 ?_
      show Steps p.tables e below (T37.setTop (mkF m 246 #[.val (.int p1), .val (.int p2), .val (.int p3), .val (.int p4), .val (.int p5), .val (.int gv), .val (.int z0), .val (.int z1), .val (.ref aL), .val (.ref aU), .val (.ref aB), .val (.ref aR), .val (.ref aS), .unset] [(.int (0 : Int32))])) _
      refine XS.ifNo X37.here hx rfl (hb hby at_246) rfl (by decide) ?_
      show Steps p.tables e below (T37.setTop (mkF m 249 #[.val (.int p1), .val (.int p2), .val (.int p3), .val (.int p4), .val (.int p5), .val (.int gv), .val (.int z0), .val (.int z1), .val (.ref aL), .val (.ref aU), .val (.ref aB), .val (.ref aR), .val (.ref aS), .unset] [])) _
      refine XS.aload X37.here hx rfl (hb hby at_249) rfl rfl ?_
      show Steps p.tables e below (T37.setTop (mkF m 251 #[.val (.int p1), .val (.int p2), .val (.int p3), .val (.int p4), .val (.int p5), .val (.int gv), .val (.int z0), .val (.int z1), .val (.ref aL), .val (.ref aU), .val (.ref aB), .val (.ref aR), .val (.ref aS), .unset] [(.ref aR)])) _
      refine XS.iconst X37.here hx rfl (hb hby at_251) ?_
      show Steps p.tables e below (T37.setTop (mkF m 252 #[.val (.int p1), .val (.int p2), .val (.int p3), .val (.int p4), .val (.int p5), .val (.int gv), .val (.int z0), .val (.int z1), .val (.ref aL), .val (.ref aU), .val (.ref aB), .val (.ref aR), .val (.ref aS), .unset] [(.int (1 : Int32)), (.ref aR)])) _
      refine X37.daload hx (j := (1 : Int32)) (v := (.double r1)) (by rw [e37]; exact A38.1) (State.isArrayOf_alike hZ.alike A38.2.1) A38.2.2 i38 (H38.at i38 rfl) (g := (mkF m 252 #[.val (.int p1), .val (.int p2), .val (.int p3), .val (.int p4), .val (.int p5), .val (.int gv), .val (.int z0), .val (.int z1), .val (.ref aL), .val (.ref aU), .val (.ref aB), .val (.ref aR), .val (.ref aS), .unset] [(.int (1 : Int32)), (.ref aR)])) rfl rfl (hb hby at_252) _ ?_
      show Steps p.tables e below (T37.setTop (mkF m 253 #[.val (.int p1), .val (.int p2), .val (.int p3), .val (.int p4), .val (.int p5), .val (.int gv), .val (.int z0), .val (.int z1), .val (.ref aL), .val (.ref aU), .val (.ref aB), .val (.ref aR), .val (.ref aS), .unset] [(.double r1)])) _
      refine XS.iloadN X37.here hx rfl (hb hby at_253) rfl ?_
      show Steps p.tables e below (T37.setTop (mkF m 254 #[.val (.int p1), .val (.int p2), .val (.int p3), .val (.int p4), .val (.int p5), .val (.int gv), .val (.int z0), .val (.int z1), .val (.ref aL), .val (.ref aU), .val (.ref aB), .val (.ref aR), .val (.ref aS), .unset] [(.int p3), (.double r1)])) _
      refine XS.iloadN X37.here hx rfl (hb hby at_254) rfl ?_
      show Steps p.tables e below (T37.setTop (mkF m 255 #[.val (.int p1), .val (.int p2), .val (.int p3), .val (.int p4), .val (.int p5), .val (.int gv), .val (.int z0), .val (.int z1), .val (.ref aL), .val (.ref aU), .val (.ref aB), .val (.ref aR), .val (.ref aS), .unset] [(.int p4), (.int p3), (.double r1)])) _
      refine XS.iload X37.here hx rfl (hb hby at_255) rfl ?_
      show Steps p.tables e below (T37.setTop (mkF m 257 #[.val (.int p1), .val (.int p2), .val (.int p3), .val (.int p4), .val (.int p5), .val (.int gv), .val (.int z0), .val (.int z1), .val (.ref aL), .val (.ref aU), .val (.ref aB), .val (.ref aR), .val (.ref aS), .unset] [(.int z1), (.int p4), (.int p3), (.double r1)])) _
      refine st39 _ ?_
      show Steps p.tables e below (T39.setTop (mkF m 260 #[.val (.int p1), .val (.int p2), .val (.int p3), .val (.int p4), .val (.int p5), .val (.int gv), .val (.int z0), .val (.int z1), .val (.ref aL), .val (.ref aU), .val (.ref aB), .val (.ref aR), .val (.ref aS), .unset] [(.double ex1), (.double r1)])) _
      refine XS.dcmpS X39.here hx rfl (hb hby at_260) rfl hc1 ?_
      show Steps p.tables e below (T39.setTop (mkF m 261 #[.val (.int p1), .val (.int p2), .val (.int p3), .val (.int p4), .val (.int p5), .val (.int gv), .val (.int z0), .val (.int z1), .val (.ref aL), .val (.ref aU), .val (.ref aB), .val (.ref aR), .val (.ref aS), .unset] [(.int (0 : Int32))])) _
      refine XS.ifNo X39.here hx rfl (hb hby at_261) rfl (by decide) ?_
      show Steps p.tables e below (T39.setTop (mkF m 264 #[.val (.int p1), .val (.int p2), .val (.int p3), .val (.int p4), .val (.int p5), .val (.int gv), .val (.int z0), .val (.int z1), .val (.ref aL), .val (.ref aU), .val (.ref aB), .val (.ref aR), .val (.ref aS), .unset] [])) _
      refine XS.iconst X39.here hx rfl (hb hby at_264) ?_
      show Steps p.tables e below (T39.setTop (mkF m 265 #[.val (.int p1), .val (.int p2), .val (.int p3), .val (.int p4), .val (.int p5), .val (.int gv), .val (.int z0), .val (.int z1), .val (.ref aL), .val (.ref aU), .val (.ref aB), .val (.ref aR), .val (.ref aS), .unset] [(.int (1 : Int32))])) _
      refine XS.goto X39.here hx rfl (pc0 := 265) (pc' := 269) rfl (hb hby at_265) (by decide) (by decide) ?_
      show Steps p.tables e below (T39.setTop (mkF m 269 #[.val (.int p1), .val (.int p2), .val (.int p3), .val (.int p4), .val (.int p5), .val (.int gv), .val (.int z0), .val (.int z1), .val (.ref aL), .val (.ref aU), .val (.ref aB), .val (.ref aR), .val (.ref aS), .unset] [(.int (1 : Int32))])) _
      exact retN X39 hx (t := .boolean) Bd.returns (by simp) (hb hby at_269) hr
    · show Q0 Z p1 p2 p3 p4 p5 h0 n0 _ T39.heap _
      exact ⟨rfl, M39⟩
  · obtain ⟨T21, h21, k_aL, X21, e21, E21, A21, st21⟩ := newP X0 hx hZ (hw _ (List.mem_of_getElem? (i := 0) rfl)) e0 (g := (mkF m 43 #[.val (.int p1), .val (.int p2), .val (.int p3), .val (.int p4), .val (.int p5), .val (.int gv), .val (.int z0), .val (.int z1), .unset, .unset, .unset, .unset, .unset, .unset] [(.int (2 : Int32))])) rfl (hb hby at_43) rfl (by decide : ¬ ((2 : Int32) < (0 : Int32))) (cap := 2) (by decide : (2 : Int32).toNatClampNeg ≤ 2) (by decide) (by decide) (by decide)
    obtain ⟨aL, g_aL⟩ : ∃ z, z = h0.size := ⟨_, rfl⟩
    rw [← g_aL] at A21 st21
    have ge_aL : n0 ≤ aL := Nat.le_trans Z0 (Nat.le_of_eq g_aL.symm)
    have Z21 : n0 ≤ h21.size := Nat.le_trans Z0 E21.1
    have P21 : Arv Z h21 aL k_aL .double (2 : Int32) [] (.double 0) := Arv.new A21 (by decide : ¬ ((2 : Int32) < (0 : Int32)))
    have VaL_21 : Arv Z h21 aL k_aL .double (2 : Int32) [(.double 0), (.double 0)] (.double 0) := P21.pad (pad_rep [] (.double 0) 2)
    obtain ⟨_, _, ⟨T22, L22, k22, n22⟩, -, X22, ⟨Lc22, hQ22, l22, y22, z22⟩, st22⟩ := Jvm.LawKit.callS X21 hx (y := (⟨"com/example/umbel/umbel/check/ValueBoundsValuesPinLaw", "lo", "(IZ)D"⟩ : MethodName)) hown (mvT hZ (hw _ (List.mem_of_getElem? (i := 1) rfl))) (mvT hZ (hw _ (List.mem_of_getElem? (i := 2) rfl))) (mvT hZ (hw _ (List.mem_of_getElem? (i := 3) rfl))) (mvT hZ (hw _ (List.mem_of_getElem? (i := 4) rfl))) (by decide) (backOf (W := 3) (rm1 l Z a0 hw [] p1 z0 lo0 h21 n0 Z21 hl0) hZ (hw _ (List.mem_of_getElem? (i := 4) rfl)) (hw _ (List.mem_of_getElem? (i := 3) rfl)) (by decide) (by decide)) (g := (mkF m 50 #[.val (.int p1), .val (.int p2), .val (.int p3), .val (.int p4), .val (.int p5), .val (.int gv), .val (.int z0), .val (.int z1), .unset, .unset, .unset, .unset, .unset, .unset] [(.int z0), (.int p1), (.int (0 : Int32)), (.ref aL), (.ref aL)])) rfl (by rw [hml]; rfl) (argsL := [(.int p1), (.int z0)]) (rest := [(.int (0 : Int32)), (.ref aL), (.ref aL)]) (lenOf pd1 rfl) rfl (by show 2 * 0 + _ ≤ _; exact Nat.le_of_eq rfl) (hb hby at_50) (fun _ _ => ⟨rfl, e21, (by decide : 1 + 0 ≤ _), (by decide : 2 + 0 ≤ _)⟩)
    dsimp only [Pt.U, Pt.locs, Pt.cells, Pt.slots] at X22 l22 y22 z22 st22 hQ22
    subst l22 y22 z22
    obtain ⟨rfl, N22, e22⟩ := hQ22
    have M22 := Fr.app N0 N22
    obtain ⟨c23, A23, q23, S23, M23, H23, U23⟩ := id VaL_21
    obtain ⟨T23, h23, X23, e23, W23, st23⟩ := stD X22 hx hZ e22 A23 (j := (0 : Int32)) (inb_of S23 ⟨(by decide : ¬ ((0 : Int32) < (0 : Int32))), (by decide : (0 : Int32) < (2 : Int32))⟩) (g := (mkF m 53 #[.val (.int p1), .val (.int p2), .val (.int p3), .val (.int p4), .val (.int p5), .val (.int gv), .val (.int z0), .val (.int z1), .unset, .unset, .unset, .unset, .unset, .unset] [(.double lo0), (.int (0 : Int32)), (.ref aL), (.ref aL)])) rfl rfl (hb hby at_53)
    have N23 := Fr.snoc X23 M22 ge_aL
    have VaL_23 : Arv Z h23 aL k_aL .double (2 : Int32) [(.double lo0), (.double 0)] (.double 0) := Arv.set A23 q23 S23 M23 H23 U23 rfl W23 0 rfl (Nat.le_of_ble_eq_true rfl)
    have Z23 : n0 ≤ h23.size := Nat.le_trans Z21 (Keep.of_wr W23).1
    obtain ⟨_, _, ⟨T24, L24, k24, n24⟩, -, X24, ⟨Lc24, hQ24, l24, y24, z24⟩, st24⟩ := Jvm.LawKit.callS X23 hx (y := (⟨"com/example/umbel/umbel/check/ValueBoundsValuesPinLaw", "lo", "(IZ)D"⟩ : MethodName)) hown (mvT hZ (hw _ (List.mem_of_getElem? (i := 1) rfl))) (mvT hZ (hw _ (List.mem_of_getElem? (i := 2) rfl))) (mvT hZ (hw _ (List.mem_of_getElem? (i := 3) rfl))) (mvT hZ (hw _ (List.mem_of_getElem? (i := 4) rfl))) (by decide) (backOf (W := 3) (rm1 l Z a0 hw [] p3 z1 lo1 h23 n0 Z23 hl1) hZ (hw _ (List.mem_of_getElem? (i := 4) rfl)) (hw _ (List.mem_of_getElem? (i := 3) rfl)) (by decide) (by decide)) (g := (mkF m 59 #[.val (.int p1), .val (.int p2), .val (.int p3), .val (.int p4), .val (.int p5), .val (.int gv), .val (.int z0), .val (.int z1), .unset, .unset, .unset, .unset, .unset, .unset] [(.int z1), (.int p3), (.int (1 : Int32)), (.ref aL), (.ref aL)])) rfl (by rw [hml]; rfl) (argsL := [(.int p3), (.int z1)]) (rest := [(.int (1 : Int32)), (.ref aL), (.ref aL)]) (lenOf pd1 rfl) rfl (by show 2 * 0 + _ ≤ _; exact Nat.le_of_eq rfl) (hb hby at_59) (fun _ _ => ⟨rfl, e23, (by decide : 1 + 0 ≤ _), (by decide : 2 + 0 ≤ _)⟩)
    dsimp only [Pt.U, Pt.locs, Pt.cells, Pt.slots] at X24 l24 y24 z24 st24 hQ24
    subst l24 y24 z24
    obtain ⟨rfl, N24, e24⟩ := hQ24
    have M24 := Fr.app N23 N24
    obtain ⟨c25, A25, q25, S25, M25, H25, U25⟩ := id VaL_23
    obtain ⟨T25, h25, X25, e25, W25, st25⟩ := stD X24 hx hZ e24 A25 (j := (1 : Int32)) (inb_of S25 ⟨(by decide : ¬ ((1 : Int32) < (0 : Int32))), (by decide : (1 : Int32) < (2 : Int32))⟩) (g := (mkF m 62 #[.val (.int p1), .val (.int p2), .val (.int p3), .val (.int p4), .val (.int p5), .val (.int gv), .val (.int z0), .val (.int z1), .unset, .unset, .unset, .unset, .unset, .unset] [(.double lo1), (.int (1 : Int32)), (.ref aL), (.ref aL)])) rfl rfl (hb hby at_62)
    have N25 := Fr.snoc X25 M24 ge_aL
    have VaL_25 : Arv Z h25 aL k_aL .double (2 : Int32) [(.double lo0), (.double lo1)] (.double 0) := Arv.set A25 q25 S25 M25 H25 U25 rfl W25 1 rfl (Nat.le_of_ble_eq_true rfl)
    have Z25 : n0 ≤ h25.size := Nat.le_trans Z23 (Keep.of_wr W25).1
    obtain ⟨T26, h26, k_aU, X26, e26, E26, A26, st26⟩ := newP X25 hx hZ (hw _ (List.mem_of_getElem? (i := 0) rfl)) e25 (g := (mkF m 66 #[.val (.int p1), .val (.int p2), .val (.int p3), .val (.int p4), .val (.int p5), .val (.int gv), .val (.int z0), .val (.int z1), .val (.ref aL), .unset, .unset, .unset, .unset, .unset] [(.int (2 : Int32))])) rfl (hb hby at_66) rfl (by decide : ¬ ((2 : Int32) < (0 : Int32))) (cap := 2) (by decide : (2 : Int32).toNatClampNeg ≤ 2) (by decide) (by decide) (by decide)
    obtain ⟨aU, g_aU⟩ : ∃ z, z = h25.size := ⟨_, rfl⟩
    rw [← g_aU] at A26 st26
    have ge_aU : n0 ≤ aU := Nat.le_trans Z25 (Nat.le_of_eq g_aU.symm)
    have ne_aL_aU : aL ≠ aU := Nat.ne_of_lt (Nat.lt_of_lt_of_le VaL_25.lt (Nat.le_of_eq g_aU.symm))
    have VaL_26 : Arv Z h26 aL k_aL .double (2 : Int32) [(.double lo0), (.double lo1)] (.double 0) := VaL_25.ext E26
    have Z26 : n0 ≤ h26.size := Nat.le_trans Z25 E26.1
    have P26 : Arv Z h26 aU k_aU .double (2 : Int32) [] (.double 0) := Arv.new A26 (by decide : ¬ ((2 : Int32) < (0 : Int32)))
    have VaU_26 : Arv Z h26 aU k_aU .double (2 : Int32) [(.double 0), (.double 0)] (.double 0) := P26.pad (pad_rep [] (.double 0) 2)
    obtain ⟨_, _, ⟨T27, L27, k27, n27⟩, -, X27, ⟨Lc27, hQ27, l27, y27, z27⟩, st27⟩ := Jvm.LawKit.callS X26 hx (y := (⟨"com/example/umbel/umbel/check/ValueBoundsValuesPinLaw", "hi", "(IIZ)D"⟩ : MethodName)) hown (mvT hZ (hw _ (List.mem_of_getElem? (i := 5) rfl))) (mvT hZ (hw _ (List.mem_of_getElem? (i := 6) rfl))) (mvT hZ (hw _ (List.mem_of_getElem? (i := 3) rfl))) (mvT hZ (hw _ (List.mem_of_getElem? (i := 7) rfl))) (by decide) (backOf (W := 3) (rm2 l Z a0 hw [] p1 p2 z0 up0 h26 n0 Z26 hu0) hZ (hw _ (List.mem_of_getElem? (i := 7) rfl)) (hw _ (List.mem_of_getElem? (i := 3) rfl)) (by decide) (by decide)) (g := (mkF m 74 #[.val (.int p1), .val (.int p2), .val (.int p3), .val (.int p4), .val (.int p5), .val (.int gv), .val (.int z0), .val (.int z1), .val (.ref aL), .unset, .unset, .unset, .unset, .unset] [(.int z0), (.int p2), (.int p1), (.int (0 : Int32)), (.ref aU), (.ref aU)])) rfl (by rw [hml]; rfl) (argsL := [(.int p1), (.int p2), (.int z0)]) (rest := [(.int (0 : Int32)), (.ref aU), (.ref aU)]) (lenOf pd2 rfl) rfl (by show 2 * 0 + _ ≤ _; exact Nat.le_of_eq rfl) (hb hby at_74) (fun _ _ => ⟨rfl, e26, (by decide : 2 + 0 ≤ _), (by decide : 4 + 0 ≤ _)⟩)
    dsimp only [Pt.U, Pt.locs, Pt.cells, Pt.slots] at X27 l27 y27 z27 st27 hQ27
    subst l27 y27 z27
    obtain ⟨rfl, N27, e27⟩ := hQ27
    have M27 := Fr.app N25 N27
    obtain ⟨c28, A28, q28, S28, M28, H28, U28⟩ := id VaU_26
    obtain ⟨T28, h28, X28, e28, W28, st28⟩ := stD X27 hx hZ e27 A28 (j := (0 : Int32)) (inb_of S28 ⟨(by decide : ¬ ((0 : Int32) < (0 : Int32))), (by decide : (0 : Int32) < (2 : Int32))⟩) (g := (mkF m 77 #[.val (.int p1), .val (.int p2), .val (.int p3), .val (.int p4), .val (.int p5), .val (.int gv), .val (.int z0), .val (.int z1), .val (.ref aL), .unset, .unset, .unset, .unset, .unset] [(.double up0), (.int (0 : Int32)), (.ref aU), (.ref aU)])) rfl rfl (hb hby at_77)
    have N28 := Fr.snoc X28 M27 ge_aU
    have VaL_28 : Arv Z h28 aL k_aL .double (2 : Int32) [(.double lo0), (.double lo1)] (.double 0) := VaL_26.other W28 ne_aL_aU
    have VaU_28 : Arv Z h28 aU k_aU .double (2 : Int32) [(.double up0), (.double 0)] (.double 0) := Arv.set A28 q28 S28 M28 H28 U28 rfl W28 0 rfl (Nat.le_of_ble_eq_true rfl)
    have Z28 : n0 ≤ h28.size := Nat.le_trans Z26 (Keep.of_wr W28).1
    obtain ⟨_, _, ⟨T29, L29, k29, n29⟩, -, X29, ⟨Lc29, hQ29, l29, y29, z29⟩, st29⟩ := Jvm.LawKit.callS X28 hx (y := (⟨"com/example/umbel/umbel/check/ValueBoundsValuesPinLaw", "hi", "(IIZ)D"⟩ : MethodName)) hown (mvT hZ (hw _ (List.mem_of_getElem? (i := 5) rfl))) (mvT hZ (hw _ (List.mem_of_getElem? (i := 6) rfl))) (mvT hZ (hw _ (List.mem_of_getElem? (i := 3) rfl))) (mvT hZ (hw _ (List.mem_of_getElem? (i := 7) rfl))) (by decide) (backOf (W := 3) (rm2 l Z a0 hw [] p3 p4 z1 up1 h28 n0 Z28 hu1) hZ (hw _ (List.mem_of_getElem? (i := 7) rfl)) (hw _ (List.mem_of_getElem? (i := 3) rfl)) (by decide) (by decide)) (g := (mkF m 84 #[.val (.int p1), .val (.int p2), .val (.int p3), .val (.int p4), .val (.int p5), .val (.int gv), .val (.int z0), .val (.int z1), .val (.ref aL), .unset, .unset, .unset, .unset, .unset] [(.int z1), (.int p4), (.int p3), (.int (1 : Int32)), (.ref aU), (.ref aU)])) rfl (by rw [hml]; rfl) (argsL := [(.int p3), (.int p4), (.int z1)]) (rest := [(.int (1 : Int32)), (.ref aU), (.ref aU)]) (lenOf pd2 rfl) rfl (by show 2 * 0 + _ ≤ _; exact Nat.le_of_eq rfl) (hb hby at_84) (fun _ _ => ⟨rfl, e28, (by decide : 2 + 0 ≤ _), (by decide : 4 + 0 ≤ _)⟩)
    dsimp only [Pt.U, Pt.locs, Pt.cells, Pt.slots] at X29 l29 y29 z29 st29 hQ29
    subst l29 y29 z29
    obtain ⟨rfl, N29, e29⟩ := hQ29
    have M29 := Fr.app N28 N29
    obtain ⟨c30, A30, q30, S30, M30, H30, U30⟩ := id VaU_28
    obtain ⟨T30, h30, X30, e30, W30, st30⟩ := stD X29 hx hZ e29 A30 (j := (1 : Int32)) (inb_of S30 ⟨(by decide : ¬ ((1 : Int32) < (0 : Int32))), (by decide : (1 : Int32) < (2 : Int32))⟩) (g := (mkF m 87 #[.val (.int p1), .val (.int p2), .val (.int p3), .val (.int p4), .val (.int p5), .val (.int gv), .val (.int z0), .val (.int z1), .val (.ref aL), .unset, .unset, .unset, .unset, .unset] [(.double up1), (.int (1 : Int32)), (.ref aU), (.ref aU)])) rfl rfl (hb hby at_87)
    have N30 := Fr.snoc X30 M29 ge_aU
    have VaL_30 : Arv Z h30 aL k_aL .double (2 : Int32) [(.double lo0), (.double lo1)] (.double 0) := VaL_28.other W30 ne_aL_aU
    have VaU_30 : Arv Z h30 aU k_aU .double (2 : Int32) [(.double up0), (.double up1)] (.double 0) := Arv.set A30 q30 S30 M30 H30 U30 rfl W30 1 rfl (Nat.le_of_ble_eq_true rfl)
    have Z30 : n0 ≤ h30.size := Nat.le_trans Z28 (Keep.of_wr W30).1
    obtain ⟨T31, h31, k_aV, X31, e31, E31, A31, st31⟩ := newP X30 hx hZ (hw _ (List.mem_of_getElem? (i := 0) rfl)) e30 (g := (mkF m 96 #[.val (.int p1), .val (.int p2), .val (.int p3), .val (.int p4), .val (.int p5), .val (.int gv), .val (.int z0), .val (.int z1), .val (.ref aL), .val (.ref aU), .unset, .unset, .unset, .unset] [(.int (2 : Int32))])) rfl (hb hby at_96) rfl (by decide : ¬ ((2 : Int32) < (0 : Int32))) (cap := 2) (by decide : (2 : Int32).toNatClampNeg ≤ 2) (by decide) (by decide) (by decide)
    obtain ⟨aV, g_aV⟩ : ∃ z, z = h30.size := ⟨_, rfl⟩
    rw [← g_aV] at A31 st31
    have ge_aV : n0 ≤ aV := Nat.le_trans Z30 (Nat.le_of_eq g_aV.symm)
    have ne_aL_aV : aL ≠ aV := Nat.ne_of_lt (Nat.lt_of_lt_of_le VaL_30.lt (Nat.le_of_eq g_aV.symm))
    have ne_aU_aV : aU ≠ aV := Nat.ne_of_lt (Nat.lt_of_lt_of_le VaU_30.lt (Nat.le_of_eq g_aV.symm))
    have VaL_31 : Arv Z h31 aL k_aL .double (2 : Int32) [(.double lo0), (.double lo1)] (.double 0) := VaL_30.ext E31
    have VaU_31 : Arv Z h31 aU k_aU .double (2 : Int32) [(.double up0), (.double up1)] (.double 0) := VaU_30.ext E31
    have Z31 : n0 ≤ h31.size := Nat.le_trans Z30 E31.1
    have P31 : Arv Z h31 aV k_aV .double (2 : Int32) [] (.double 0) := Arv.new A31 (by decide : ¬ ((2 : Int32) < (0 : Int32)))
    have VaV_31 : Arv Z h31 aV k_aV .double (2 : Int32) [(.double 0), (.double 0)] (.double 0) := P31.pad (pad_rep [] (.double 0) 2)
    obtain ⟨c32, A32, q32, S32, M32, H32, U32⟩ := id VaV_31
    obtain ⟨T32, h32, X32, e32, W32, st32⟩ := stD X31 hx hZ e31 A32 (j := (0 : Int32)) (inb_of S32 ⟨(by decide : ¬ ((0 : Int32) < (0 : Int32))), (by decide : (0 : Int32) < (2 : Int32))⟩) (g := (mkF m 102 #[.val (.int p1), .val (.int p2), .val (.int p3), .val (.int p4), .val (.int p5), .val (.int gv), .val (.int z0), .val (.int z1), .val (.ref aL), .val (.ref aU), .unset, .unset, .unset, .unset] [(.double (FP.i2d p2)), (.int (0 : Int32)), (.ref aV), (.ref aV)])) rfl rfl (hb hby at_102)
    have N32 := Fr.snoc X32 N30 ge_aV
    have VaL_32 : Arv Z h32 aL k_aL .double (2 : Int32) [(.double lo0), (.double lo1)] (.double 0) := VaL_31.other W32 ne_aL_aV
    have VaU_32 : Arv Z h32 aU k_aU .double (2 : Int32) [(.double up0), (.double up1)] (.double 0) := VaU_31.other W32 ne_aU_aV
    have VaV_32 : Arv Z h32 aV k_aV .double (2 : Int32) [(.double (FP.i2d p2)), (.double 0)] (.double 0) := Arv.set A32 q32 S32 M32 H32 U32 rfl W32 0 rfl (Nat.le_of_ble_eq_true rfl)
    have Z32 : n0 ≤ h32.size := Nat.le_trans Z31 (Keep.of_wr W32).1
    obtain ⟨c33, A33, q33, S33, M33, H33, U33⟩ := id VaV_32
    obtain ⟨T33, h33, X33, e33, W33, st33⟩ := stD X32 hx hZ e32 A33 (j := (1 : Int32)) (inb_of S33 ⟨(by decide : ¬ ((1 : Int32) < (0 : Int32))), (by decide : (1 : Int32) < (2 : Int32))⟩) (g := (mkF m 107 #[.val (.int p1), .val (.int p2), .val (.int p3), .val (.int p4), .val (.int p5), .val (.int gv), .val (.int z0), .val (.int z1), .val (.ref aL), .val (.ref aU), .unset, .unset, .unset, .unset] [(.double (FP.i2d p3)), (.int (1 : Int32)), (.ref aV), (.ref aV)])) rfl rfl (hb hby at_107)
    have N33 := Fr.snoc X33 N32 ge_aV
    have VaL_33 : Arv Z h33 aL k_aL .double (2 : Int32) [(.double lo0), (.double lo1)] (.double 0) := VaL_32.other W33 ne_aL_aV
    have VaU_33 : Arv Z h33 aU k_aU .double (2 : Int32) [(.double up0), (.double up1)] (.double 0) := VaU_32.other W33 ne_aU_aV
    have VaV_33 : Arv Z h33 aV k_aV .double (2 : Int32) [(.double (FP.i2d p2)), (.double (FP.i2d p3))] (.double 0) := Arv.set A33 q33 S33 M33 H33 U33 rfl W33 1 rfl (Nat.le_of_ble_eq_true rfl)
    have Z33 : n0 ≤ h33.size := Nat.le_trans Z32 (Keep.of_wr W33).1
    obtain ⟨T34, h34, X34, e34, E34, A34, D34, -, st34⟩ := newO X33 hx hZ hown (hw _ (List.mem_of_getElem? (i := 8) rfl)) (hw _ (List.mem_of_getElem? (i := 9) rfl)) (hw _ (List.mem_of_getElem? (i := 10) rfl)) e33 (g := (mkF m 110 #[.val (.int p1), .val (.int p2), .val (.int p3), .val (.int p4), .val (.int p5), .val (.int gv), .val (.int z0), .val (.int z1), .val (.ref aL), .val (.ref aU), .val (.ref aV), .unset, .unset, .unset] [])) rfl (hb hby at_110) (by decide) (by decide)
    obtain ⟨aB, g_aB⟩ : ∃ z, z = h33.size := ⟨_, rfl⟩
    rw [← g_aB] at A34 D34 st34
    have ge_aB : n0 ≤ aB := Nat.le_trans Z33 (Nat.le_of_eq g_aB.symm)
    have ne_aL_aB : aL ≠ aB := Nat.ne_of_lt (Nat.lt_of_lt_of_le VaL_33.lt (Nat.le_of_eq g_aB.symm))
    have ne_aU_aB : aU ≠ aB := Nat.ne_of_lt (Nat.lt_of_lt_of_le VaU_33.lt (Nat.le_of_eq g_aB.symm))
    have ne_aV_aB : aV ≠ aB := Nat.ne_of_lt (Nat.lt_of_lt_of_le VaV_33.lt (Nat.le_of_eq g_aB.symm))
    have VaL_34 : Arv Z h34 aL k_aL .double (2 : Int32) [(.double lo0), (.double lo1)] (.double 0) := VaL_33.ext E34
    have VaU_34 : Arv Z h34 aU k_aU .double (2 : Int32) [(.double up0), (.double up1)] (.double 0) := VaU_33.ext E34
    have VaV_34 : Arv Z h34 aV k_aV .double (2 : Int32) [(.double (FP.i2d p2)), (.double (FP.i2d p3))] (.double 0) := VaV_33.ext E34
    have Z34 : n0 ≤ h34.size := Nat.le_trans Z33 E34.1
    have FaB_lower_34 : Fld Z h34 aB "com/example/umbel/umbel/check/ValueBounds" "lower" "[D" .null := D34 (Or.inr (hw _ (List.mem_of_getElem? (i := 18) rfl))) (ty := (.array .double)) (by decide)
    have FaB_values_34 : Fld Z h34 aB "com/example/umbel/umbel/check/ValueBounds" "values" "[D" .null := D34 (Or.inr (hw _ (List.mem_of_getElem? (i := 20) rfl))) (ty := (.array .double)) (by decide)
    have FaB_upper_34 : Fld Z h34 aB "com/example/umbel/umbel/check/ValueBounds" "upper" "[D" .null := D34 (Or.inr (hw _ (List.mem_of_getElem? (i := 22) rfl))) (ty := (.array .double)) (by decide)
    obtain ⟨_, _, ⟨T35, L35, k35, n35⟩, -, X35, ⟨Lc35, hQ35, l35, y35, z35⟩, st35⟩ := X34.specialBack hx (y := (⟨"com/example/umbel/umbel/check/ValueBounds", "<init>", "([D[D[D)V"⟩ : MethodName)) rfl hown (mvT hZ (hw _ (List.mem_of_getElem? (i := 11) rfl))) (mvT hZ (hw _ (List.mem_of_getElem? (i := 12) rfl))) (mvT hZ (hw _ (List.mem_of_getElem? (i := 13) rfl))) (by decide) (backOf (W := 1) (rm3 l Z a0 hw [] aB aL aV aU .null .null .null h34 n0 Z34 A34 FaB_lower_34 ge_aB FaB_values_34 FaB_upper_34) hZ (hw _ (List.mem_of_getElem? (i := 13) rfl)) (hw _ (List.mem_of_getElem? (i := 10) rfl)) (by decide) (by decide)) (g := (mkF m 120 #[.val (.int p1), .val (.int p2), .val (.int p3), .val (.int p4), .val (.int p5), .val (.int gv), .val (.int z0), .val (.int z1), .val (.ref aL), .val (.ref aU), .val (.ref aV), .unset, .unset, .unset] [(.ref aU), (.ref aV), (.ref aL), (.ref aB), (.ref aB)])) rfl (by rw [hml]; rfl) (Steps.refl _) (a := aB) (argsL := [(.ref aL), (.ref aV), (.ref aU)]) (rest := [(.ref aB)]) (lenOf pd3 rfl) rfl (by show 2 * 0 + _ ≤ _; exact Nat.le_of_eq rfl) (hb hby at_120) (fun _ _ => ⟨rfl, e34, (by decide : 4 + 0 ≤ _), (by decide : 9 + 0 ≤ _)⟩)
    dsimp only [Pt.U, Pt.locs, Pt.cells, Pt.slots] at X35 l35 y35 z35 st35 hQ35
    subst l35 y35 z35
    obtain ⟨rfl, N35, K35, EE35, FL35, FV35, FU35⟩ := hQ35
    have M35 := Fr.app N33 N35
    have VaL_35 : Arv Z T35.heap aL k_aL .double (2 : Int32) [(.double lo0), (.double lo1)] (.double 0) := VaL_34.keep K35 (ninS ne_aL_aB nin0)
    have VaU_35 : Arv Z T35.heap aU k_aU .double (2 : Int32) [(.double up0), (.double up1)] (.double 0) := VaU_34.keep K35 (ninS ne_aU_aB nin0)
    have VaV_35 : Arv Z T35.heap aV k_aV .double (2 : Int32) [(.double (FP.i2d p2)), (.double (FP.i2d p3))] (.double 0) := VaV_34.keep K35 (ninS ne_aV_aB nin0)
    have Z35 : n0 ≤ T35.heap.size := Nat.le_trans Z34 K35.1
    obtain ⟨cq36, kq36, qa36, qb36, qc36⟩ := isOf hZ rfl EE35
    obtain ⟨_, _, ⟨T36, L36, k36, n36⟩, -, X36, ⟨Lc36, hQ36, l36, y36, z36⟩, st36⟩ := X35.virtualBack hx (y := (⟨"com/example/umbel/umbel/check/ValueBounds", "values", "()[D"⟩ : MethodName)) (z := (⟨"com/example/umbel/umbel/check/ValueBounds", "values", "()[D"⟩ : MethodName)) hown (mvT hZ (hw _ (List.mem_of_getElem? (i := 23) rfl))) (mvT hZ (hw _ (List.mem_of_getElem? (i := 24) rfl))) (notFace_of_selects (args := #[]) (mvT hZ (hw _ (List.mem_of_getElem? (i := 26) rfl)))) (mvT hZ (hw _ (List.mem_of_getElem? (i := 26) rfl))) (mvT hZ (hw _ (List.mem_of_getElem? (i := 25) rfl))) (by decide) (backOf (W := 0) (rm5g l Z a0 hw [] aB aV T35.heap n0 Z35 FV35) hZ (hw _ (List.mem_of_getElem? (i := 27) rfl)) (hw _ (List.mem_of_getElem? (i := 10) rfl)) (by decide) (by decide)) qa36 qc36 (g := (mkF m 127 #[.val (.int p1), .val (.int p2), .val (.int p3), .val (.int p4), .val (.int p5), .val (.int gv), .val (.int z0), .val (.int z1), .val (.ref aL), .val (.ref aU), .val (.ref aV), .val (.ref aB), .unset, .unset] [(.ref aB)])) rfl (by rw [hml]; rfl) (Steps.refl _) (argsL := []) (rest := []) (lenOf pd5 rfl) rfl (by show 2 * 0 + _ ≤ _; exact Nat.le_of_eq rfl) (hb hby at_127) (fun _ _ => ⟨rfl, rfl, (by decide : 4 + 0 ≤ _), (by decide : 9 + 0 ≤ _)⟩)
    dsimp only [Pt.U, Pt.locs, Pt.cells, Pt.slots] at X36 l36 y36 z36 st36 hQ36
    subst l36 y36 z36
    obtain ⟨rfl, N36, e36⟩ := hQ36
    have M36 := Fr.app M35 N36
    obtain ⟨cq37, kq37, qa37, qb37, qc37⟩ := isOf hZ e36 EE35
    obtain ⟨_, _, ⟨T37, L37, k37, n37⟩, -, X37, ⟨Lc37, hQ37, l37, y37, z37⟩, st37⟩ := X36.virtualBack hx (y := (⟨"com/example/umbel/umbel/check/ValueBounds", "values", "()[D"⟩ : MethodName)) (z := (⟨"com/example/umbel/umbel/check/ValueBounds", "values", "()[D"⟩ : MethodName)) hown (mvT hZ (hw _ (List.mem_of_getElem? (i := 23) rfl))) (mvT hZ (hw _ (List.mem_of_getElem? (i := 24) rfl))) (notFace_of_selects (args := #[]) (mvT hZ (hw _ (List.mem_of_getElem? (i := 26) rfl)))) (mvT hZ (hw _ (List.mem_of_getElem? (i := 26) rfl))) (mvT hZ (hw _ (List.mem_of_getElem? (i := 25) rfl))) (by decide) (backOf (W := 0) (rm5g l Z a0 hw [] aB aV T35.heap n0 Z35 FV35) hZ (hw _ (List.mem_of_getElem? (i := 27) rfl)) (hw _ (List.mem_of_getElem? (i := 10) rfl)) (by decide) (by decide)) qa37 qc37 (g := (mkF m 134 #[.val (.int p1), .val (.int p2), .val (.int p3), .val (.int p4), .val (.int p5), .val (.int gv), .val (.int z0), .val (.int z1), .val (.ref aL), .val (.ref aU), .val (.ref aV), .val (.ref aB), .val (.ref aV), .unset] [(.ref aB)])) rfl (by rw [hml]; rfl) (Steps.refl _) (argsL := []) (rest := []) (lenOf pd5 rfl) rfl (by show 2 * 0 + _ ≤ _; exact Nat.le_of_eq rfl) (hb hby at_134) (fun _ _ => ⟨rfl, e36, (by decide : 4 + 0 ≤ _), (by decide : 9 + 0 ≤ _)⟩)
    dsimp only [Pt.U, Pt.locs, Pt.cells, Pt.slots] at X37 l37 y37 z37 st37 hQ37
    subst l37 y37 z37
    obtain ⟨rfl, N37, e37⟩ := hQ37
    have M37 := Fr.app M36 N37
    obtain ⟨fs, hr, hrun, hended, hW, hsame⟩ := X37.leave (v := some (.int (1 : Int32))) (fun h => by rw [Bd.returns] at h; cases h)
    refine ⟨_, _, pre0 _ ?_, hrun, hended, _, _, rfl, ?_, ⟨_, rfl⟩, hW, hsame.mono (by decide) (by decide)⟩
    · refine S1 _ (S2 _ (S3 _ ?_))
      show Steps p.tables e below (s₁.setTop (mkF m 42 #[.val (.int p1), .val (.int p2), .val (.int p3), .val (.int p4), .val (.int p5), .val (.int gv), .val (.int z0), .val (.int z1), .unset, .unset, .unset, .unset, .unset, .unset] [])) _
      refine XS.iconst X0.here hx rfl (hb hby at_42) ?_
      show Steps p.tables e below (s₁.setTop (mkF m 43 #[.val (.int p1), .val (.int p2), .val (.int p3), .val (.int p4), .val (.int p5), .val (.int gv), .val (.int z0), .val (.int z1), .unset, .unset, .unset, .unset, .unset, .unset] [(.int (2 : Int32))])) _
      refine st21 _ ?_
      show Steps p.tables e below (T21.setTop (mkF m 45 #[.val (.int p1), .val (.int p2), .val (.int p3), .val (.int p4), .val (.int p5), .val (.int gv), .val (.int z0), .val (.int z1), .unset, .unset, .unset, .unset, .unset, .unset] [(.ref aL)])) _
      refine XS.dup X21.here hx rfl (hb hby at_45) rfl rfl ?_
      show Steps p.tables e below (T21.setTop (mkF m 46 #[.val (.int p1), .val (.int p2), .val (.int p3), .val (.int p4), .val (.int p5), .val (.int gv), .val (.int z0), .val (.int z1), .unset, .unset, .unset, .unset, .unset, .unset] [(.ref aL), (.ref aL)])) _
      refine XS.iconst X21.here hx rfl (hb hby at_46) ?_
      show Steps p.tables e below (T21.setTop (mkF m 47 #[.val (.int p1), .val (.int p2), .val (.int p3), .val (.int p4), .val (.int p5), .val (.int gv), .val (.int z0), .val (.int z1), .unset, .unset, .unset, .unset, .unset, .unset] [(.int (0 : Int32)), (.ref aL), (.ref aL)])) _
      refine XS.iloadN X21.here hx rfl (hb hby at_47) rfl ?_
      show Steps p.tables e below (T21.setTop (mkF m 48 #[.val (.int p1), .val (.int p2), .val (.int p3), .val (.int p4), .val (.int p5), .val (.int gv), .val (.int z0), .val (.int z1), .unset, .unset, .unset, .unset, .unset, .unset] [(.int p1), (.int (0 : Int32)), (.ref aL), (.ref aL)])) _
      refine XS.iload X21.here hx rfl (hb hby at_48) rfl ?_
      show Steps p.tables e below (T21.setTop (mkF m 50 #[.val (.int p1), .val (.int p2), .val (.int p3), .val (.int p4), .val (.int p5), .val (.int gv), .val (.int z0), .val (.int z1), .unset, .unset, .unset, .unset, .unset, .unset] [(.int z0), (.int p1), (.int (0 : Int32)), (.ref aL), (.ref aL)])) _
      refine st22 _ ?_
      show Steps p.tables e below (T22.setTop (mkF m 53 #[.val (.int p1), .val (.int p2), .val (.int p3), .val (.int p4), .val (.int p5), .val (.int gv), .val (.int z0), .val (.int z1), .unset, .unset, .unset, .unset, .unset, .unset] [(.double lo0), (.int (0 : Int32)), (.ref aL), (.ref aL)])) _
      refine st23 _ ?_
      show Steps p.tables e below (T23.setTop (mkF m 54 #[.val (.int p1), .val (.int p2), .val (.int p3), .val (.int p4), .val (.int p5), .val (.int gv), .val (.int z0), .val (.int z1), .unset, .unset, .unset, .unset, .unset, .unset] [(.ref aL)])) _
      refine XS.dup X23.here hx rfl (hb hby at_54) rfl rfl ?_
      show Steps p.tables e below (T23.setTop (mkF m 55 #[.val (.int p1), .val (.int p2), .val (.int p3), .val (.int p4), .val (.int p5), .val (.int gv), .val (.int z0), .val (.int z1), .unset, .unset, .unset, .unset, .unset, .unset] [(.ref aL), (.ref aL)])) _
      refine XS.iconst X23.here hx rfl (hb hby at_55) ?_
      show Steps p.tables e below (T23.setTop (mkF m 56 #[.val (.int p1), .val (.int p2), .val (.int p3), .val (.int p4), .val (.int p5), .val (.int gv), .val (.int z0), .val (.int z1), .unset, .unset, .unset, .unset, .unset, .unset] [(.int (1 : Int32)), (.ref aL), (.ref aL)])) _
      refine XS.iloadN X23.here hx rfl (hb hby at_56) rfl ?_
      show Steps p.tables e below (T23.setTop (mkF m 57 #[.val (.int p1), .val (.int p2), .val (.int p3), .val (.int p4), .val (.int p5), .val (.int gv), .val (.int z0), .val (.int z1), .unset, .unset, .unset, .unset, .unset, .unset] [(.int p3), (.int (1 : Int32)), (.ref aL), (.ref aL)])) _
      refine XS.iload X23.here hx rfl (hb hby at_57) rfl ?_
      show Steps p.tables e below (T23.setTop (mkF m 59 #[.val (.int p1), .val (.int p2), .val (.int p3), .val (.int p4), .val (.int p5), .val (.int gv), .val (.int z0), .val (.int z1), .unset, .unset, .unset, .unset, .unset, .unset] [(.int z1), (.int p3), (.int (1 : Int32)), (.ref aL), (.ref aL)])) _
      refine st24 _ ?_
      show Steps p.tables e below (T24.setTop (mkF m 62 #[.val (.int p1), .val (.int p2), .val (.int p3), .val (.int p4), .val (.int p5), .val (.int gv), .val (.int z0), .val (.int z1), .unset, .unset, .unset, .unset, .unset, .unset] [(.double lo1), (.int (1 : Int32)), (.ref aL), (.ref aL)])) _
      refine st25 _ ?_
      show Steps p.tables e below (T25.setTop (mkF m 63 #[.val (.int p1), .val (.int p2), .val (.int p3), .val (.int p4), .val (.int p5), .val (.int gv), .val (.int z0), .val (.int z1), .unset, .unset, .unset, .unset, .unset, .unset] [(.ref aL)])) _
      refine XS.astore X25.here hx rfl (hb hby at_63) rfl rfl (l' := #[.val (.int p1), .val (.int p2), .val (.int p3), .val (.int p4), .val (.int p5), .val (.int gv), .val (.int z0), .val (.int z1), .val (.ref aL), .unset, .unset, .unset, .unset, .unset]) rfl ?_
      show Steps p.tables e below (T25.setTop (mkF m 65 #[.val (.int p1), .val (.int p2), .val (.int p3), .val (.int p4), .val (.int p5), .val (.int gv), .val (.int z0), .val (.int z1), .val (.ref aL), .unset, .unset, .unset, .unset, .unset] [])) _
      refine XS.iconst X25.here hx rfl (hb hby at_65) ?_
      show Steps p.tables e below (T25.setTop (mkF m 66 #[.val (.int p1), .val (.int p2), .val (.int p3), .val (.int p4), .val (.int p5), .val (.int gv), .val (.int z0), .val (.int z1), .val (.ref aL), .unset, .unset, .unset, .unset, .unset] [(.int (2 : Int32))])) _
      refine st26 _ ?_
      show Steps p.tables e below (T26.setTop (mkF m 68 #[.val (.int p1), .val (.int p2), .val (.int p3), .val (.int p4), .val (.int p5), .val (.int gv), .val (.int z0), .val (.int z1), .val (.ref aL), .unset, .unset, .unset, .unset, .unset] [(.ref aU)])) _
      refine XS.dup X26.here hx rfl (hb hby at_68) rfl rfl ?_
      show Steps p.tables e below (T26.setTop (mkF m 69 #[.val (.int p1), .val (.int p2), .val (.int p3), .val (.int p4), .val (.int p5), .val (.int gv), .val (.int z0), .val (.int z1), .val (.ref aL), .unset, .unset, .unset, .unset, .unset] [(.ref aU), (.ref aU)])) _
      refine XS.iconst X26.here hx rfl (hb hby at_69) ?_
      show Steps p.tables e below (T26.setTop (mkF m 70 #[.val (.int p1), .val (.int p2), .val (.int p3), .val (.int p4), .val (.int p5), .val (.int gv), .val (.int z0), .val (.int z1), .val (.ref aL), .unset, .unset, .unset, .unset, .unset] [(.int (0 : Int32)), (.ref aU), (.ref aU)])) _
      refine XS.iloadN X26.here hx rfl (hb hby at_70) rfl ?_
      show Steps p.tables e below (T26.setTop (mkF m 71 #[.val (.int p1), .val (.int p2), .val (.int p3), .val (.int p4), .val (.int p5), .val (.int gv), .val (.int z0), .val (.int z1), .val (.ref aL), .unset, .unset, .unset, .unset, .unset] [(.int p1), (.int (0 : Int32)), (.ref aU), (.ref aU)])) _
      refine XS.iloadN X26.here hx rfl (hb hby at_71) rfl ?_
      show Steps p.tables e below (T26.setTop (mkF m 72 #[.val (.int p1), .val (.int p2), .val (.int p3), .val (.int p4), .val (.int p5), .val (.int gv), .val (.int z0), .val (.int z1), .val (.ref aL), .unset, .unset, .unset, .unset, .unset] [(.int p2), (.int p1), (.int (0 : Int32)), (.ref aU), (.ref aU)])) _
      refine XS.iload X26.here hx rfl (hb hby at_72) rfl ?_
      show Steps p.tables e below (T26.setTop (mkF m 74 #[.val (.int p1), .val (.int p2), .val (.int p3), .val (.int p4), .val (.int p5), .val (.int gv), .val (.int z0), .val (.int z1), .val (.ref aL), .unset, .unset, .unset, .unset, .unset] [(.int z0), (.int p2), (.int p1), (.int (0 : Int32)), (.ref aU), (.ref aU)])) _
      refine st27 _ ?_
      show Steps p.tables e below (T27.setTop (mkF m 77 #[.val (.int p1), .val (.int p2), .val (.int p3), .val (.int p4), .val (.int p5), .val (.int gv), .val (.int z0), .val (.int z1), .val (.ref aL), .unset, .unset, .unset, .unset, .unset] [(.double up0), (.int (0 : Int32)), (.ref aU), (.ref aU)])) _
      refine st28 _ ?_
      show Steps p.tables e below (T28.setTop (mkF m 78 #[.val (.int p1), .val (.int p2), .val (.int p3), .val (.int p4), .val (.int p5), .val (.int gv), .val (.int z0), .val (.int z1), .val (.ref aL), .unset, .unset, .unset, .unset, .unset] [(.ref aU)])) _
      refine XS.dup X28.here hx rfl (hb hby at_78) rfl rfl ?_
      show Steps p.tables e below (T28.setTop (mkF m 79 #[.val (.int p1), .val (.int p2), .val (.int p3), .val (.int p4), .val (.int p5), .val (.int gv), .val (.int z0), .val (.int z1), .val (.ref aL), .unset, .unset, .unset, .unset, .unset] [(.ref aU), (.ref aU)])) _
      refine XS.iconst X28.here hx rfl (hb hby at_79) ?_
      show Steps p.tables e below (T28.setTop (mkF m 80 #[.val (.int p1), .val (.int p2), .val (.int p3), .val (.int p4), .val (.int p5), .val (.int gv), .val (.int z0), .val (.int z1), .val (.ref aL), .unset, .unset, .unset, .unset, .unset] [(.int (1 : Int32)), (.ref aU), (.ref aU)])) _
      refine XS.iloadN X28.here hx rfl (hb hby at_80) rfl ?_
      show Steps p.tables e below (T28.setTop (mkF m 81 #[.val (.int p1), .val (.int p2), .val (.int p3), .val (.int p4), .val (.int p5), .val (.int gv), .val (.int z0), .val (.int z1), .val (.ref aL), .unset, .unset, .unset, .unset, .unset] [(.int p3), (.int (1 : Int32)), (.ref aU), (.ref aU)])) _
      refine XS.iloadN X28.here hx rfl (hb hby at_81) rfl ?_
      show Steps p.tables e below (T28.setTop (mkF m 82 #[.val (.int p1), .val (.int p2), .val (.int p3), .val (.int p4), .val (.int p5), .val (.int gv), .val (.int z0), .val (.int z1), .val (.ref aL), .unset, .unset, .unset, .unset, .unset] [(.int p4), (.int p3), (.int (1 : Int32)), (.ref aU), (.ref aU)])) _
      refine XS.iload X28.here hx rfl (hb hby at_82) rfl ?_
      show Steps p.tables e below (T28.setTop (mkF m 84 #[.val (.int p1), .val (.int p2), .val (.int p3), .val (.int p4), .val (.int p5), .val (.int gv), .val (.int z0), .val (.int z1), .val (.ref aL), .unset, .unset, .unset, .unset, .unset] [(.int z1), (.int p4), (.int p3), (.int (1 : Int32)), (.ref aU), (.ref aU)])) _
      refine st29 _ ?_
      show Steps p.tables e below (T29.setTop (mkF m 87 #[.val (.int p1), .val (.int p2), .val (.int p3), .val (.int p4), .val (.int p5), .val (.int gv), .val (.int z0), .val (.int z1), .val (.ref aL), .unset, .unset, .unset, .unset, .unset] [(.double up1), (.int (1 : Int32)), (.ref aU), (.ref aU)])) _
      refine st30 _ ?_
      show Steps p.tables e below (T30.setTop (mkF m 88 #[.val (.int p1), .val (.int p2), .val (.int p3), .val (.int p4), .val (.int p5), .val (.int gv), .val (.int z0), .val (.int z1), .val (.ref aL), .unset, .unset, .unset, .unset, .unset] [(.ref aU)])) _
      refine XS.astore X30.here hx rfl (hb hby at_88) rfl rfl (l' := #[.val (.int p1), .val (.int p2), .val (.int p3), .val (.int p4), .val (.int p5), .val (.int gv), .val (.int z0), .val (.int z1), .val (.ref aL), .val (.ref aU), .unset, .unset, .unset, .unset]) rfl ?_
      show Steps p.tables e below (T30.setTop (mkF m 90 #[.val (.int p1), .val (.int p2), .val (.int p3), .val (.int p4), .val (.int p5), .val (.int gv), .val (.int z0), .val (.int z1), .val (.ref aL), .val (.ref aU), .unset, .unset, .unset, .unset] [])) _
      refine XS.iload X30.here hx rfl (hb hby at_90) rfl ?_
      show Steps p.tables e below (T30.setTop (mkF m 92 #[.val (.int p1), .val (.int p2), .val (.int p3), .val (.int p4), .val (.int p5), .val (.int gv), .val (.int z0), .val (.int z1), .val (.ref aL), .val (.ref aU), .unset, .unset, .unset, .unset] [(.int gv)])) _
      refine XS.ifNo X30.here hx rfl (hb hby at_92) rfl ((if0 _ _).trans (feq cg).1) ?_
      show Steps p.tables e below (T30.setTop (mkF m 95 #[.val (.int p1), .val (.int p2), .val (.int p3), .val (.int p4), .val (.int p5), .val (.int gv), .val (.int z0), .val (.int z1), .val (.ref aL), .val (.ref aU), .unset, .unset, .unset, .unset] [])) _
      refine XS.iconst X30.here hx rfl (hb hby at_95) ?_
      show Steps p.tables e below (T30.setTop (mkF m 96 #[.val (.int p1), .val (.int p2), .val (.int p3), .val (.int p4), .val (.int p5), .val (.int gv), .val (.int z0), .val (.int z1), .val (.ref aL), .val (.ref aU), .unset, .unset, .unset, .unset] [(.int (2 : Int32))])) _
      refine st31 _ ?_
      show Steps p.tables e below (T31.setTop (mkF m 98 #[.val (.int p1), .val (.int p2), .val (.int p3), .val (.int p4), .val (.int p5), .val (.int gv), .val (.int z0), .val (.int z1), .val (.ref aL), .val (.ref aU), .unset, .unset, .unset, .unset] [(.ref aV)])) _
      refine XS.dup X31.here hx rfl (hb hby at_98) rfl rfl ?_
      show Steps p.tables e below (T31.setTop (mkF m 99 #[.val (.int p1), .val (.int p2), .val (.int p3), .val (.int p4), .val (.int p5), .val (.int gv), .val (.int z0), .val (.int z1), .val (.ref aL), .val (.ref aU), .unset, .unset, .unset, .unset] [(.ref aV), (.ref aV)])) _
      refine XS.iconst X31.here hx rfl (hb hby at_99) ?_
      show Steps p.tables e below (T31.setTop (mkF m 100 #[.val (.int p1), .val (.int p2), .val (.int p3), .val (.int p4), .val (.int p5), .val (.int gv), .val (.int z0), .val (.int z1), .val (.ref aL), .val (.ref aU), .unset, .unset, .unset, .unset] [(.int (0 : Int32)), (.ref aV), (.ref aV)])) _
      refine XS.iloadN X31.here hx rfl (hb hby at_100) rfl ?_
      show Steps p.tables e below (T31.setTop (mkF m 101 #[.val (.int p1), .val (.int p2), .val (.int p3), .val (.int p4), .val (.int p5), .val (.int gv), .val (.int z0), .val (.int z1), .val (.ref aL), .val (.ref aU), .unset, .unset, .unset, .unset] [(.int p2), (.int (0 : Int32)), (.ref aV), (.ref aV)])) _
      refine XS.i2dS X31.here hx rfl (hb hby at_101) rfl rfl ?_
      show Steps p.tables e below (T31.setTop (mkF m 102 #[.val (.int p1), .val (.int p2), .val (.int p3), .val (.int p4), .val (.int p5), .val (.int gv), .val (.int z0), .val (.int z1), .val (.ref aL), .val (.ref aU), .unset, .unset, .unset, .unset] [(.double (FP.i2d p2)), (.int (0 : Int32)), (.ref aV), (.ref aV)])) _
      refine st32 _ ?_
      show Steps p.tables e below (T32.setTop (mkF m 103 #[.val (.int p1), .val (.int p2), .val (.int p3), .val (.int p4), .val (.int p5), .val (.int gv), .val (.int z0), .val (.int z1), .val (.ref aL), .val (.ref aU), .unset, .unset, .unset, .unset] [(.ref aV)])) _
      refine XS.dup X32.here hx rfl (hb hby at_103) rfl rfl ?_
      show Steps p.tables e below (T32.setTop (mkF m 104 #[.val (.int p1), .val (.int p2), .val (.int p3), .val (.int p4), .val (.int p5), .val (.int gv), .val (.int z0), .val (.int z1), .val (.ref aL), .val (.ref aU), .unset, .unset, .unset, .unset] [(.ref aV), (.ref aV)])) _
      refine XS.iconst X32.here hx rfl (hb hby at_104) ?_
      show Steps p.tables e below (T32.setTop (mkF m 105 #[.val (.int p1), .val (.int p2), .val (.int p3), .val (.int p4), .val (.int p5), .val (.int gv), .val (.int z0), .val (.int z1), .val (.ref aL), .val (.ref aU), .unset, .unset, .unset, .unset] [(.int (1 : Int32)), (.ref aV), (.ref aV)])) _
      refine XS.iloadN X32.here hx rfl (hb hby at_105) rfl ?_
      show Steps p.tables e below (T32.setTop (mkF m 106 #[.val (.int p1), .val (.int p2), .val (.int p3), .val (.int p4), .val (.int p5), .val (.int gv), .val (.int z0), .val (.int z1), .val (.ref aL), .val (.ref aU), .unset, .unset, .unset, .unset] [(.int p3), (.int (1 : Int32)), (.ref aV), (.ref aV)])) _
      refine XS.i2dS X32.here hx rfl (hb hby at_106) rfl rfl ?_
      show Steps p.tables e below (T32.setTop (mkF m 107 #[.val (.int p1), .val (.int p2), .val (.int p3), .val (.int p4), .val (.int p5), .val (.int gv), .val (.int z0), .val (.int z1), .val (.ref aL), .val (.ref aU), .unset, .unset, .unset, .unset] [(.double (FP.i2d p3)), (.int (1 : Int32)), (.ref aV), (.ref aV)])) _
      refine st33 _ ?_
      show Steps p.tables e below (T33.setTop (mkF m 108 #[.val (.int p1), .val (.int p2), .val (.int p3), .val (.int p4), .val (.int p5), .val (.int gv), .val (.int z0), .val (.int z1), .val (.ref aL), .val (.ref aU), .unset, .unset, .unset, .unset] [(.ref aV)])) _
      refine XS.astore X33.here hx rfl (hb hby at_108) rfl rfl (l' := #[.val (.int p1), .val (.int p2), .val (.int p3), .val (.int p4), .val (.int p5), .val (.int gv), .val (.int z0), .val (.int z1), .val (.ref aL), .val (.ref aU), .val (.ref aV), .unset, .unset, .unset]) rfl ?_
      show Steps p.tables e below (T33.setTop (mkF m 110 #[.val (.int p1), .val (.int p2), .val (.int p3), .val (.int p4), .val (.int p5), .val (.int gv), .val (.int z0), .val (.int z1), .val (.ref aL), .val (.ref aU), .val (.ref aV), .unset, .unset, .unset] [])) _
      refine st34 _ ?_
      show Steps p.tables e below (T34.setTop (mkF m 113 #[.val (.int p1), .val (.int p2), .val (.int p3), .val (.int p4), .val (.int p5), .val (.int gv), .val (.int z0), .val (.int z1), .val (.ref aL), .val (.ref aU), .val (.ref aV), .unset, .unset, .unset] [(.ref aB)])) _
      refine XS.dup X34.here hx rfl (hb hby at_113) rfl rfl ?_
      show Steps p.tables e below (T34.setTop (mkF m 114 #[.val (.int p1), .val (.int p2), .val (.int p3), .val (.int p4), .val (.int p5), .val (.int gv), .val (.int z0), .val (.int z1), .val (.ref aL), .val (.ref aU), .val (.ref aV), .unset, .unset, .unset] [(.ref aB), (.ref aB)])) _
      refine XS.aload X34.here hx rfl (hb hby at_114) rfl rfl ?_
      show Steps p.tables e below (T34.setTop (mkF m 116 #[.val (.int p1), .val (.int p2), .val (.int p3), .val (.int p4), .val (.int p5), .val (.int gv), .val (.int z0), .val (.int z1), .val (.ref aL), .val (.ref aU), .val (.ref aV), .unset, .unset, .unset] [(.ref aL), (.ref aB), (.ref aB)])) _
      refine XS.aload X34.here hx rfl (hb hby at_116) rfl rfl ?_
      show Steps p.tables e below (T34.setTop (mkF m 118 #[.val (.int p1), .val (.int p2), .val (.int p3), .val (.int p4), .val (.int p5), .val (.int gv), .val (.int z0), .val (.int z1), .val (.ref aL), .val (.ref aU), .val (.ref aV), .unset, .unset, .unset] [(.ref aV), (.ref aL), (.ref aB), (.ref aB)])) _
      refine XS.aload X34.here hx rfl (hb hby at_118) rfl rfl ?_
      show Steps p.tables e below (T34.setTop (mkF m 120 #[.val (.int p1), .val (.int p2), .val (.int p3), .val (.int p4), .val (.int p5), .val (.int gv), .val (.int z0), .val (.int z1), .val (.ref aL), .val (.ref aU), .val (.ref aV), .unset, .unset, .unset] [(.ref aU), (.ref aV), (.ref aL), (.ref aB), (.ref aB)])) _
      refine st35.trans ?_
      show Steps p.tables e below (T35.setTop (mkF m 123 #[.val (.int p1), .val (.int p2), .val (.int p3), .val (.int p4), .val (.int p5), .val (.int gv), .val (.int z0), .val (.int z1), .val (.ref aL), .val (.ref aU), .val (.ref aV), .unset, .unset, .unset] [(.ref aB)])) _
      refine XS.astore X35.here hx rfl (hb hby at_123) rfl rfl (l' := #[.val (.int p1), .val (.int p2), .val (.int p3), .val (.int p4), .val (.int p5), .val (.int gv), .val (.int z0), .val (.int z1), .val (.ref aL), .val (.ref aU), .val (.ref aV), .val (.ref aB), .unset, .unset]) rfl ?_
      show Steps p.tables e below (T35.setTop (mkF m 125 #[.val (.int p1), .val (.int p2), .val (.int p3), .val (.int p4), .val (.int p5), .val (.int gv), .val (.int z0), .val (.int z1), .val (.ref aL), .val (.ref aU), .val (.ref aV), .val (.ref aB), .unset, .unset] [])) _
      refine XS.aload X35.here hx rfl (hb hby at_125) rfl rfl ?_
      show Steps p.tables e below (T35.setTop (mkF m 127 #[.val (.int p1), .val (.int p2), .val (.int p3), .val (.int p4), .val (.int p5), .val (.int gv), .val (.int z0), .val (.int z1), .val (.ref aL), .val (.ref aU), .val (.ref aV), .val (.ref aB), .unset, .unset] [(.ref aB)])) _
      refine st36.trans ?_
      show Steps p.tables e below (T36.setTop (mkF m 130 #[.val (.int p1), .val (.int p2), .val (.int p3), .val (.int p4), .val (.int p5), .val (.int gv), .val (.int z0), .val (.int z1), .val (.ref aL), .val (.ref aU), .val (.ref aV), .val (.ref aB), .unset, .unset] [(.ref aV)])) _
      refine XS.astore X36.here hx rfl (hb hby at_130) rfl rfl (l' := #[.val (.int p1), .val (.int p2), .val (.int p3), .val (.int p4), .val (.int p5), .val (.int gv), .val (.int z0), .val (.int z1), .val (.ref aL), .val (.ref aU), .val (.ref aV), .val (.ref aB), .val (.ref aV), .unset]) rfl ?_
      show Steps p.tables e below (T36.setTop (mkF m 132 #[.val (.int p1), .val (.int p2), .val (.int p3), .val (.int p4), .val (.int p5), .val (.int gv), .val (.int z0), .val (.int z1), .val (.ref aL), .val (.ref aU), .val (.ref aV), .val (.ref aB), .val (.ref aV), .unset] [])) _
      refine XS.aload X36.here hx rfl (hb hby at_132) rfl rfl ?_
      show Steps p.tables e below (T36.setTop (mkF m 134 #[.val (.int p1), .val (.int p2), .val (.int p3), .val (.int p4), .val (.int p5), .val (.int gv), .val (.int z0), .val (.int z1), .val (.ref aL), .val (.ref aU), .val (.ref aV), .val (.ref aB), .val (.ref aV), .unset] [(.ref aB)])) _
      refine st37.trans ?_
      show Steps p.tables e below (T37.setTop (mkF m 137 #[.val (.int p1), .val (.int p2), .val (.int p3), .val (.int p4), .val (.int p5), .val (.int gv), .val (.int z0), .val (.int z1), .val (.ref aL), .val (.ref aU), .val (.ref aV), .val (.ref aB), .val (.ref aV), .unset] [(.ref aV)])) _
      refine XS.astore X37.here hx rfl (hb hby at_137) rfl rfl (l' := #[.val (.int p1), .val (.int p2), .val (.int p3), .val (.int p4), .val (.int p5), .val (.int gv), .val (.int z0), .val (.int z1), .val (.ref aL), .val (.ref aU), .val (.ref aV), .val (.ref aB), .val (.ref aV), .val (.ref aV)]) rfl ?_
      show Steps p.tables e below (T37.setTop (mkF m 139 #[.val (.int p1), .val (.int p2), .val (.int p3), .val (.int p4), .val (.int p5), .val (.int gv), .val (.int z0), .val (.int z1), .val (.ref aL), .val (.ref aU), .val (.ref aV), .val (.ref aB), .val (.ref aV), .val (.ref aV)] [])) _
      refine XS.aload X37.here hx rfl (hb hby at_139) rfl rfl ?_
      show Steps p.tables e below (T37.setTop (mkF m 141 #[.val (.int p1), .val (.int p2), .val (.int p3), .val (.int p4), .val (.int p5), .val (.int gv), .val (.int z0), .val (.int z1), .val (.ref aL), .val (.ref aU), .val (.ref aV), .val (.ref aB), .val (.ref aV), .val (.ref aV)] [(.ref aV)])) _
      refine XS.aload X37.here hx rfl (hb hby at_141) rfl rfl ?_
      show Steps p.tables e below (T37.setTop (mkF m 143 #[.val (.int p1), .val (.int p2), .val (.int p3), .val (.int p4), .val (.int p5), .val (.int gv), .val (.int z0), .val (.int z1), .val (.ref aL), .val (.ref aU), .val (.ref aV), .val (.ref aB), .val (.ref aV), .val (.ref aV)] [(.ref aV), (.ref aV)])) _
      refine XT.acmpNo X37.here hx rfl (hb hby at_143) rfl rfl rfl (decide_eq_false (fun q => q rfl)) ?_
      show Steps p.tables e below (T37.setTop (mkF m 146 #[.val (.int p1), .val (.int p2), .val (.int p3), .val (.int p4), .val (.int p5), .val (.int gv), .val (.int z0), .val (.int z1), .val (.ref aL), .val (.ref aU), .val (.ref aV), .val (.ref aB), .val (.ref aV), .val (.ref aV)] [])) _
      refine XS.aload X37.here hx rfl (hb hby at_146) rfl rfl ?_
      show Steps p.tables e below (T37.setTop (mkF m 148 #[.val (.int p1), .val (.int p2), .val (.int p3), .val (.int p4), .val (.int p5), .val (.int gv), .val (.int z0), .val (.int z1), .val (.ref aL), .val (.ref aU), .val (.ref aV), .val (.ref aB), .val (.ref aV), .val (.ref aV)] [(.ref aV)])) _
      refine XS.aload X37.here hx rfl (hb hby at_148) rfl rfl ?_
      show Steps p.tables e below (T37.setTop (mkF m 150 #[.val (.int p1), .val (.int p2), .val (.int p3), .val (.int p4), .val (.int p5), .val (.int gv), .val (.int z0), .val (.int z1), .val (.ref aL), .val (.ref aU), .val (.ref aV), .val (.ref aB), .val (.ref aV), .val (.ref aV)] [(.ref aV), (.ref aV)])) _
      refine XT.acmpNo X37.here hx rfl (hb hby at_150) rfl rfl rfl (decide_eq_false (fun q => q rfl)) ?_
      show Steps p.tables e below (T37.setTop (mkF m 153 #[.val (.int p1), .val (.int p2), .val (.int p3), .val (.int p4), .val (.int p5), .val (.int gv), .val (.int z0), .val (.int z1), .val (.ref aL), .val (.ref aU), .val (.ref aV), .val (.ref aB), .val (.ref aV), .val (.ref aV)] [])) _
      refine XS.iconst X37.here hx rfl (hb hby at_153) ?_
      show Steps p.tables e below (T37.setTop (mkF m 154 #[.val (.int p1), .val (.int p2), .val (.int p3), .val (.int p4), .val (.int p5), .val (.int gv), .val (.int z0), .val (.int z1), .val (.ref aL), .val (.ref aU), .val (.ref aV), .val (.ref aB), .val (.ref aV), .val (.ref aV)] [(.int (1 : Int32))])) _
      refine XS.goto X37.here hx rfl (pc0 := 154) (pc' := 158) rfl (hb hby at_154) (by decide) (by decide) ?_
      show Steps p.tables e below (T37.setTop (mkF m 158 #[.val (.int p1), .val (.int p2), .val (.int p3), .val (.int p4), .val (.int p5), .val (.int gv), .val (.int z0), .val (.int z1), .val (.ref aL), .val (.ref aU), .val (.ref aV), .val (.ref aB), .val (.ref aV), .val (.ref aV)] [(.int (1 : Int32))])) _
      exact retN X37 hx (t := .boolean) Bd.returns (by simp) (hb hby at_158) hr
    · show Q0 Z p1 p2 p3 p4 p5 h0 n0 _ T37.heap _
      exact ⟨rfl, M37⟩
set_option maxRecDepth 65536 in
set_option maxHeartbeats 40000000 in
theorem comes_1 {Post : Tables → Env → Array Value → State → Outcome → State → Prop} (hpost : ∀ tb e args s v u, (limb_1_1.after args s (.returned v) u = true ∧ limb_1_2.after args s (.returned v) u = true ∧ True) → FrameEnd s (.returned v) u (Jvm.fieldLocs frame_1_writes args s ++ Jvm.arrayLocs frame_1_arrays args s ++ Jvm.staticLocs frame_1_statics s) 24 128 → Post tb e args s (.returned v) u) :
    ArmFor flags0 classFile x code maxLocals ret World_1 tables_1 room_1 Calls_1 rest_1 Pre_1 Post := by
  intro l hfl _ _ p e ha hc hk s m args below hf hA hF happ hP
  obtain ⟨hcalls, hrest, hpre⟩ := hP
  obtain ⟨-, -, -, hnamed, -, -, -, hat⟩ := (Spec.applies_iff hf).mp happ
  obtain ⟨hg, hn⟩ := and_e (Cond.before_iff.mp (show (Jvm.Cond.and given_1 narrow_1).before args s = true from hpre))
  obtain ⟨h1, g0⟩ := and_e hg
  obtain ⟨q0, g1⟩ := and_e g0
  obtain ⟨q1, g2⟩ := and_e g1
  obtain ⟨q2, g3⟩ := and_e g2
  obtain ⟨q3, g4⟩ := and_e g3
  have q4 := g4
  obtain ⟨w0, w1, w2, w3, w4, rfl⟩ : ∃ w0 w1 w2 w3 w4 : Value, args = #[w0, w1, w2, w3, w4] := by
    have hs : args.size = 5 := by simpa [Cond.value, given_1] using h1
    obtain ⟨L⟩ := args
    match L, hs with
    | [w0, w1, w2, w3, w4], _ => exact ⟨w0, w1, w2, w3, w4, rfl⟩
  have hw := fun d (hd : d ∈ tables_1) => atoms_spec (ws := Jvm.Cond.code x code maxLocals ret :: tables_1) hat d (List.mem_cons_of_mem _ hd)
  obtain ⟨i0, v0⟩ := is_v q0
  obtain rfl : w0 = (.int i0) := Option.some.inj v0
  obtain ⟨i1, v1⟩ := is_v q1
  obtain rfl : w1 = (.int i1) := Option.some.inj v1
  obtain ⟨i2, v2⟩ := is_v q2
  obtain rfl : w2 = (.int i2) := Option.some.inj v2
  obtain ⟨i3, v3⟩ := is_v q3
  obtain rfl : w3 = (.int i3) := Option.some.inj v3
  obtain ⟨i4, v4⟩ := is_v q4
  obtain rfl : w4 = (.int i4) := Option.some.inj v4
  obtain ⟨n, o, h1, h2, h3, _, L, rfl, ⟨rfl, N⟩, hq⟩ := rm0 l s _ hw tables_1 i0 i1 i2 i3 i4 s.heap s.heap.size (Nat.le_refl _) p e ha hc hk s m _ below hf ((Spec.applies_iff_loose hf).mp happ).1 ⟨rfl, State.Warmed39.refl s, rfl⟩ trivial
  refine ⟨n, _, h1, h2, h3, hpost _ _ _ _ _ _ ⟨Cond.after_iff.mpr rfl, Cond.after_iff.mpr (eq_i res_at (Term.int_eval (1)) rfl), trivial⟩ ⟨hq.1, hq.2.1, (hq.2.2.sift fun y hy => Or.inr (N y hy)).mono (by decide) (by decide)⟩⟩
theorem main_1_1 : Claimed_1_1 := comes_1 fun _ _ _ _ _ _ h hF => ⟨h.1, hF⟩
theorem main_1_2 : Claimed_1_2 := comes_1 fun _ _ _ _ _ _ h hF => ⟨h.2.1, hF⟩
end Jvm.Pilot.@@N@@
namespace Jvm.Pilot.@@N@@
open Jvm Jvm.ClassFile Sem Op Lib Jvm.Free Jvm.Stand Jvm.Pilot.@@N@@.Jvm.D
/-! MADE BY PROGRAM (witnessworld.py) out of the Statement's table words and the real class files: 11 classes; the members and pool entries that the words name. The judged class is class 1, her method 4. -/
namespace start1
open Jvm.ClassFile
def u (s : String) : CpInfo := .utf8 (stringToUtf16 s)
/-- a pool by its gaps: so many unusable entries, then the entry; so many at the end -/
def gap : Nat → List CpInfo → List CpInfo
  | 0, r => r
  | n + 1, r => .unusable :: gap n r
def poolList (es : List (Nat × CpInfo)) (last : Nat) : List CpInfo := es.foldr (fun e r => gap e.1 (e.2 :: r)) (gap last [])
def pool (es : List (Nat × CpInfo)) (last : Nat) : Array CpInfo := ⟨poolList es last⟩
def fileOf (pool : Array CpInfo) (this : Nat) (attrs : Array Attribute := #[]) (ms : Array MethodInfo := #[]) (fl : Nat := 33) (sup : Nat := 0) (ifs : Array Nat := #[]) (fds : Array FieldInfo := #[]) : ClassFile where
  minorVersion := 0
  majorVersion := 65
  constantPool := pool
  accessFlags := fl
  thisClass := this
  superClass := sup
  interfaces := ifs
  fields := fds
  methods := ms
  attributes := attrs
def plain (name : String) (sup : Option ClassId) : Class where
  name := name
  kind := .ordinary
  loader := none
  accessFlags := 33
  super := sup
  interfaces := #[]
  cf := none
  fields := #[]
  methods := #[]
  instanceTypes := #[]
  staticTypes := #[]
  resolved := #[]
  callSites := []
  init := .initialized
  statics := none
  mirror := none

def pool0 : Array CpInfo := pool [(5, u "<init>"), (0, u "()V"), (1, .class_ 10), (1, u "java/lang/Object")] 113

def k0c0 : Code := { maxStack := 0, maxLocals := 1, code := object_method_1_code, exceptionTable := #[], attributes := #[] }
def k0m0 : Method := { name := "<init>", desc := "()V", sig := { parameters := [], returnType := none }, accessFlags := 1, code := some k0c0 }
/-- java/lang/Object -/
def k0 : Class := { plain "java/lang/Object" none with
  accessFlags := 33
  interfaces := #[]
  cf := some (fileOf pool0 8 #[] #[{ accessFlags := 1, nameIndex := 5, descriptorIndex := 6, attributes := #[] }] 33 0 #[] #[])
  fields := #[]
  methods := #[k0m0]
  instanceTypes := #[]
  staticTypes := #[]
  resolved := Array.replicate 124 none
  statics := none }

def pool1 : Array CpInfo := pool [(2, .class_ 4), (1, u "java/lang/Object"), (0, u "<init>"), (0, u "()V"), (0, .double 9124292845052624896), (1, .double 4602678819172646912), (1, .methodref 12 13), (0, .class_ 14), (0, .nameAndType 15 16), (0, u "com/example/umbel/umbel/check/ValueBoundsValuesPinLaw"), (0, u "lo"), (0, u "(IZ)D"), (0, .methodref 12 18), (0, .nameAndType 19 20), (0, u "hi"), (0, u "(IIZ)D"), (0, .class_ 22), (0, u "com/example/umbel/umbel/check/ValueBounds"), (0, .methodref 21 24), (0, .nameAndType 5 25), (0, u "([D[D[D)V"), (0, .methodref 21 27), (0, .nameAndType 28 29), (0, u "values"), (0, u "()[D"), (2, .methodref 12 33), (0, .nameAndType 34 20), (0, u "expected"), (3, u "law"), (0, u "(IIIII)Z")] 2

def k1m0 : Method := { name := "<init>", desc := "()V", sig := { parameters := [], returnType := none }, accessFlags := 2, code := none }
def k1c1 : Code := { maxStack := 4, maxLocals := 2, code := method_2_code, exceptionTable := #[], attributes := #[] }
def k1m1 : Method := { name := "lo", desc := "(IZ)D", sig := { parameters := [.int, .boolean], returnType := some .double }, accessFlags := 10, code := some k1c1 }
def k1c2 : Code := { maxStack := 4, maxLocals := 3, code := method_3_code, exceptionTable := #[], attributes := #[] }
def k1m2 : Method := { name := "hi", desc := "(IIZ)D", sig := { parameters := [.int, .int, .boolean], returnType := some .double }, accessFlags := 10, code := some k1c2 }
def k1c3 : Code := { maxStack := 4, maxLocals := 7, code := method_4_code, exceptionTable := #[], attributes := #[] }
def k1m3 : Method := { name := "expected", desc := "(IIZ)D", sig := { parameters := [.int, .int, .boolean], returnType := some .double }, accessFlags := 10, code := some k1c3 }
def k1c4 : Code := { maxStack := 6, maxLocals := 14, code := code, exceptionTable := #[], attributes := #[] }
def k1m4 : Method := { name := "law", desc := "(IIIII)Z", sig := { parameters := [.int, .int, .int, .int, .int], returnType := some .boolean }, accessFlags := 9, code := some k1c4 }
/-- com/example/umbel/umbel/check/ValueBoundsValuesPinLaw -/
def k1 : Class := { plain "com/example/umbel/umbel/check/ValueBoundsValuesPinLaw" (some 0) with
  accessFlags := 49
  interfaces := #[]
  cf := some (fileOf pool1 12 #[] #[{ accessFlags := 2, nameIndex := 5, descriptorIndex := 6, attributes := #[] }, { accessFlags := 10, nameIndex := 15, descriptorIndex := 16, attributes := #[] }, { accessFlags := 10, nameIndex := 19, descriptorIndex := 20, attributes := #[] }, { accessFlags := 10, nameIndex := 34, descriptorIndex := 20, attributes := #[] }, { accessFlags := 9, nameIndex := 38, descriptorIndex := 39, attributes := #[] }] 49 2 #[] #[])
  fields := #[]
  methods := #[k1m0, k1m1, k1m2, k1m3, k1m4]
  instanceTypes := #[]
  staticTypes := #[]
  resolved := Array.replicate 42 none
  statics := none }

def pool2 : Array CpInfo := pool [(2, .class_ 4), (1, u "com/example/umbel/umbel/check/ValueBounds"), (0, u "<init>"), (0, u "([D[D[D)V"), (0, .methodref 8 9), (0, .class_ 10), (0, .nameAndType 5 11), (0, u "java/lang/Object"), (0, u "()V"), (0, .fieldref 2 13), (0, .nameAndType 14 15), (0, u "lower"), (0, u "[D"), (0, .fieldref 2 17), (0, .nameAndType 18 15), (0, u "values"), (0, .fieldref 2 20), (0, .nameAndType 21 15), (0, u "upper"), (0, .double 4611686018427387904), (33, u "()[D")] 43

def k2c0 : Code := { maxStack := 2, maxLocals := 4, code := prog_20_method_2_code, exceptionTable := #[], attributes := #[] }
def k2m0 : Method := { name := "<init>", desc := "([D[D[D)V", sig := { parameters := [(.array .double), (.array .double), (.array .double)], returnType := none }, accessFlags := 0, code := some k2c0 }
def k2c1 : Code := { maxStack := 6, maxLocals := 3, code := prog_20_method_5_code, exceptionTable := #[], attributes := #[] }
def k2m1 : Method := { name := "values", desc := "()[D", sig := { parameters := [], returnType := some (.array .double) }, accessFlags := 1, code := some k2c1 }
/-- com/example/umbel/umbel/check/ValueBounds -/
def k2 : Class := { plain "com/example/umbel/umbel/check/ValueBounds" (some 0) with
  accessFlags := 33
  interfaces := #[]
  cf := some (fileOf pool2 2 #[] #[{ accessFlags := 0, nameIndex := 5, descriptorIndex := 6, attributes := #[] }, { accessFlags := 1, nameIndex := 18, descriptorIndex := 56, attributes := #[] }] 33 8 #[] #[{ accessFlags := 18, nameIndex := 14, descriptorIndex := 15, attributes := #[] }, { accessFlags := 18, nameIndex := 18, descriptorIndex := 15, attributes := #[] }, { accessFlags := 18, nameIndex := 21, descriptorIndex := 15, attributes := #[] }])
  fields := #[{ name := "lower", type := (.array .double), accessFlags := 18, slot := 0, constantValue := 0 }, { name := "values", type := (.array .double), accessFlags := 18, slot := 1, constantValue := 0 }, { name := "upper", type := (.array .double), accessFlags := 18, slot := 2, constantValue := 0 }]
  methods := #[k2m0, k2m1]
  instanceTypes := #[(.array .double), (.array .double), (.array .double)]
  staticTypes := #[]
  resolved := Array.replicate 100 none
  statics := none }

def pool3 : Array CpInfo := pool [(1, u "java/lang/Cloneable"), (0, .class_ 1), (0, u "java/lang/Object"), (0, .class_ 3)] 3

/-- java/lang/Cloneable -/
def k3 : Class := { plain "java/lang/Cloneable" (some 0) with
  accessFlags := 1537
  interfaces := #[]
  cf := some (fileOf pool3 2 #[] #[] 1537 4 #[] #[])
  fields := #[]
  methods := #[]
  instanceTypes := #[]
  staticTypes := #[]
  resolved := Array.replicate 8 none
  statics := none }

def pool4 : Array CpInfo := pool [(1, u "java/io/Serializable"), (0, .class_ 1), (0, u "java/lang/Object"), (0, .class_ 3)] 3

/-- java/io/Serializable -/
def k4 : Class := { plain "java/io/Serializable" (some 0) with
  accessFlags := 1537
  interfaces := #[]
  cf := some (fileOf pool4 2 #[] #[] 1537 4 #[] #[])
  fields := #[]
  methods := #[]
  instanceTypes := #[]
  staticTypes := #[]
  resolved := Array.replicate 8 none
  statics := none }

/-- the primitive byte -/
def k5 : Class := { plain "byte" none with kind := .primitive 'B', accessFlags := 0x411 }
/-- [B -/
def k6 : Class := { plain "[B" (some 0) with kind := .array 5 .byte, interfaces := #[3, 4], accessFlags := 1041 }

/-- the primitive double -/
def k7 : Class := { plain "double" none with kind := .primitive 'D', accessFlags := 0x411 }
/-- [D -/
def k8 : Class := { plain "[D" (some 0) with kind := .array 7 .double, interfaces := #[3, 4], accessFlags := 1041 }

/-- the primitive int -/
def k9 : Class := { plain "int" none with kind := .primitive 'I', accessFlags := 0x411 }
/-- [I -/
def k10 : Class := { plain "[I" (some 0) with kind := .array 9 .int, interfaces := #[3, 4], accessFlags := 1041 }

def heap : Heap := #[]
def classes : Array Class := #[k0, k1, k2, k3, k4, k5, k6, k7, k8, k9, k10]
def interned : List (Array UInt16 × Addr) := []
def slotsUsed : Nat := 0
def theMethod : MethodId := ⟨1, 4⟩
def args0 : Array Value := #[.int 5, .int 7, .int 1, .int 2, .int 0]
def aboutOver (below : List Frame) : State where
  vm := { classes := classes, interned := interned.toArray }
  heap := heap
  slotsUsed := slotsUsed
  threads := #[{ frames := .invoking theMethod args0 :: below }]
def below0 : List Frame := [.native { method := ⟨0, 0⟩, args := #[] }]
def about1 : State := aboutOver below0
def p0 : Program := .bare "" "" ""
def e0 : Env := launch0.env 0 0 0
theorem w_frames : about1.frames = Frame.invoking theMethod args0 :: below0 := rfl
set_option maxRecDepth 65536 in
theorem w_args : argsFit about1.vm theMethod args0 = true := by decide +kernel
set_option maxRecDepth 65536 in
theorem w_heap : heapFits about1 = true := by decide +kernel
set_option maxRecDepth 65536 in
theorem w_runnable : about1.curStatus? = some .runnable := by decide +kernel
set_option maxRecDepth 65536 in
theorem w_alone : about1.alone = true := by decide +kernel
set_option maxRecDepth 65536 in
theorem w_named : about1.methodNamed? x = some theMethod := by decide +kernel
set_option maxRecDepth 65536 in
theorem w_hears : about1.hears theMethod below0 = true := by decide +kernel
set_option maxRecDepth 65536 in
theorem w_ripe : about1.ripe theMethod args0 below0 = true := by decide +kernel
theorem w_running : about1.status = .running := rfl
set_option maxRecDepth 65536 in
theorem w_room : about1.hasRoom e0.platform room_1 = true :=
  launch0.hasRoom_least _ room_1 (by decide +kernel) (by decide +kernel) (by decide +kernel) (by decide +kernel) (by decide +kernel) (by decide +kernel)
theorem allAtoms_all (ts : List Jvm.Cond) (a : Array Jvm.Value) (st : Jvm.State) : (allAtoms ts).before a st = ts.all (fun c => c.before a st) := by
  induction ts with
  | nil => rfl
  | cons c t ih =>
    show (Jvm.Cond.and c (allAtoms t)).before a st = _
    rw [Jvm.Cond.before_and, ih, List.all_cons]
def words1 : List Jvm.Cond := Jvm.Cond.code x code maxLocals ret :: tables_1
/-- a 'code' word, met by the world's own term for the bytes: nothing is compared byte by byte -/
theorem code_word {y : MethodName} {bytes : ByteArray} {mx : Nat} {rt : Option FieldType} {a : Array Value} {s : State} {m : MethodId} {meth : Method} {c : Code} (h1 : s.methodNamed? y = some m) (h2 : s.vm.method? m = some meth) (h3 : meth.code = some c) (h4 : c.code = bytes)
    (h5 : (c.maxLocals == mx && c.exceptionTable.isEmpty && decide (c.maxStack ≤ mostOperands) && decide (meth.sig.returnType = rt) && !meth.locks && decide (parseMethodDescriptor y.desc = some meth.sig)) = true) : (Jvm.Cond.code y bytes mx rt).before a s = true := by
  simp only [Bool.and_eq_true, beq_iff_eq, Bool.not_eq_true', decide_eq_true_eq] at h5
  obtain ⟨⟨⟨⟨⟨g1, g2⟩, g3⟩, g4⟩, g5⟩, g6⟩ := h5
  simp [Cond.before, Cond.holds, Cond.value, h1, h2, h3, h4, g1, g2, g3, g4, g5, g6]
def isCode : Jvm.Cond → Bool
  | .code _ _ _ _ => true
  | _ => false
theorem all_split {L : List Jvm.Cond} {P : Jvm.Cond → Bool} (h1 : L.all (fun c => isCode c || P c) = true) (h2 : ∀ c ∈ L.filter isCode, P c = true) : L.all P = true := by
  refine List.all_eq_true.mpr fun c hc => ?_
  have h := List.all_eq_true.mp h1 c hc
  rcases Bool.eq_false_or_eq_true (isCode c) with hi | hi
  · exact h2 c (List.mem_filter.mpr ⟨hc, hi⟩)
  · simpa [hi] using h
set_option maxRecDepth 65536 in
theorem w_c0 : (Jvm.Cond.code x code maxLocals ret).before args0 about1 = true := code_word (m := ⟨1, 4⟩) (meth := k1m4) (c := k1c4) (by decide +kernel) rfl rfl rfl (by decide +kernel)
set_option maxRecDepth 65536 in
theorem w_c1 : (Jvm.Cond.code ({ cls := "com/example/umbel/umbel/check/ValueBoundsValuesPinLaw", name := "lo", desc := "(IZ)D" } : Jvm.MethodName) method_2_code (2 : Nat) (Option.some Jvm.ClassFile.FieldType.double)).before args0 about1 = true := code_word (m := ⟨1, 1⟩) (meth := k1m1) (c := k1c1) (by decide +kernel) rfl rfl rfl (by decide +kernel)
set_option maxRecDepth 65536 in
theorem w_c2 : (Jvm.Cond.code ({ cls := "com/example/umbel/umbel/check/ValueBoundsValuesPinLaw", name := "hi", desc := "(IIZ)D" } : Jvm.MethodName) method_3_code (3 : Nat) (Option.some Jvm.ClassFile.FieldType.double)).before args0 about1 = true := code_word (m := ⟨1, 2⟩) (meth := k1m2) (c := k1c2) (by decide +kernel) rfl rfl rfl (by decide +kernel)
set_option maxRecDepth 65536 in
theorem w_c3 : (Jvm.Cond.code ({ cls := "com/example/umbel/umbel/check/ValueBounds", name := "<init>", desc := "([D[D[D)V" } : Jvm.MethodName) prog_20_method_2_code (4 : Nat) (Option.none : Option Jvm.ClassFile.FieldType)).before args0 about1 = true := code_word (m := ⟨2, 0⟩) (meth := k2m0) (c := k2c0) (by decide +kernel) rfl rfl rfl (by decide +kernel)
set_option maxRecDepth 65536 in
theorem w_c4 : (Jvm.Cond.code ({ cls := "java/lang/Object", name := "<init>", desc := "()V" } : Jvm.MethodName) object_method_1_code (1 : Nat) (Option.none : Option Jvm.ClassFile.FieldType)).before args0 about1 = true := code_word (m := ⟨0, 0⟩) (meth := k0m0) (c := k0c0) (by decide +kernel) rfl rfl rfl (by decide +kernel)
set_option maxRecDepth 65536 in
theorem w_c5 : (Jvm.Cond.code ({ cls := "com/example/umbel/umbel/check/ValueBounds", name := "values", desc := "()[D" } : Jvm.MethodName) prog_20_method_5_code (3 : Nat) (Option.some (Jvm.ClassFile.FieldType.array Jvm.ClassFile.FieldType.double))).before args0 about1 = true := code_word (m := ⟨2, 1⟩) (meth := k2m1) (c := k2c1) (by decide +kernel) rfl rfl rfl (by decide +kernel)
set_option maxRecDepth 65536 in
theorem w_c6 : (Jvm.Cond.code ({ cls := "com/example/umbel/umbel/check/ValueBoundsValuesPinLaw", name := "expected", desc := "(IIZ)D" } : Jvm.MethodName) method_4_code (7 : Nat) (Option.some Jvm.ClassFile.FieldType.double)).before args0 about1 = true := code_word (m := ⟨1, 3⟩) (meth := k1m3) (c := k1c3) (by decide +kernel) rfl rfl rfl (by decide +kernel)
def codes1 : List Jvm.Cond := [Jvm.Cond.code x code maxLocals ret, Jvm.Cond.code ({ cls := "com/example/umbel/umbel/check/ValueBoundsValuesPinLaw", name := "lo", desc := "(IZ)D" } : Jvm.MethodName) method_2_code (2 : Nat) (Option.some Jvm.ClassFile.FieldType.double), Jvm.Cond.code ({ cls := "com/example/umbel/umbel/check/ValueBoundsValuesPinLaw", name := "hi", desc := "(IIZ)D" } : Jvm.MethodName) method_3_code (3 : Nat) (Option.some Jvm.ClassFile.FieldType.double), Jvm.Cond.code ({ cls := "com/example/umbel/umbel/check/ValueBounds", name := "<init>", desc := "([D[D[D)V" } : Jvm.MethodName) prog_20_method_2_code (4 : Nat) (Option.none : Option Jvm.ClassFile.FieldType), Jvm.Cond.code ({ cls := "java/lang/Object", name := "<init>", desc := "()V" } : Jvm.MethodName) object_method_1_code (1 : Nat) (Option.none : Option Jvm.ClassFile.FieldType), Jvm.Cond.code ({ cls := "com/example/umbel/umbel/check/ValueBounds", name := "values", desc := "()[D" } : Jvm.MethodName) prog_20_method_5_code (3 : Nat) (Option.some (Jvm.ClassFile.FieldType.array Jvm.ClassFile.FieldType.double)), Jvm.Cond.code ({ cls := "com/example/umbel/umbel/check/ValueBoundsValuesPinLaw", name := "expected", desc := "(IIZ)D" } : Jvm.MethodName) method_4_code (7 : Nat) (Option.some Jvm.ClassFile.FieldType.double)]
set_option maxRecDepth 65536 in
theorem codes_eq : words1.filter isCode = codes1 := rfl
theorem w_codes : ∀ c ∈ words1.filter isCode, c.before args0 about1 = true := by
  rw [codes_eq]
  intro c hc
  simp only [codes1, List.mem_cons, List.not_mem_nil, or_false] at hc
  rcases hc with rfl | rfl | rfl | rfl | rfl | rfl | rfl
  · exact w_c0
  · exact w_c1
  · exact w_c2
  · exact w_c3
  · exact w_c4
  · exact w_c5
  · exact w_c6
set_option maxRecDepth 65536 in
theorem w_t1 : (words1.take 24).all (fun c => isCode c || c.before args0 about1) = true := by decide +kernel
set_option maxRecDepth 65536 in
theorem w_t2 : (words1.drop 24).all (fun c => isCode c || c.before args0 about1) = true := by decide +kernel
theorem w_tables : (allAtoms (Jvm.Cond.code x code maxLocals ret :: tables_1)).before args0 about1 = true := by
  rw [allAtoms_all]
  show words1.all (fun c => c.before args0 about1) = true
  refine all_split ?_ w_codes
  rw [← List.take_append_drop 24 words1, List.all_append, w_t1, w_t2]
  rfl
set_option maxRecDepth 65536 in
theorem w_case : (Jvm.Cond.and given_1 narrow_1).before args0 about1 = true := by decide +kernel
theorem w_applies : (headSpec (Jvm.Cond.code x code maxLocals ret :: tables_1) room_1).applies x e0.platform about1 = true :=
  (Spec.applies_iff w_frames).mpr ⟨w_running, w_runnable, w_alone, w_named, w_hears, w_ripe, w_room, w_tables⟩
theorem atStart : AtStart classFile x code maxLocals ret World_1 tables_1 room_1 Calls_1 rest_1 Pre_1 launch0 p0 e0 about1 theMethod args0 below0 :=
  ⟨lists_1, trivial, launch0.admits_env _ _ _, launch0.least_env, fairChoices_fair.cas, fairChoices_fair.clock, w_frames, w_args, w_heap, w_applies, trivial, trivial, w_case⟩
end start1
theorem witness_1 : WitnessClaimed_1 := ⟨start1.p0, start1.e0, start1.about1, start1.theMethod, start1.args0, start1.below0, start1.atStart⟩
end Jvm.Pilot.@@N@@
