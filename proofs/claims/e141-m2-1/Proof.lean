import JvmDerived
import JvmDerived.Pilot.@@N@@Statement
import JvmDerived.Pilot.@@N@@Code
set_option linter.unusedVariables false
set_option linter.unusedSimpArgs false
namespace Jvm.Pilot.@@N@@
open Jvm Jvm.ClassFile Sem Op Lib Jvm.Free Jvm.Stand Jvm.LawKit Jvm.RoadKit Bundle Jvm.Pilot.@@N@@.Jvm.D
/-! ## the plain law: doubles that are whole numbers of halves, of quarters .. -/
/-- the datum times 2 ^ k -/
def own_shift (k : Int) : FP.Core.Datum → FP.Core.Datum
  | .fin s c q => .fin s c (q + k)
  | .inf s => .inf s
  | .nan => .nan
/-- `x` is `i / 2 ^ k` exactly -/
def own_Dy (k : Nat) (i : Int) (x : UInt64) : Prop := FP.Core.Whole i (own_shift k (FP.Core.val64 x))
theorem own_Dy_shape {k : Nat} {i : Int} {x : UInt64} (h : own_Dy k i x) : ∃ s c q, FP.Core.val64 x = .fin s c q ∧ FP.Core.Whole i (.fin s c (q + k)) := by
  unfold own_Dy at h
  cases hv : FP.Core.val64 x with
  | nan => rw [hv] at h; exact h.elim
  | inf s => rw [hv] at h; exact h.elim
  | fin s c q => rw [hv] at h; exact ⟨s, c, q, rfl, h⟩
theorem own_Dy_intro {k : Nat} {i : Int} {x : UInt64} {s : Bool} {c : Nat} {q : Int} (hv : FP.Core.val64 x = .fin s c q) (h : FP.Core.Whole i (.fin s c (q + k))) : own_Dy k i x := by
  unfold own_Dy; rw [hv]; exact h
theorem own_Dy_fin {k : Nat} {i : Int} {x : UInt64} (h : own_Dy k i x) : Fl.Fin64 x := by
  obtain ⟨s, c, q, hv, -⟩ := own_Dy_shape h
  exact Fl.fin64_core.mpr ⟨s, c, q, hv⟩
theorem own_Dy_nn {k : Nat} {i : Int} {x : UInt64} (h : own_Dy k i x) : Fl.NoNaN64 x := (own_Dy_fin h).noNaN
theorem own_Dy_int {i : Int} {x : UInt64} (h : FP.Core.DInt i x) : own_Dy 0 i x := by
  unfold FP.Core.DInt at h
  cases hv : FP.Core.val64 x with
  | nan => rw [hv] at h; exact h.elim
  | inf s => rw [hv] at h; exact h.elim
  | fin s c q =>
    rw [hv] at h
    refine own_Dy_intro hv ?_
    rw [show q + ((0 : Nat) : Int) = q by omega]; exact h
theorem own_Dy_up {k : Nat} {i : Int} {x : UInt64} (h : own_Dy k i x) : own_Dy (k + 1) (2 * i) x := by
  obtain ⟨s, c, q, hv, hw⟩ := own_Dy_shape h
  refine own_Dy_intro hv ?_
  rw [show q + ((k + 1 : Nat) : Int) = (q + k) + 1 by omega]
  generalize q + (k : Int) = r at hw ⊢
  have hw' : FP.Core.signed s (c * 2 ^ r.toNat) = i * ((2 ^ (-r).toNat : Nat) : Int) := hw
  show FP.Core.signed s (c * 2 ^ (r + 1).toNat) = 2 * i * ((2 ^ (-(r + 1)).toNat : Nat) : Int)
  by_cases hr : 0 ≤ r
  · rw [show (r + 1).toNat = r.toNat + 1 by omega, Nat.pow_succ, ← Nat.mul_assoc, FP.Core.signed_mul, hw', show (-r).toNat = 0 by omega, show (-(r + 1)).toNat = 0 by omega]
    omega
  · rw [show (-r).toNat = (-(r + 1)).toNat + 1 by omega, show r.toNat = 0 by omega, Nat.pow_succ, Int.natCast_mul] at hw'
    rw [show (r + 1).toNat = 0 by omega, hw', ← Int.mul_assoc, Int.mul_comm (i * _) _, ← Int.mul_assoc]
    rfl
theorem own_order_shift (k : Int) (a b : FP.Core.Datum) : FP.Core.order (own_shift k a) (own_shift k b) = FP.Core.order a b := by
  cases a with
  | nan => rfl
  | inf s => cases b <;> rfl
  | fin s c q =>
    cases b with
    | nan => rfl
    | inf t => rfl
    | fin t d r =>
      show some (compare (FP.Core.signed s (c * 2 ^ (q + k - min (q + k) (r + k)).toNat)) (FP.Core.signed t (d * 2 ^ (r + k - min (q + k) (r + k)).toNat))) = some (compare (FP.Core.signed s (c * 2 ^ (q - min q r).toNat)) (FP.Core.signed t (d * 2 ^ (r - min q r).toNat)))
      rw [show (q + k - min (q + k) (r + k)).toNat = (q - min q r).toNat by omega, show (r + k - min (q + k) (r + k)).toNat = (r - min q r).toNat by omega]
theorem own_Dy_cmp {k : Nat} {i j : Int} {x y : UInt64} (hx : own_Dy k i x) (hy : own_Dy k j y) : FP.dcmp x y = some (compare i j) := by
  show FP.Core.order (FP.Core.val64 x) (FP.Core.val64 y) = _
  rw [← own_order_shift k]
  exact FP.Core.order_whole hx hy
/-- what a comparison of two such doubles pushes -/
theorem own_cmp {k : Nat} {i j : Int} {x y : UInt64} (hx : own_Dy k i x) (hy : own_Dy k j y) (o : CmpOp) : cmpValue (FP.dcmp x y) o = if i < j then -1 else if i = j then 0 else 1 := by
  rw [own_Dy_cmp hx hy, FP.Core.compare_ite]
  by_cases h1 : i < j
  · rw [if_pos h1, if_pos h1]; rfl
  · rw [if_neg h1, if_neg h1]
    by_cases h2 : i = j
    · rw [if_pos h2, if_pos h2]; rfl
    · rw [if_neg h2, if_neg h2]; rfl
theorem own_sum_shift (k : Int) {s t : Bool} {c d : Nat} {q r : Int} : FP.Core.exactSum (own_shift k (.fin s c q)) (own_shift k (.fin t d r)) = own_shift k (FP.Core.exactSum (.fin s c q) (.fin t d r)) := by
  have h : FP.Core.sumUnits s c (q + k) t d (r + k) (min (q + k) (r + k)) = FP.Core.sumUnits s c q t d r (min q r) := by
    show FP.Core.signed s (c * 2 ^ (q + k - min (q + k) (r + k)).toNat) + FP.Core.signed t (d * 2 ^ (r + k - min (q + k) (r + k)).toNat) = FP.Core.signed s (c * 2 ^ (q - min q r).toNat) + FP.Core.signed t (d * 2 ^ (r - min q r).toNat)
    rw [show (q + k - min (q + k) (r + k)).toNat = (q - min q r).toNat by omega, show (r + k - min (q + k) (r + k)).toNat = (r - min q r).toNat by omega]
  show FP.Core.Datum.fin (FP.Core.sumSign s t (FP.Core.sumUnits s c (q + k) t d (r + k) (min (q + k) (r + k)))) (FP.Core.sumUnits s c (q + k) t d (r + k) (min (q + k) (r + k))).natAbs (min (q + k) (r + k)) = FP.Core.Datum.fin (FP.Core.sumSign s t (FP.Core.sumUnits s c q t d r (min q r))) (FP.Core.sumUnits s c q t d r (min q r)).natAbs (min q r + k)
  rw [h, show min (q + k) (r + k) = min q r + k by omega]
/-- rounding keeps such a number, if it has at most 53 digits -/
theorem own_round {k : Nat} (hk : k ≤ 64) {i : Int} (hi : i.natAbs ≤ 2 ^ 53) {s : Bool} {c : Nat} {q : Int} (h : FP.Core.Whole i (.fin s c (q + k))) : ∃ c' q', FP.Core.round FP.Core.b64 (.fin s c q) = .fin s c' q' ∧ FP.Core.Whole i (.fin s c' (q' + k)) := by
  by_cases h0 : i = 0
  · have hc : c = 0 := (FP.Core.whole_zero h).mpr h0
    subst hc h0
    refine ⟨0, FP.Core.b64.qmin, rfl, ?_⟩
    show FP.Core.signed s (0 * _) = 0 * _
    rw [Nat.zero_mul, Int.zero_mul]; exact FP.Core.signed_zero s
  · have hs := FP.Core.whole_sign h h0
    have hn := FP.Core.whole_natAbs h
    obtain ⟨c', q', hf, hv⟩ := FP.Core.natFit FP.Core.good_b64 FP.Core.wide_b64 s (n := i.natAbs) hi
    have e0 : FP.Core.round FP.Core.b64 (.fin s c q) = FP.Core.roundRatio FP.Core.b64 s i.natAbs 1 (-(k : Int)) := by
      refine FP.Core.roundRatio_congr (by decide) (by decide) ?_
      rw [show (q - -(k : Int)).toNat = (q + k).toNat by congr 1; omega, show (-(k : Int) - q).toNat = (-(q + k)).toNat by congr 1; omega]
      simpa using hn
    rw [show (0 - q').toNat = (-q').toNat by congr 1; omega, show (q' - 0).toNat = q'.toNat by congr 1; omega, Nat.mul_one] at hv
    obtain ⟨f1, f2, f3, f4⟩ := hf
    have f1' : c' < 2 ^ 53 := f1
    have f2' : -1074 ≤ q' := f2
    have f3' : q' ≤ 971 := f3
    have hq : -53 < q' := by
      refine Int.lt_of_not_ge fun hge => ?_
      rw [show q'.toNat = 0 by omega, Nat.pow_zero, Nat.mul_one] at hv
      have p1 : 2 ^ 53 ≤ 2 ^ (-q').toNat := Nat.pow_le_pow_right (by decide) (by omega)
      have p2 : 1 * 2 ^ (-q').toNat ≤ i.natAbs * 2 ^ (-q').toNat := Nat.mul_le_mul_right _ (by omega)
      omega
    have f4' : FP.Core.b64.tails ≤ c' := by
      rcases f4 with f4 | f4
      · have : q' = -1074 := f4
        omega
      · exact f4
    have hf' : FP.Core.fits FP.Core.b64 (.fin s c' (q' - k)) := ⟨f1, by show (-1074 : Int) ≤ q' - k; omega, by show q' - (k : Int) ≤ 971; omega, Or.inr f4'⟩
    refine ⟨c', q' - k, ?_, ?_⟩
    · rw [e0]
      refine FP.Core.roundRatio_exact FP.Core.good_b64 (by decide) hf' ?_
      rw [show (-(k : Int) - (q' - k)).toNat = (-q').toNat by congr 1; omega, show (q' - (k : Int) - -(k : Int)).toNat = q'.toNat by congr 1; omega, Nat.mul_one]
      exact hv
    · rw [show q' - (k : Int) + k = q' by omega]
      show FP.Core.signed s (c' * 2 ^ q'.toNat) = i * ((2 ^ (-q').toNat : Nat) : Int)
      rw [← hv, FP.Core.signed_mul, hs]
      congr 1
      unfold FP.Core.signed
      by_cases hneg : i < 0
      · simp [hneg]; omega
      · simp [hneg]; omega
theorem own_Dy_add {k : Nat} (hk : k ≤ 64) {i j : Int} {x y : UInt64} (hx : own_Dy k i x) (hy : own_Dy k j y) (hi : (i + j).natAbs ≤ 2 ^ 53) : own_Dy k (i + j) (FP.dadd x y) := by
  obtain ⟨s, c, q, hv, hw⟩ := own_Dy_shape hx
  obtain ⟨t, d, r, hv', hw'⟩ := own_Dy_shape hy
  have h1 := FP.Core.whole_sum hw hw'
  rw [show FP.Core.Datum.fin s c (q + k) = own_shift k (.fin s c q) from rfl, show FP.Core.Datum.fin t d (r + k) = own_shift k (.fin t d r) from rfl, own_sum_shift] at h1
  have h2 : FP.Core.val64 (FP.dadd x y) = FP.Core.round FP.Core.b64 (FP.Core.exactSum (.fin s c q) (.fin t d r)) := by
    rw [← hv, ← hv']; exact FP.Core.val64_dadd x y
  obtain ⟨c', q', e1, e2⟩ := own_round hk hi (show FP.Core.Whole (i + j) (.fin _ _ (_ + (k : Int))) from h1)
  exact own_Dy_intro (h2.trans e1) e2
/-- division by `2 ^ t`: the divisor's bits stand for `2 ^ 52 * 2 ^ (t - 52)` -/
theorem own_Dy_div {k t : Nat} (hk : k + t ≤ 64) {i : Int} {x y : UInt64} (hy : FP.Core.val64 y = .fin false (2 ^ 52) ((t : Int) - 52)) (hx : own_Dy k i x) (hi : i.natAbs ≤ 2 ^ 53) : own_Dy (k + t) i (FP.ddiv x y) := by
  obtain ⟨s, c, q, hv, hw⟩ := own_Dy_shape hx
  have h1 : FP.Core.val64 (FP.ddiv x y) = FP.Core.quotient FP.Core.b64 (.fin s c q) (.fin false (2 ^ 52) ((t : Int) - 52)) := by
    rw [← hv, ← hy]; exact FP.Core.val64_ddiv x y
  have h2 : FP.Core.quotient FP.Core.b64 (.fin s c q) (.fin false (2 ^ 52) ((t : Int) - 52)) = FP.Core.roundRatio FP.Core.b64 (s != false) c (2 ^ 52) (q - ((t : Int) - 52)) := by
    show (if (2 ^ 52 : Nat) = 0 then (if c = 0 then FP.Core.Datum.nan else .inf (s != false)) else FP.Core.roundRatio FP.Core.b64 (s != false) c (2 ^ 52) (q - ((t : Int) - 52))) = _
    exact if_neg (by decide : ¬ (2 ^ 52 : Nat) = 0)
  have h3 : FP.Core.roundRatio FP.Core.b64 (s != false) c (2 ^ 52) (q - ((t : Int) - 52)) = FP.Core.round FP.Core.b64 (.fin s c (q - t)) := by
    rw [show (s != false) = s by cases s <;> rfl]
    refine FP.Core.roundRatio_congr (by decide) (by decide) ?_
    rw [show (q - ((t : Int) - 52) - (q - t)).toNat = 52 by omega, show (q - (t : Int) - (q - ((t : Int) - 52))).toNat = 0 by omega]
    simp
  obtain ⟨c', q', e1, e2⟩ := own_round (k := k + t) hk hi (s := s) (c := c) (q := q - t) (by rw [show q - (t : Int) + ((k + t : Nat) : Int) = q + k by omega]; exact hw)
  exact own_Dy_intro (h1.trans (h2.trans (h3.trans e1))) e2
theorem own_val_two : FP.Core.val64 4611686018427387904 = .fin false (2 ^ 52) (((1 : Nat) : Int) - 52) := by decide +kernel
theorem own_val_four : FP.Core.val64 4616189618054758400 = .fin false (2 ^ 52) (((2 : Nat) : Int) - 52) := by decide +kernel
theorem own_nn_of {x : UInt64} (h : FP.Core.val64 x ≠ .nan) : Fl.NoNaN64 x := Fl.noNaN64_no.mpr ((FP.Core.notNaN_iff x).mpr h)
theorem own_lc_eq (x y : Int64) : XT.cmpL x y = if y < x then 1 else if x = y then 0 else -1 := rfl
theorem own_lt {x y : Int64} (h : x < y) : XT.cmpL x y < 0 := by
  have h' := Int64.lt_iff_toInt_lt.mp h
  rw [own_lc_eq, if_neg (fun q => by have := Int64.lt_iff_toInt_lt.mp q; omega), if_neg (fun q => by rw [q] at h'; omega)]; decide
theorem own_nlt {x y : Int64} (h : ¬ x < y) : ¬ XT.cmpL x y < 0 := by
  have h' : ¬ x.toInt < y.toInt := fun q => h (Int64.lt_iff_toInt_lt.mpr q)
  rw [own_lc_eq]
  by_cases h1 : y < x
  · rw [if_pos h1]; decide
  · have h2 : ¬ y.toInt < x.toInt := fun q => h1 (Int64.lt_iff_toInt_lt.mpr q)
    rw [if_neg h1, if_pos (Int64.toInt_inj.mp (by omega))]; decide
theorem own_gt {x y : Int64} (h : y < x) : 0 < XT.cmpL x y := by rw [own_lc_eq, if_pos h]; decide
theorem own_ngt {x y : Int64} (h : ¬ y < x) : ¬ 0 < XT.cmpL x y := by
  rw [own_lc_eq, if_neg h]
  split <;> decide
/-! ## the plain law of toLength -/
/-- toLength's three roads, and what comes back -/
def own_len (x : UInt64) (r : Int64) : Prop :=
  (¬ 0 < cmpValue (FP.dcmp x FP.dconst0) .l ∧ r = 0) ∨ (0 < cmpValue (FP.dcmp x FP.dconst0) .l ∧ ¬ cmpValue (FP.dcmp x (4845873199050653695 : UInt64)) .l < 0 ∧ r = 9007199254740991) ∨
  (0 < cmpValue (FP.dcmp x FP.dconst0) .l ∧ cmpValue (FP.dcmp x (4845873199050653695 : UInt64)) .l < 0 ∧ r = FP.d2l x)
theorem own_zmax : FP.Core.zval FP.Core.b64 (FP.Core.val64 4845873199050653695) = (9007199254740991 : Int) * (FP.Core.one64 : Int) := by decide +kernel
theorem own_zP : FP.Core.zval FP.Core.b64 (FP.Core.val64 4751297606875873280) = (4294967296 : Int) * (FP.Core.one64 : Int) := by decide +kernel
theorem own_vP : FP.Core.val64 4751297606875873280 = .fin false (2 ^ 52) (-20) := by decide +kernel
theorem own_z0 : FP.Core.zval FP.Core.b64 (FP.Core.val64 FP.dconst0) = 0 := FP.Core.zval64_zero
theorem own_gt0 {x : UInt64} (hn : FP.Core.val64 x ≠ .nan) (h : 0 < FP.Core.zval FP.Core.b64 (FP.Core.val64 x)) : 0 < cmpValue (FP.dcmp x FP.dconst0) .l := by
  rw [show FP.dcmp x FP.dconst0 = some .gt from FP.Core.dcmp_gt.mpr ⟨hn, by decide +kernel, by rw [own_z0]; exact h⟩]; decide
theorem own_lenA {x : UInt64} (hn : FP.Core.val64 x ≠ .nan) (h : FP.Core.zval FP.Core.b64 (FP.Core.val64 x) ≤ 0) : own_len x 0 := by
  refine Or.inl ⟨?_, rfl⟩
  rcases FP.Core.dcmp_le.mpr ⟨hn, (by decide +kernel : FP.Core.val64 FP.dconst0 ≠ .nan), by rw [own_z0]; exact h⟩ with q | q
  · rw [show FP.dcmp x FP.dconst0 = _ from q]; decide
  · rw [show FP.dcmp x FP.dconst0 = _ from q]; decide
theorem own_lenB {x : UInt64} (hn : FP.Core.val64 x ≠ .nan) (h : (9007199254740991 : Int) * (FP.Core.one64 : Int) ≤ FP.Core.zval FP.Core.b64 (FP.Core.val64 x)) : own_len x 9007199254740991 := by
  have hp := FP.Core.one64_pos
  refine Or.inr (Or.inl ⟨own_gt0 hn (by generalize FP.Core.one64 = k at hp h; omega), ?_, rfl⟩)
  rcases FP.Core.dcmp_ge.mpr ⟨hn, (by decide +kernel : FP.Core.val64 4845873199050653695 ≠ .nan), by rw [own_zmax]; exact h⟩ with q | q
  · rw [show FP.dcmp x 4845873199050653695 = _ from q]; decide
  · rw [show FP.dcmp x 4845873199050653695 = _ from q]; decide
theorem own_lenC {x : UInt64} (hn : FP.Core.val64 x ≠ .nan) (h0 : 0 < FP.Core.zval FP.Core.b64 (FP.Core.val64 x)) (h : FP.Core.zval FP.Core.b64 (FP.Core.val64 x) < (9007199254740991 : Int) * (FP.Core.one64 : Int)) : own_len x (FP.d2l x) := by
  refine Or.inr (Or.inr ⟨own_gt0 hn h0, ?_, rfl⟩)
  rw [show FP.dcmp x 4845873199050653695 = some .lt from FP.Core.dcmp_lt.mpr ⟨hn, by decide +kernel, by rw [own_zmax]; exact h⟩]; decide
theorem own_l2d_ne (a : Int64) : FP.Core.val64 (FP.l2d a) ≠ .nan := by
  obtain ⟨s, c, q, h⟩ := FP.Core.l2d_fin a
  show FP.Core.val64 (FP.Core.l2d a) ≠ .nan
  rw [h]; exact FP.Core.Datum.noConfusion
theorem own_lit0 : (0 : Int64).toInt = 0 := by decide
theorem own_litM : (9007199254740991 : Int64).toInt = 9007199254740991 := by decide
theorem own_m0a {a : Int64} (h : ¬ 0 < a) : own_len (FP.l2d a) 0 := by
  have h' : ¬ (0 : Int64).toInt < a.toInt := fun q => h (Int64.lt_iff_toInt_lt.mpr q)
  rw [own_lit0] at h'
  refine own_lenA (own_l2d_ne a) ?_
  have q := FP.Core.l2d_zval_le (n := a) (V := 0) (by decide +kernel) (by rw [FP.Core.zval64_zero]; exact Int.mul_nonpos_of_nonpos_of_nonneg (by omega) (Int.natCast_nonneg _))
  rw [FP.Core.zval64_zero] at q
  exact q
theorem own_m0b {a : Int64} (h : ¬ a < 9007199254740991) : own_len (FP.l2d a) 9007199254740991 := by
  have h' : ¬ a.toInt < (9007199254740991 : Int64).toInt := fun q => h (Int64.lt_iff_toInt_lt.mpr q)
  rw [own_litM] at h'
  refine own_lenB (own_l2d_ne a) ?_
  have q := FP.Core.l2d_zval_ge (n := a) (V := 4845873199050653695) (by decide +kernel) (by rw [own_zmax]; exact Int.mul_le_mul_of_nonneg_right (by omega) (Int.natCast_nonneg _))
  rw [own_zmax] at q
  exact q
theorem own_m0c {a : Int64} (h0 : 0 < a) (h : a < 9007199254740991) : own_len (FP.l2d a) a := by
  have g0 := Int64.lt_iff_toInt_lt.mp h0
  have g1 := Int64.lt_iff_toInt_lt.mp h
  rw [own_lit0] at g0
  rw [own_litM] at g1
  have d : FP.Core.DInt a.toInt (FP.l2d a) := FP.Core.l2d_int (by omega)
  have z := FP.Core.DInt_zval d
  have hp : (0 : Int) < (FP.Core.one64 : Int) := by have := FP.Core.one64_pos; omega
  have q := own_lenC (own_l2d_ne a) (by rw [z]; exact Int.mul_pos g0 hp) (by rw [z]; exact Int.mul_lt_mul_of_pos_right g1 hp)
  rw [show FP.d2l (FP.l2d a) = a from FP.Core.d2l_int d] at q
  exact q
/-- a whole number of quarters from 1 on, cut to a long -/
theorem own_d2l {N : Int} {x : UInt64} (h : own_Dy 2 N x) (h0 : 0 < N) (h1 : N < 2 ^ 62) : FP.d2l x = Int64.ofInt (N / 4) := by
  obtain ⟨s, c, q, hv, hw⟩ := own_Dy_shape h
  have hs : s = false := by rw [FP.Core.whole_sign hw (by omega)]; simp; omega
  subst hs
  have hn := FP.Core.whole_natAbs hw
  have e : c * 2 ^ q.toNat / 2 ^ (-q).toNat = N.natAbs / 4 := by
    by_cases g0 : 0 ≤ q
    · rw [show (q + ((2 : Nat) : Int)).toNat = q.toNat + 2 by omega, show (-(q + ((2 : Nat) : Int))).toNat = 0 by omega, Nat.pow_add] at hn
      rw [show (-q).toNat = 0 by omega]
      generalize 2 ^ q.toNat = k at hn ⊢
      rw [← Nat.mul_assoc] at hn
      generalize c * k = j at hn ⊢
      omega
    · by_cases g1 : q = -1
      · subst g1
        have hn' : c * 2 = N.natAbs * 1 := hn
        show c * 1 / 2 = _
        omega
      · rw [show (q + ((2 : Nat) : Int)).toNat = 0 by omega, Nat.pow_zero, Nat.mul_one] at hn
        rw [show q.toNat = 0 by omega, Nat.pow_zero, Nat.mul_one, hn, show (-q).toNat = (-(q + ((2 : Nat) : Int))).toNat + 2 by omega, Nat.pow_add, Nat.mul_comm, Nat.mul_div_mul_left _ _ (Nat.two_pow_pos _)]
  have t : FP.Core.truncate false c q = N / 4 := by
    show FP.Core.signed false (c * 2 ^ q.toNat / 2 ^ (-q).toNat) = _
    rw [e]
    show ((N.natAbs / 4 : Nat) : Int) = N / 4
    omega
  show Int64.ofInt (FP.Core.toInt (-2 ^ 63) (2 ^ 63 - 1) (FP.Core.val64 x)) = _
  rw [hv]
  show Int64.ofInt (max (-2 ^ 63) (min (2 ^ 63 - 1) (FP.Core.truncate false c q))) = _
  rw [t]
  congr 1
  omega
theorem own_dy0 : own_Dy 2 0 FP.dconst0 := own_Dy_up (own_Dy_up (own_Dy_int (i := 0) (by
  have q := FP.Core.l2d_int (a := 0) (by decide)
  rw [FP.Core.l2d_zero] at q
  exact q)))
theorem own_dyM : own_Dy 2 (2 * (2 * 9007199254740991)) 4845873199050653695 := own_Dy_up (own_Dy_up (own_Dy_int (by
  have q := FP.Core.l2d_int (a := 9007199254740991) (by decide)
  rw [show FP.Core.l2d 9007199254740991 = 4845873199050653695 by decide +kernel, own_litM] at q
  exact q)))
theorem own_w (a : Int64) : (a >>> ((14 : Int32).toInt64 &&& 63)).toInt = a.toInt / (2 ^ 14 : Nat) := by
  rw [show ((14 : Int32).toInt64 &&& 63) = ((14 : Int32) &&& 0x3f).toInt64 by decide]
  exact c_lshr a 14 14 (by decide)
/-- the law's sum of a whole part and some quarters -/
theorem own_quart (a : Int64) (f : Int32) : own_Dy 2 (f &&& 3).toInt (FP.ddiv (FP.i2d (f &&& (3 : Int32))) (4616189618054758400 : UInt64)) ∧ own_Dy 2 (2 * (2 * (a.toInt / (2 ^ 14 : Nat))) + (f &&& 3).toInt) (FP.dadd (FP.l2d (a >>> ((14 : Int32).toInt64 &&& 63))) (FP.ddiv (FP.i2d (f &&& (3 : Int32))) (4616189618054758400 : UInt64))) := by
  have r := c_and f 3 (by decide)
  rw [show (3 : Int32).toInt = 3 by decide] at r
  have h1 := a.toInt_lt
  have h2 := a.le_toInt
  have w := own_w a
  have d1 : FP.Core.DInt _ (FP.l2d (a >>> ((14 : Int32).toInt64 &&& 63))) := FP.Core.l2d_int (by rw [w]; omega)
  rw [w] at d1
  have d2 : own_Dy 2 _ _ := own_Dy_div (k := 0) (t := 2) (by decide) own_val_four (own_Dy_int (FP.Core.i2d_int (f &&& 3))) (by omega)
  exact ⟨d2, own_Dy_add (by decide) (own_Dy_up (own_Dy_up (own_Dy_int d1))) d2 (by omega)⟩
theorem own_m1 (a : Int64) (f : Int32) : own_len (FP.dadd (FP.l2d (a >>> ((14 : Int32).toInt64 &&& 63))) (FP.ddiv (FP.i2d (f &&& (3 : Int32))) (4616189618054758400 : UInt64))) (if 0 < (a >>> ((14 : Int32).toInt64 &&& 63)) then (a >>> ((14 : Int32).toInt64 &&& 63)) else 0) := by
  have d := (own_quart a f).2
  have r := c_and f 3 (by decide)
  rw [show (3 : Int32).toInt = 3 by decide] at r
  have h1 := a.toInt_lt
  have h2 := a.le_toInt
  have w := own_w a
  have hw : a.toInt / (2 ^ 14 : Nat) < 2 ^ 50 ∧ -2 ^ 50 < a.toInt / (2 ^ 14 : Nat) := by constructor <;> omega
  generalize hW : (a >>> ((14 : Int32).toInt64 &&& 63)) = W at *
  generalize a.toInt / (2 ^ 14 : Nat) = n at *
  generalize (f &&& 3).toInt = j at *
  generalize FP.dadd (FP.l2d W) (FP.ddiv (FP.i2d (f &&& (3 : Int32))) (4616189618054758400 : UInt64)) = x at *
  have c1 := own_cmp d own_dy0 .l
  have c2 := own_cmp d own_dyM .l
  by_cases hN : 0 < 2 * (2 * n) + j
  · refine Or.inr (Or.inr ⟨?_, ?_, ?_⟩)
    · rw [c1, if_neg (by omega), if_neg (by omega)]; decide
    · rw [c2, if_pos (by omega)]; decide
    · rw [own_d2l d hN (by omega)]
      by_cases hp : 0 < W
      · have hp' := Int64.lt_iff_toInt_lt.mp hp
        rw [own_lit0] at hp'
        rw [if_pos hp, show (2 * (2 * n) + j) / 4 = n by omega, ← w, Int64.ofInt_toInt]
      · have hp' : ¬ (0 : Int64).toInt < W.toInt := fun q => hp (Int64.lt_iff_toInt_lt.mpr q)
        rw [own_lit0] at hp'
        rw [if_neg hp, show (2 * (2 * n) + j) / 4 = 0 by omega]; rfl
  · refine Or.inl ⟨?_, ?_⟩
    · rw [c1]
      by_cases g : 2 * (2 * n) + j < 0
      · rw [if_pos g]; decide
      · rw [if_neg g, if_pos (by omega)]; decide
    · rw [if_neg]
      intro hp
      have hp' := Int64.lt_iff_toInt_lt.mp hp
      rw [own_lit0] at hp'
      omega
/-- a product by a power of two from 1 on is at least what it must be -/
theorem own_mul_ge {x V : UInt64} {c : Nat} {q : Int} (hx : FP.Core.val64 x = .fin false c q) (hV : FP.Core.val64 V ≠ .nan) (h : FP.Core.zval FP.Core.b64 (FP.Core.val64 V) * (FP.Core.one64 : Int) ≤ FP.Core.zval FP.Core.b64 (FP.Core.val64 x) * FP.Core.zval FP.Core.b64 (FP.Core.val64 4751297606875873280)) :
    FP.Core.zval FP.Core.b64 (FP.Core.val64 V) ≤ FP.Core.zval FP.Core.b64 (FP.Core.val64 (FP.dmul x 4751297606875873280)) := by
  have f1 := FP.Core.val64_fits x
  have f2 := FP.Core.val64_fits 4751297606875873280
  rw [hx] at f1 h
  rw [own_vP] at f2 h
  obtain ⟨u1, u2, u3⟩ := FP.Core.product_units f1 f2
  rw [show FP.Core.val64 (FP.dmul x 4751297606875873280) = _ from FP.Core.val64_dmul x 4751297606875873280, hx, own_vP, u1]
  refine FP.Core.zval_round_ge FP.Core.good_b64 (FP.Core.val64_fits V) hV (e0 := 2 * FP.Core.b64.qmin) (by rw [FP.Core.qmin_b64]; omega) u2 ?_
  rw [u3, show (FP.Core.b64.qmin - 2 * FP.Core.b64.qmin).toNat = (-FP.Core.b64.qmin).toNat by omega, FP.Core.pow_qmin64]
  refine Int.le_trans h (Int.le_of_eq ?_)
  show FP.Core.signed false (FP.Core.zmag FP.Core.b64 (.fin false c q)) * FP.Core.signed false (FP.Core.zmag FP.Core.b64 (.fin false (2 ^ 52) (-20))) = FP.Core.signed false _
  show ((FP.Core.zmag FP.Core.b64 (.fin false c q) : Nat) : Int) * ((FP.Core.zmag FP.Core.b64 (.fin false (2 ^ 52) (-20)) : Nat) : Int) = ((FP.Core.zmag FP.Core.b64 (.fin false c q) * FP.Core.zmag FP.Core.b64 (.fin false (2 ^ 52) (-20)) : Nat) : Int)
  rw [Int.natCast_mul]
theorem own_sgn_mul {x : UInt64} {s : Bool} {c : Nat} {q : Int} (hx : FP.Core.val64 x = .fin s c q) : FP.Core.sgn (FP.Core.val64 (FP.dmul x 4751297606875873280)) = s := by
  rw [show FP.Core.val64 (FP.dmul x 4751297606875873280) = _ from FP.Core.val64_dmul x 4751297606875873280, hx, own_vP]
  show FP.Core.sgn (FP.Core.roundRatio FP.Core.b64 (s != false) (c * 2 ^ 52) 1 (q + -20)) = s
  rw [FP.Core.sgn_roundRatio]
  cases s <;> rfl
theorem own_Pmag : (4751297606875873280 : UInt64).toNat % 2 ^ 63 < 1056 * 2 ^ 52 := by decide +kernel
theorem own_mag1 (a : Int64) : (FP.dmul (FP.l2d a) 4751297606875873280).toNat % 2 ^ 63 < 1122 * 2 ^ 52 := by
  have q := FP.Core.dmul_mag (Ka := 1088) (Kb := 1056) (FP.Core.l2d_mag a) own_Pmag (by decide) (by decide)
  have q' : (FP.dmul (FP.l2d a) 4751297606875873280).toNat % 2 ^ 63 < (1088 + 1056 - 1025 + 3) * 2 ^ 52 := q
  omega
theorem own_mag2 (a : Int64) : (FP.dmul (FP.dmul (FP.l2d a) 4751297606875873280) 4751297606875873280).toNat % 2 ^ 63 < 1156 * 2 ^ 52 := by
  have q := FP.Core.dmul_mag (Ka := 1122) (Kb := 1056) (own_mag1 a) own_Pmag (by decide) (by decide)
  have q' : (FP.dmul (FP.dmul (FP.l2d a) 4751297606875873280) 4751297606875873280).toNat % 2 ^ 63 < (1122 + 1056 - 1025 + 3) * 2 ^ 52 := q
  omega
theorem own_fin1 (a : Int64) : FP.Core.DFin (FP.dmul (FP.l2d a) 4751297606875873280) := FP.Core.fin_of_lt (own_mag1 a) (by decide)
theorem own_fin2 (a : Int64) : FP.Core.DFin (FP.dmul (FP.dmul (FP.l2d a) 4751297606875873280) 4751297606875873280) := FP.Core.fin_of_lt (own_mag2 a) (by decide)
theorem own_nnm1 (a : Int64) : Fl.NoNaN64 (FP.dmul (FP.l2d a) (4751297606875873280 : UInt64)) := (Fl.fin64_core.mpr (own_fin1 a)).noNaN
theorem own_nnm2 (a : Int64) : Fl.NoNaN64 (FP.dmul (FP.dmul (FP.l2d a) (4751297606875873280 : UInt64)) (4751297606875873280 : UInt64)) := (Fl.fin64_core.mpr (own_fin2 a)).noNaN
theorem own_fin_ne {x : UInt64} (h : FP.Core.DFin x) : FP.Core.val64 x ≠ .nan := by
  obtain ⟨s, c, q, e⟩ := h
  rw [e]; exact FP.Core.Datum.noConfusion
theorem own_m2a {a : Int64} (h : 0 < a) : own_len (FP.dmul (FP.dmul (FP.l2d a) (4751297606875873280 : UInt64)) (4751297606875873280 : UInt64)) 9007199254740991 := by
  have g := Int64.lt_iff_toInt_lt.mp h
  rw [own_lit0] at g
  obtain ⟨c, q, hv⟩ := FP.Core.l2d_shape a
  rw [show decide (a.toInt < 0) = false by simp; omega] at hv
  have hp : (0 : Int) < (FP.Core.one64 : Int) := by have := FP.Core.one64_pos; omega
  have z1 := FP.Core.l2d_zval_ge (n := a) (V := 4607182418800017408) (by decide +kernel) (by rw [FP.Core.DInt_zval FP.Core.dint_one]; exact Int.mul_le_mul_of_nonneg_right (by omega) (Int.le_of_lt hp))
  rw [FP.Core.DInt_zval FP.Core.dint_one, Int.one_mul] at z1
  have z2 := own_mul_ge (x := FP.l2d a) (V := 4751297606875873280) hv (by decide +kernel) (by
    rw [Int.mul_comm]
    exact Int.mul_le_mul_of_nonneg_right z1 (by rw [own_zP]; exact Int.mul_nonneg (by decide) (Int.le_of_lt hp)))
  obtain ⟨s', c', q', hv'⟩ := own_fin1 a
  have hs' := own_sgn_mul (x := FP.l2d a) hv
  rw [hv'] at hs'
  have hs'' : s' = false := hs'
  subst hs''
  have z3 := own_mul_ge (x := FP.dmul (FP.l2d a) 4751297606875873280) (V := 4845873199050653695) hv' (by decide +kernel) (by
    rw [own_zmax]
    rw [own_zP] at z2 ⊢
    generalize FP.Core.zval FP.Core.b64 (FP.Core.val64 (FP.dmul (FP.l2d a) 4751297606875873280)) = z at z2 ⊢
    generalize (FP.Core.one64 : Int) = k at hp z2 ⊢
    have t1 : (4294967296 * k) * (4294967296 * k) ≤ z * (4294967296 * k) := Int.mul_le_mul_of_nonneg_right z2 (by omega)
    have t2 : (4294967296 * k) * (4294967296 * k) = 18446744073709551616 * (k * k) := by
      rw [Int.mul_assoc, Int.mul_left_comm k, ← Int.mul_assoc]; rfl
    have t3 : 9007199254740991 * k * k = 9007199254740991 * (k * k) := Int.mul_assoc _ _ _
    have t4 : 0 < k * k := Int.mul_pos hp hp
    generalize k * k = kk at t2 t3 t4
    omega)
  rw [own_zmax] at z3
  exact own_lenB (own_fin_ne (own_fin2 a)) z3
theorem own_m2b {a : Int64} (h : ¬ 0 < a) : own_len (FP.dmul (FP.dmul (FP.l2d a) (4751297606875873280 : UInt64)) (4751297606875873280 : UInt64)) 0 := by
  have g : ¬ (0 : Int64).toInt < a.toInt := fun q => h (Int64.lt_iff_toInt_lt.mpr q)
  rw [own_lit0] at g
  refine own_lenA (own_fin_ne (own_fin2 a)) ?_
  by_cases h0 : a.toInt = 0
  · have : a = 0 := Int64.toInt_inj.mp (by rw [h0]; decide)
    subst this
    decide +kernel
  · obtain ⟨c, q, hv⟩ := FP.Core.l2d_shape a
    rw [show decide (a.toInt < 0) = true by simp; omega] at hv
    obtain ⟨s', c', q', hv'⟩ := own_fin1 a
    have hs' := own_sgn_mul (x := FP.l2d a) hv
    rw [hv'] at hs'
    have hs'' : s' = true := hs'
    subst hs''
    have hs2 := own_sgn_mul (x := FP.dmul (FP.l2d a) 4751297606875873280) hv'
    unfold FP.Core.zval
    rw [hs2]
    show -((FP.Core.zmag FP.Core.b64 _ : Nat) : Int) ≤ 0
    omega
/-! ### the special values -/
def own_sp (s : Int32) (d : UInt64) : Prop :=
  (s = 0 ∧ d = 9218868437227405312) ∨ (¬ s = 0 ∧ s = 1 ∧ d = 18442240474082181120) ∨ (¬ s = 0 ∧ ¬ s = 1 ∧ s = 2 ∧ d = 9223372036854775808) ∨ (¬ s = 0 ∧ ¬ s = 1 ∧ ¬ s = 2 ∧ s = 3 ∧ d = 1) ∨
  (¬ s = 0 ∧ ¬ s = 1 ∧ ¬ s = 2 ∧ ¬ s = 3 ∧ s = 4 ∧ d = 9218868437227405311) ∨ (¬ s = 0 ∧ ¬ s = 1 ∧ ¬ s = 2 ∧ ¬ s = 3 ∧ ¬ s = 4 ∧ s = 5 ∧ d = 4845873199050653695) ∨
  (¬ s = 0 ∧ ¬ s = 1 ∧ ¬ s = 2 ∧ ¬ s = 3 ∧ ¬ s = 4 ∧ ¬ s = 5 ∧ s = 6 ∧ d = 4841369599423283199) ∨ (¬ s = 0 ∧ ¬ s = 1 ∧ ¬ s = 2 ∧ ¬ s = 3 ∧ ¬ s = 4 ∧ ¬ s = 5 ∧ ¬ s = 6 ∧ d = 4845873199050653694)
def own_se (s : Int32) (r : Int64) : Prop :=
  (s = 0 ∧ r = 9007199254740991) ∨ (¬ s = 0 ∧ s = 4 ∧ r = 9007199254740991) ∨ (¬ s = 0 ∧ ¬ s = 4 ∧ s = 5 ∧ r = 9007199254740991) ∨ (¬ s = 0 ∧ ¬ s = 4 ∧ ¬ s = 5 ∧ s = 6 ∧ r = 4503599627370495) ∨
  (¬ s = 0 ∧ ¬ s = 4 ∧ ¬ s = 5 ∧ ¬ s = 6 ∧ s = 7 ∧ r = 9007199254740990) ∨ (¬ s = 0 ∧ ¬ s = 4 ∧ ¬ s = 5 ∧ ¬ s = 6 ∧ ¬ s = 7 ∧ r = 0)
theorem own_eight (f : Int32) : (f &&& 7) = 0 ∨ (f &&& 7) = 1 ∨ (f &&& 7) = 2 ∨ (f &&& 7) = 3 ∨ (f &&& 7) = 4 ∨ (f &&& 7) = 5 ∨ (f &&& 7) = 6 ∨ (f &&& 7) = 7 := by
  have r := c_and f 7 (by decide)
  rw [show (7 : Int32).toInt = 7 by decide] at r
  generalize f &&& 7 = s at *
  have e (k : Int32) (h : s.toInt = k.toInt) : s = k := Int32.toInt_inj.mp h
  have : s.toInt = 0 ∨ s.toInt = 1 ∨ s.toInt = 2 ∨ s.toInt = 3 ∨ s.toInt = 4 ∨ s.toInt = 5 ∨ s.toInt = 6 ∨ s.toInt = 7 := by omega
  rcases this with h | h | h | h | h | h | h | h
  · exact Or.inl (e 0 h)
  · exact Or.inr (Or.inl (e 1 h))
  · exact Or.inr (Or.inr (Or.inl (e 2 h)))
  · exact Or.inr (Or.inr (Or.inr (Or.inl (e 3 h))))
  · exact Or.inr (Or.inr (Or.inr (Or.inr (Or.inl (e 4 h)))))
  · exact Or.inr (Or.inr (Or.inr (Or.inr (Or.inr (Or.inl (e 5 h))))))
  · exact Or.inr (Or.inr (Or.inr (Or.inr (Or.inr (Or.inr (Or.inl (e 6 h)))))))
  · exact Or.inr (Or.inr (Or.inr (Or.inr (Or.inr (Or.inr (Or.inr (e 7 h)))))))
theorem own_m3 (f : Int32) : ∃ d r, own_sp (f &&& 7) d ∧ own_se (f &&& 7) r ∧ own_len d r := by
  rcases own_eight f with h | h | h | h | h | h | h | h <;> rw [h]
  · exact ⟨9218868437227405312, 9007199254740991, by unfold own_sp; decide, by unfold own_se; decide, by unfold own_len; decide +kernel⟩
  · exact ⟨18442240474082181120, 0, by unfold own_sp; decide, by unfold own_se; decide, by unfold own_len; decide +kernel⟩
  · exact ⟨9223372036854775808, 0, by unfold own_sp; decide, by unfold own_se; decide, by unfold own_len; decide +kernel⟩
  · exact ⟨1, 0, by unfold own_sp; decide, by unfold own_se; decide, by unfold own_len; decide +kernel⟩
  · exact ⟨9218868437227405311, 9007199254740991, by unfold own_sp; decide, by unfold own_se; decide, by unfold own_len; decide +kernel⟩
  · exact ⟨4845873199050653695, 9007199254740991, by unfold own_sp; decide, by unfold own_se; decide, by unfold own_len; decide +kernel⟩
  · exact ⟨4841369599423283199, 4503599627370495, by unfold own_sp; decide, by unfold own_se; decide, by unfold own_len; decide +kernel⟩
  · exact ⟨4845873199050653694, 9007199254740990, by unfold own_sp; decide, by unfold own_se; decide, by unfold own_len; decide +kernel⟩
theorem pn0 : plainName "com/example/tapir/tapir/runtime/ConversionsToLengthPinLaw" = true := by first | (simp [plainName, overriddenIn]; done) | decide +kernel
theorem pn1 : plainName "com/example/tapir/tapir/runtime/Conversions" = true := by first | (simp [plainName, overriddenIn]; done) | decide +kernel
/-! ## toLength -/
theorem d1_0 : decode prog_119_method_11_code 0 = .ok (.dload_n 0, 1) := by decide +kernel
theorem d1_1 : decode prog_119_method_11_code 1 = .ok (.dconst 0, 1) := by decide +kernel
theorem d1_2 : decode prog_119_method_11_code 2 = .ok (.dcmp .l, 1) := by decide +kernel
theorem d1_3 : decode prog_119_method_11_code 3 = .ok (.ifCond .gt 5, 3) := by decide +kernel
theorem d1_6 : decode prog_119_method_11_code 6 = .ok (.lconst 0, 1) := by decide +kernel
theorem d1_7 : decode prog_119_method_11_code 7 = .ok (.lreturn, 1) := by decide +kernel
theorem d1_8 : decode prog_119_method_11_code 8 = .ok (.dload_n 0, 1) := by decide +kernel
theorem d1_9 : decode prog_119_method_11_code 9 = .ok (.ldc2_w 127, 3) := by decide +kernel
theorem d1_12 : decode prog_119_method_11_code 12 = .ok (.dcmp .l, 1) := by decide +kernel
theorem d1_13 : decode prog_119_method_11_code 13 = .ok (.ifCond .lt 9, 3) := by decide +kernel
theorem d1_16 : decode prog_119_method_11_code 16 = .ok (.ldc2_w 129, 3) := by decide +kernel
theorem d1_19 : decode prog_119_method_11_code 19 = .ok (.goto 5, 3) := by decide +kernel
theorem d1_22 : decode prog_119_method_11_code 22 = .ok (.dload_n 0, 1) := by decide +kernel
theorem d1_23 : decode prog_119_method_11_code 23 = .ok (.d2l, 1) := by decide +kernel
theorem d1_24 : decode prog_119_method_11_code 24 = .ok (.lreturn, 1) := by decide +kernel
theorem pd1 : parseMethodDescriptor "(D)J" = some ⟨[.double], (some .long)⟩ := by decide +kernel
theorem ef1 (m : MethodId) (a : UInt64) : entryFrame m #[(.double a)] 2 = mkF m 0 #[.val (.double a), .second] [] := by first | (simp [entryFrame, mkF, argsToLocals, Value.category]; done) | rfl
def Q1 (Z : State) (a : UInt64) (r : Int64) (h0 : Heap) (n0 : Nat) (v : Option Value) (h : Heap) (L : List Loc) : Prop := v = some (.long r) ∧ Fr n0 L ∧ h = h0
set_option maxRecDepth 65536 in
set_option maxHeartbeats 40000000 in
theorem rm1 (l : Launch) (Z : State) (a0 : Array Value) (hw : ∀ d ∈ tables_1, d.before a0 Z = true) (ws : List Jvm.Cond) (a : UInt64) (r : Int64) (h0 : Heap) (n0 : Nat) (Z0 : n0 ≤ h0.size) (h3 : own_len a r) :
    MetFree l (⟨"com/example/tapir/tapir/runtime/Conversions", "toLength", "(D)J"⟩ : MethodName) (head1 (Jvm.Cond.code (⟨"com/example/tapir/tapir/runtime/Conversions", "toLength", "(D)J"⟩ : MethodName) prog_119_method_11_code 2 (some .long) :: ws) ({ frames := 0, cells := 0, slots := 0, locals := 0 } : Room)) (fun aa U => aa = #[(.double a)] ∧ Z.Warmed39 U.vm ∧ U.heap = h0) (fun _ _ _ _ _ => True) (fun _ U o U' => ∃ v L, o = .returned v ∧ Q1 Z a r h0 n0 v U'.heap L ∧ FrameEnd U o U' L ({ frames := 0, cells := 0, slots := 0, locals := 0 } : Room).cells ({ frames := 0, cells := 0, slots := 0, locals := 0 } : Room).slots) := by
  refine MetFree.of_bodySF (plainFor_of_name pn1) hisR ?_
  intro p e s m args below meth c s₁ Bd hml0 hP hK
  obtain ⟨rfl, hZ, hh⟩ := hP
  have hx := Bd.exec
  have hby := Bd.bytes
  have hml : c.maxLocals = 2 := hml0
  have hown : s.vm.findClass "com/example/tapir/tapir/runtime/Conversions" = some m.cls := findClass_of_methodNamed Bd.named
  have hnm := (name_of_methodNamed Bd.named Bd.method).1
  have X0 : Stand p l e ({ frames := 0, cells := 0, slots := 0, locals := 0 } : Room) s m #[(.double a)] below meth c s₁ [] 0 0 := Stand.of_body Bd
  have e0 : s₁.heap = h0 := by rw [← hh, Bd.state]; rfl
  have N0 := Fr.nil n0
  have pre0 : ∀ t, Steps p.tables e below (s₁.setTop (mkF m 0 #[.val (.double a), .second] [])) t → Steps p.tables e below (s₁.setTop (entryFrame m #[(.double a)] 2)) t := fun t k => castTop (ef1 m a) k
  obtain ⟨fs, hr, hrun, hended, hW, hsame⟩ := X0.leave (v := some (.long r)) (fun h => by rw [Bd.returns] at h; cases h)
  refine ⟨_, _, pre0 _ ?_, hrun, hended, _, _, rfl, ?_, ⟨_, rfl⟩, hW, hsame.mono (by decide) (by decide)⟩
  · rcases h3 with ⟨c1, hrx⟩ | ⟨c1, c2, hrx⟩ | ⟨c1, c2, hrx⟩
    · rw [hrx] at hr
      show Steps p.tables e below (s₁.setTop (mkF m 0 #[.val (.double a), .second] [])) _
      refine XS.dloadN X0.here hx rfl (hb hby d1_0) rfl ?_
      show Steps p.tables e below (s₁.setTop (mkF m 1 #[.val (.double a), .second] [(.double a)])) _
      refine XS.dconst0 X0.here hx rfl (hb hby d1_1) rfl ?_
      show Steps p.tables e below (s₁.setTop (mkF m 2 #[.val (.double a), .second] [(.double FP.dconst0), (.double a)])) _
      refine XS.dcmpS X0.here hx rfl (hb hby d1_2) rfl rfl ?_
      show Steps p.tables e below (s₁.setTop (mkF m 3 #[.val (.double a), .second] [(.int (cmpValue (FP.dcmp a FP.dconst0) .l))])) _
      refine XS.ifNo X0.here hx rfl (hb hby d1_3) rfl ((if0 _ _).trans (flt c1).2.2.1) ?_
      show Steps p.tables e below (s₁.setTop (mkF m 6 #[.val (.double a), .second] [])) _
      refine XT.lconst X0.here hx rfl (hb hby d1_6) ?_
      show Steps p.tables e below (s₁.setTop (mkF m 7 #[.val (.double a), .second] [(.long (0 : Int64))])) _
      exact retOut X0 hx Bd.returns rfl (Or.inr (Or.inl ⟨rfl, rfl, _, rfl⟩)) (hb hby d1_7) hr
    · rw [hrx] at hr
      show Steps p.tables e below (s₁.setTop (mkF m 0 #[.val (.double a), .second] [])) _
      refine XS.dloadN X0.here hx rfl (hb hby d1_0) rfl ?_
      show Steps p.tables e below (s₁.setTop (mkF m 1 #[.val (.double a), .second] [(.double a)])) _
      refine XS.dconst0 X0.here hx rfl (hb hby d1_1) rfl ?_
      show Steps p.tables e below (s₁.setTop (mkF m 2 #[.val (.double a), .second] [(.double FP.dconst0), (.double a)])) _
      refine XS.dcmpS X0.here hx rfl (hb hby d1_2) rfl rfl ?_
      show Steps p.tables e below (s₁.setTop (mkF m 3 #[.val (.double a), .second] [(.int (cmpValue (FP.dcmp a FP.dconst0) .l))])) _
      refine XS.ifYes X0.here hx rfl (pc0 := 3) (pc' := 8) rfl (hb hby d1_3) rfl ((if0 _ _).trans (tlt c1).2.2.1) (by decide) (by decide) ?_
      show Steps p.tables e below (s₁.setTop (mkF m 8 #[.val (.double a), .second] [])) _
      refine XS.dloadN X0.here hx rfl (hb hby d1_8) rfl ?_
      show Steps p.tables e below (s₁.setTop (mkF m 9 #[.val (.double a), .second] [(.double a)])) _
      refine X0.ldc2DoubleC hx hown (mvT hZ (hw _ (List.mem_of_getElem? (i := 5) rfl))) (g := (mkF m 9 #[.val (.double a), .second] [(.double a)])) rfl (hb hby d1_9) _ ?_
      show Steps p.tables e below (s₁.setTop (mkF m 12 #[.val (.double a), .second] [(.double (4845873199050653695 : UInt64)), (.double a)])) _
      refine XS.dcmpS X0.here hx rfl (hb hby d1_12) rfl rfl ?_
      show Steps p.tables e below (s₁.setTop (mkF m 13 #[.val (.double a), .second] [(.int (cmpValue (FP.dcmp a (4845873199050653695 : UInt64)) .l))])) _
      refine XS.ifNo X0.here hx rfl (hb hby d1_13) rfl ((if0 _ _).trans (flt c2).1) ?_
      show Steps p.tables e below (s₁.setTop (mkF m 16 #[.val (.double a), .second] [])) _
      refine X0.ldc2Long hx hown (mvT hZ (hw _ (List.mem_of_getElem? (i := 17) rfl))) (g := (mkF m 16 #[.val (.double a), .second] [])) rfl (hb hby d1_16) _ ?_
      show Steps p.tables e below (s₁.setTop (mkF m 19 #[.val (.double a), .second] [(.long (9007199254740991 : Int64))])) _
      refine XS.goto X0.here hx rfl (pc0 := 19) (pc' := 24) rfl (hb hby d1_19) (by decide) (by decide) ?_
      show Steps p.tables e below (s₁.setTop (mkF m 24 #[.val (.double a), .second] [(.long (9007199254740991 : Int64))])) _
      exact retOut X0 hx Bd.returns rfl (Or.inr (Or.inl ⟨rfl, rfl, _, rfl⟩)) (hb hby d1_24) hr
    · rw [hrx] at hr
      show Steps p.tables e below (s₁.setTop (mkF m 0 #[.val (.double a), .second] [])) _
      refine XS.dloadN X0.here hx rfl (hb hby d1_0) rfl ?_
      show Steps p.tables e below (s₁.setTop (mkF m 1 #[.val (.double a), .second] [(.double a)])) _
      refine XS.dconst0 X0.here hx rfl (hb hby d1_1) rfl ?_
      show Steps p.tables e below (s₁.setTop (mkF m 2 #[.val (.double a), .second] [(.double FP.dconst0), (.double a)])) _
      refine XS.dcmpS X0.here hx rfl (hb hby d1_2) rfl rfl ?_
      show Steps p.tables e below (s₁.setTop (mkF m 3 #[.val (.double a), .second] [(.int (cmpValue (FP.dcmp a FP.dconst0) .l))])) _
      refine XS.ifYes X0.here hx rfl (pc0 := 3) (pc' := 8) rfl (hb hby d1_3) rfl ((if0 _ _).trans (tlt c1).2.2.1) (by decide) (by decide) ?_
      show Steps p.tables e below (s₁.setTop (mkF m 8 #[.val (.double a), .second] [])) _
      refine XS.dloadN X0.here hx rfl (hb hby d1_8) rfl ?_
      show Steps p.tables e below (s₁.setTop (mkF m 9 #[.val (.double a), .second] [(.double a)])) _
      refine X0.ldc2DoubleC hx hown (mvT hZ (hw _ (List.mem_of_getElem? (i := 5) rfl))) (g := (mkF m 9 #[.val (.double a), .second] [(.double a)])) rfl (hb hby d1_9) _ ?_
      show Steps p.tables e below (s₁.setTop (mkF m 12 #[.val (.double a), .second] [(.double (4845873199050653695 : UInt64)), (.double a)])) _
      refine XS.dcmpS X0.here hx rfl (hb hby d1_12) rfl rfl ?_
      show Steps p.tables e below (s₁.setTop (mkF m 13 #[.val (.double a), .second] [(.int (cmpValue (FP.dcmp a (4845873199050653695 : UInt64)) .l))])) _
      refine XS.ifYes X0.here hx rfl (pc0 := 13) (pc' := 22) rfl (hb hby d1_13) rfl ((if0 _ _).trans (tlt c2).1) (by decide) (by decide) ?_
      show Steps p.tables e below (s₁.setTop (mkF m 22 #[.val (.double a), .second] [])) _
      refine XS.dloadN X0.here hx rfl (hb hby d1_22) rfl ?_
      show Steps p.tables e below (s₁.setTop (mkF m 23 #[.val (.double a), .second] [(.double a)])) _
      refine XS.d2lS X0.here hx rfl (hb hby d1_23) rfl rfl ?_
      show Steps p.tables e below (s₁.setTop (mkF m 24 #[.val (.double a), .second] [(.long (FP.d2l a))])) _
      exact retOut X0 hx Bd.returns rfl (Or.inr (Or.inl ⟨rfl, rfl, _, rfl⟩)) (hb hby d1_24) hr
  · show Q1 Z a r h0 n0 _ s₁.heap _
    rw [e0]
    exact ⟨rfl, N0, rfl⟩
/-! ## special -/
theorem d2_0 : decode method_2_code 0 = .ok (.iload_n 0, 1) := by decide +kernel
theorem d2_1 : decode method_2_code 1 = .ok (.ifCond .ne 7, 3) := by decide +kernel
theorem d2_4 : decode method_2_code 4 = .ok (.ldc2_w 7, 3) := by decide +kernel
theorem d2_7 : decode method_2_code 7 = .ok (.dreturn, 1) := by decide +kernel
theorem d2_8 : decode method_2_code 8 = .ok (.iload_n 0, 1) := by decide +kernel
theorem d2_9 : decode method_2_code 9 = .ok (.iconst 1, 1) := by decide +kernel
theorem d2_10 : decode method_2_code 10 = .ok (.if_icmp .ne 7, 3) := by decide +kernel
theorem d2_13 : decode method_2_code 13 = .ok (.ldc2_w 9, 3) := by decide +kernel
theorem d2_16 : decode method_2_code 16 = .ok (.dreturn, 1) := by decide +kernel
theorem d2_17 : decode method_2_code 17 = .ok (.iload_n 0, 1) := by decide +kernel
theorem d2_18 : decode method_2_code 18 = .ok (.iconst 2, 1) := by decide +kernel
theorem d2_19 : decode method_2_code 19 = .ok (.if_icmp .ne 7, 3) := by decide +kernel
theorem d2_22 : decode method_2_code 22 = .ok (.ldc2_w 11, 3) := by decide +kernel
theorem d2_25 : decode method_2_code 25 = .ok (.dreturn, 1) := by decide +kernel
theorem d2_26 : decode method_2_code 26 = .ok (.iload_n 0, 1) := by decide +kernel
theorem d2_27 : decode method_2_code 27 = .ok (.iconst 3, 1) := by decide +kernel
theorem d2_28 : decode method_2_code 28 = .ok (.if_icmp .ne 7, 3) := by decide +kernel
theorem d2_31 : decode method_2_code 31 = .ok (.ldc2_w 13, 3) := by decide +kernel
theorem d2_34 : decode method_2_code 34 = .ok (.dreturn, 1) := by decide +kernel
theorem d2_35 : decode method_2_code 35 = .ok (.iload_n 0, 1) := by decide +kernel
theorem d2_36 : decode method_2_code 36 = .ok (.iconst 4, 1) := by decide +kernel
theorem d2_37 : decode method_2_code 37 = .ok (.if_icmp .ne 7, 3) := by decide +kernel
theorem d2_40 : decode method_2_code 40 = .ok (.ldc2_w 15, 3) := by decide +kernel
theorem d2_43 : decode method_2_code 43 = .ok (.dreturn, 1) := by decide +kernel
theorem d2_44 : decode method_2_code 44 = .ok (.iload_n 0, 1) := by decide +kernel
theorem d2_45 : decode method_2_code 45 = .ok (.iconst 5, 1) := by decide +kernel
theorem d2_46 : decode method_2_code 46 = .ok (.if_icmp .ne 7, 3) := by decide +kernel
theorem d2_49 : decode method_2_code 49 = .ok (.ldc2_w 17, 3) := by decide +kernel
theorem d2_52 : decode method_2_code 52 = .ok (.dreturn, 1) := by decide +kernel
theorem d2_53 : decode method_2_code 53 = .ok (.iload_n 0, 1) := by decide +kernel
theorem d2_54 : decode method_2_code 54 = .ok (.bipush 6, 2) := by decide +kernel
theorem d2_56 : decode method_2_code 56 = .ok (.if_icmp .ne 7, 3) := by decide +kernel
theorem d2_59 : decode method_2_code 59 = .ok (.ldc2_w 19, 3) := by decide +kernel
theorem d2_62 : decode method_2_code 62 = .ok (.dreturn, 1) := by decide +kernel
theorem d2_63 : decode method_2_code 63 = .ok (.ldc2_w 21, 3) := by decide +kernel
theorem d2_66 : decode method_2_code 66 = .ok (.dreturn, 1) := by decide +kernel
theorem pd2 : parseMethodDescriptor "(I)D" = some ⟨[.int], (some .double)⟩ := by decide +kernel
theorem ef2 (m : MethodId) (a : Int32) : entryFrame m #[(.int a)] 1 = mkF m 0 #[.val (.int a)] [] := by first | (simp [entryFrame, mkF, argsToLocals, Value.category]; done) | rfl
def Q2 (Z : State) (a : Int32) (r : UInt64) (h0 : Heap) (n0 : Nat) (v : Option Value) (h : Heap) (L : List Loc) : Prop := v = some (.double r) ∧ Fr n0 L ∧ h = h0
set_option maxRecDepth 65536 in
set_option maxHeartbeats 40000000 in
theorem rm2 (l : Launch) (Z : State) (a0 : Array Value) (hw : ∀ d ∈ tables_1, d.before a0 Z = true) (ws : List Jvm.Cond) (a : Int32) (r : UInt64) (h0 : Heap) (n0 : Nat) (Z0 : n0 ≤ h0.size) (h3 : own_sp a r) :
    MetFree l (⟨"com/example/tapir/tapir/runtime/ConversionsToLengthPinLaw", "special", "(I)D"⟩ : MethodName) (head1 (Jvm.Cond.code (⟨"com/example/tapir/tapir/runtime/ConversionsToLengthPinLaw", "special", "(I)D"⟩ : MethodName) method_2_code 1 (some .double) :: ws) ({ frames := 0, cells := 0, slots := 0, locals := 0 } : Room)) (fun aa U => aa = #[(.int a)] ∧ Z.Warmed39 U.vm ∧ U.heap = h0) (fun _ _ _ _ _ => True) (fun _ U o U' => ∃ v L, o = .returned v ∧ Q2 Z a r h0 n0 v U'.heap L ∧ FrameEnd U o U' L ({ frames := 0, cells := 0, slots := 0, locals := 0 } : Room).cells ({ frames := 0, cells := 0, slots := 0, locals := 0 } : Room).slots) := by
  refine MetFree.of_bodySF (plainFor_of_name pn0) hisR ?_
  intro p e s m args below meth c s₁ Bd hml0 hP hK
  obtain ⟨rfl, hZ, hh⟩ := hP
  have hx := Bd.exec
  have hby := Bd.bytes
  have hml : c.maxLocals = 1 := hml0
  have hown : s.vm.findClass "com/example/tapir/tapir/runtime/ConversionsToLengthPinLaw" = some m.cls := findClass_of_methodNamed Bd.named
  have hnm := (name_of_methodNamed Bd.named Bd.method).1
  have X0 : Stand p l e ({ frames := 0, cells := 0, slots := 0, locals := 0 } : Room) s m #[(.int a)] below meth c s₁ [] 0 0 := Stand.of_body Bd
  have e0 : s₁.heap = h0 := by rw [← hh, Bd.state]; rfl
  have N0 := Fr.nil n0
  have pre0 : ∀ t, Steps p.tables e below (s₁.setTop (mkF m 0 #[.val (.int a)] [])) t → Steps p.tables e below (s₁.setTop (entryFrame m #[(.int a)] 1)) t := fun t k => castTop (ef2 m a) k
  obtain ⟨fs, hr, hrun, hended, hW, hsame⟩ := X0.leave (v := some (.double r)) (fun h => by rw [Bd.returns] at h; cases h)
  refine ⟨_, _, pre0 _ ?_, hrun, hended, _, _, rfl, ?_, ⟨_, rfl⟩, hW, hsame.mono (by decide) (by decide)⟩
  · rcases h3 with ⟨c0, hrx⟩ | ⟨c0, c1, hrx⟩ | ⟨c0, c1, c2, hrx⟩ | ⟨c0, c1, c2, c3, hrx⟩ | ⟨c0, c1, c2, c3, c4, hrx⟩ | ⟨c0, c1, c2, c3, c4, c5, hrx⟩ | ⟨c0, c1, c2, c3, c4, c5, c6, hrx⟩ | ⟨c0, c1, c2, c3, c4, c5, c6, hrx⟩
    · rw [hrx] at hr
      show Steps p.tables e below (s₁.setTop (mkF m 0 #[.val (.int a)] [])) _
      refine XS.iloadN X0.here hx rfl (hb hby d2_0) rfl ?_
      show Steps p.tables e below (s₁.setTop (mkF m 1 #[.val (.int a)] [(.int a)])) _
      refine XS.ifNo X0.here hx rfl (hb hby d2_1) rfl ((if0 _ _).trans (teq c0).2) ?_
      show Steps p.tables e below (s₁.setTop (mkF m 4 #[.val (.int a)] [])) _
      refine X0.ldc2DoubleC hx hown (mvT hZ (hw _ (List.mem_of_getElem? (i := 21) rfl))) (g := (mkF m 4 #[.val (.int a)] [])) rfl (hb hby d2_4) _ ?_
      show Steps p.tables e below (s₁.setTop (mkF m 7 #[.val (.int a)] [(.double (9218868437227405312 : UInt64))])) _
      exact retOut X0 hx Bd.returns rfl (Or.inr (Or.inr (Or.inl ⟨rfl, rfl, _, rfl⟩))) (hb hby d2_7) hr
    · rw [hrx] at hr
      show Steps p.tables e below (s₁.setTop (mkF m 0 #[.val (.int a)] [])) _
      refine XS.iloadN X0.here hx rfl (hb hby d2_0) rfl ?_
      show Steps p.tables e below (s₁.setTop (mkF m 1 #[.val (.int a)] [(.int a)])) _
      refine XS.ifYes X0.here hx rfl (pc0 := 1) (pc' := 8) rfl (hb hby d2_1) rfl ((if0 _ _).trans (feq c0).2) (by decide) (by decide) ?_
      show Steps p.tables e below (s₁.setTop (mkF m 8 #[.val (.int a)] [])) _
      refine XS.iloadN X0.here hx rfl (hb hby d2_8) rfl ?_
      show Steps p.tables e below (s₁.setTop (mkF m 9 #[.val (.int a)] [(.int a)])) _
      refine XS.iconst X0.here hx rfl (hb hby d2_9) ?_
      show Steps p.tables e below (s₁.setTop (mkF m 10 #[.val (.int a)] [(.int (1 : Int32)), (.int a)])) _
      refine XS.icmpNo X0.here hx rfl (hb hby d2_10) rfl (teq c1).2 ?_
      show Steps p.tables e below (s₁.setTop (mkF m 13 #[.val (.int a)] [])) _
      refine X0.ldc2DoubleC hx hown (mvT hZ (hw _ (List.mem_of_getElem? (i := 16) rfl))) (g := (mkF m 13 #[.val (.int a)] [])) rfl (hb hby d2_13) _ ?_
      show Steps p.tables e below (s₁.setTop (mkF m 16 #[.val (.int a)] [(.double (18442240474082181120 : UInt64))])) _
      exact retOut X0 hx Bd.returns rfl (Or.inr (Or.inr (Or.inl ⟨rfl, rfl, _, rfl⟩))) (hb hby d2_16) hr
    · rw [hrx] at hr
      show Steps p.tables e below (s₁.setTop (mkF m 0 #[.val (.int a)] [])) _
      refine XS.iloadN X0.here hx rfl (hb hby d2_0) rfl ?_
      show Steps p.tables e below (s₁.setTop (mkF m 1 #[.val (.int a)] [(.int a)])) _
      refine XS.ifYes X0.here hx rfl (pc0 := 1) (pc' := 8) rfl (hb hby d2_1) rfl ((if0 _ _).trans (feq c0).2) (by decide) (by decide) ?_
      show Steps p.tables e below (s₁.setTop (mkF m 8 #[.val (.int a)] [])) _
      refine XS.iloadN X0.here hx rfl (hb hby d2_8) rfl ?_
      show Steps p.tables e below (s₁.setTop (mkF m 9 #[.val (.int a)] [(.int a)])) _
      refine XS.iconst X0.here hx rfl (hb hby d2_9) ?_
      show Steps p.tables e below (s₁.setTop (mkF m 10 #[.val (.int a)] [(.int (1 : Int32)), (.int a)])) _
      refine XS.icmpYes X0.here hx rfl (pc0 := 10) (pc' := 17) rfl (hb hby d2_10) rfl (feq c1).2 (by decide) (by decide) ?_
      show Steps p.tables e below (s₁.setTop (mkF m 17 #[.val (.int a)] [])) _
      refine XS.iloadN X0.here hx rfl (hb hby d2_17) rfl ?_
      show Steps p.tables e below (s₁.setTop (mkF m 18 #[.val (.int a)] [(.int a)])) _
      refine XS.iconst X0.here hx rfl (hb hby d2_18) ?_
      show Steps p.tables e below (s₁.setTop (mkF m 19 #[.val (.int a)] [(.int (2 : Int32)), (.int a)])) _
      refine XS.icmpNo X0.here hx rfl (hb hby d2_19) rfl (teq c2).2 ?_
      show Steps p.tables e below (s₁.setTop (mkF m 22 #[.val (.int a)] [])) _
      refine X0.ldc2DoubleC hx hown (mvT hZ (hw _ (List.mem_of_getElem? (i := 10) rfl))) (g := (mkF m 22 #[.val (.int a)] [])) rfl (hb hby d2_22) _ ?_
      show Steps p.tables e below (s₁.setTop (mkF m 25 #[.val (.int a)] [(.double (9223372036854775808 : UInt64))])) _
      exact retOut X0 hx Bd.returns rfl (Or.inr (Or.inr (Or.inl ⟨rfl, rfl, _, rfl⟩))) (hb hby d2_25) hr
    · rw [hrx] at hr
      show Steps p.tables e below (s₁.setTop (mkF m 0 #[.val (.int a)] [])) _
      refine XS.iloadN X0.here hx rfl (hb hby d2_0) rfl ?_
      show Steps p.tables e below (s₁.setTop (mkF m 1 #[.val (.int a)] [(.int a)])) _
      refine XS.ifYes X0.here hx rfl (pc0 := 1) (pc' := 8) rfl (hb hby d2_1) rfl ((if0 _ _).trans (feq c0).2) (by decide) (by decide) ?_
      show Steps p.tables e below (s₁.setTop (mkF m 8 #[.val (.int a)] [])) _
      refine XS.iloadN X0.here hx rfl (hb hby d2_8) rfl ?_
      show Steps p.tables e below (s₁.setTop (mkF m 9 #[.val (.int a)] [(.int a)])) _
      refine XS.iconst X0.here hx rfl (hb hby d2_9) ?_
      show Steps p.tables e below (s₁.setTop (mkF m 10 #[.val (.int a)] [(.int (1 : Int32)), (.int a)])) _
      refine XS.icmpYes X0.here hx rfl (pc0 := 10) (pc' := 17) rfl (hb hby d2_10) rfl (feq c1).2 (by decide) (by decide) ?_
      show Steps p.tables e below (s₁.setTop (mkF m 17 #[.val (.int a)] [])) _
      refine XS.iloadN X0.here hx rfl (hb hby d2_17) rfl ?_
      show Steps p.tables e below (s₁.setTop (mkF m 18 #[.val (.int a)] [(.int a)])) _
      refine XS.iconst X0.here hx rfl (hb hby d2_18) ?_
      show Steps p.tables e below (s₁.setTop (mkF m 19 #[.val (.int a)] [(.int (2 : Int32)), (.int a)])) _
      refine XS.icmpYes X0.here hx rfl (pc0 := 19) (pc' := 26) rfl (hb hby d2_19) rfl (feq c2).2 (by decide) (by decide) ?_
      show Steps p.tables e below (s₁.setTop (mkF m 26 #[.val (.int a)] [])) _
      refine XS.iloadN X0.here hx rfl (hb hby d2_26) rfl ?_
      show Steps p.tables e below (s₁.setTop (mkF m 27 #[.val (.int a)] [(.int a)])) _
      refine XS.iconst X0.here hx rfl (hb hby d2_27) ?_
      show Steps p.tables e below (s₁.setTop (mkF m 28 #[.val (.int a)] [(.int (3 : Int32)), (.int a)])) _
      refine XS.icmpNo X0.here hx rfl (hb hby d2_28) rfl (teq c3).2 ?_
      show Steps p.tables e below (s₁.setTop (mkF m 31 #[.val (.int a)] [])) _
      refine X0.ldc2DoubleC hx hown (mvT hZ (hw _ (List.mem_of_getElem? (i := 20) rfl))) (g := (mkF m 31 #[.val (.int a)] [])) rfl (hb hby d2_31) _ ?_
      show Steps p.tables e below (s₁.setTop (mkF m 34 #[.val (.int a)] [(.double (1 : UInt64))])) _
      exact retOut X0 hx Bd.returns rfl (Or.inr (Or.inr (Or.inl ⟨rfl, rfl, _, rfl⟩))) (hb hby d2_34) hr
    · rw [hrx] at hr
      show Steps p.tables e below (s₁.setTop (mkF m 0 #[.val (.int a)] [])) _
      refine XS.iloadN X0.here hx rfl (hb hby d2_0) rfl ?_
      show Steps p.tables e below (s₁.setTop (mkF m 1 #[.val (.int a)] [(.int a)])) _
      refine XS.ifYes X0.here hx rfl (pc0 := 1) (pc' := 8) rfl (hb hby d2_1) rfl ((if0 _ _).trans (feq c0).2) (by decide) (by decide) ?_
      show Steps p.tables e below (s₁.setTop (mkF m 8 #[.val (.int a)] [])) _
      refine XS.iloadN X0.here hx rfl (hb hby d2_8) rfl ?_
      show Steps p.tables e below (s₁.setTop (mkF m 9 #[.val (.int a)] [(.int a)])) _
      refine XS.iconst X0.here hx rfl (hb hby d2_9) ?_
      show Steps p.tables e below (s₁.setTop (mkF m 10 #[.val (.int a)] [(.int (1 : Int32)), (.int a)])) _
      refine XS.icmpYes X0.here hx rfl (pc0 := 10) (pc' := 17) rfl (hb hby d2_10) rfl (feq c1).2 (by decide) (by decide) ?_
      show Steps p.tables e below (s₁.setTop (mkF m 17 #[.val (.int a)] [])) _
      refine XS.iloadN X0.here hx rfl (hb hby d2_17) rfl ?_
      show Steps p.tables e below (s₁.setTop (mkF m 18 #[.val (.int a)] [(.int a)])) _
      refine XS.iconst X0.here hx rfl (hb hby d2_18) ?_
      show Steps p.tables e below (s₁.setTop (mkF m 19 #[.val (.int a)] [(.int (2 : Int32)), (.int a)])) _
      refine XS.icmpYes X0.here hx rfl (pc0 := 19) (pc' := 26) rfl (hb hby d2_19) rfl (feq c2).2 (by decide) (by decide) ?_
      show Steps p.tables e below (s₁.setTop (mkF m 26 #[.val (.int a)] [])) _
      refine XS.iloadN X0.here hx rfl (hb hby d2_26) rfl ?_
      show Steps p.tables e below (s₁.setTop (mkF m 27 #[.val (.int a)] [(.int a)])) _
      refine XS.iconst X0.here hx rfl (hb hby d2_27) ?_
      show Steps p.tables e below (s₁.setTop (mkF m 28 #[.val (.int a)] [(.int (3 : Int32)), (.int a)])) _
      refine XS.icmpYes X0.here hx rfl (pc0 := 28) (pc' := 35) rfl (hb hby d2_28) rfl (feq c3).2 (by decide) (by decide) ?_
      show Steps p.tables e below (s₁.setTop (mkF m 35 #[.val (.int a)] [])) _
      refine XS.iloadN X0.here hx rfl (hb hby d2_35) rfl ?_
      show Steps p.tables e below (s₁.setTop (mkF m 36 #[.val (.int a)] [(.int a)])) _
      refine XS.iconst X0.here hx rfl (hb hby d2_36) ?_
      show Steps p.tables e below (s₁.setTop (mkF m 37 #[.val (.int a)] [(.int (4 : Int32)), (.int a)])) _
      refine XS.icmpNo X0.here hx rfl (hb hby d2_37) rfl (teq c4).2 ?_
      show Steps p.tables e below (s₁.setTop (mkF m 40 #[.val (.int a)] [])) _
      refine X0.ldc2DoubleC hx hown (mvT hZ (hw _ (List.mem_of_getElem? (i := 22) rfl))) (g := (mkF m 40 #[.val (.int a)] [])) rfl (hb hby d2_40) _ ?_
      show Steps p.tables e below (s₁.setTop (mkF m 43 #[.val (.int a)] [(.double (9218868437227405311 : UInt64))])) _
      exact retOut X0 hx Bd.returns rfl (Or.inr (Or.inr (Or.inl ⟨rfl, rfl, _, rfl⟩))) (hb hby d2_43) hr
    · rw [hrx] at hr
      show Steps p.tables e below (s₁.setTop (mkF m 0 #[.val (.int a)] [])) _
      refine XS.iloadN X0.here hx rfl (hb hby d2_0) rfl ?_
      show Steps p.tables e below (s₁.setTop (mkF m 1 #[.val (.int a)] [(.int a)])) _
      refine XS.ifYes X0.here hx rfl (pc0 := 1) (pc' := 8) rfl (hb hby d2_1) rfl ((if0 _ _).trans (feq c0).2) (by decide) (by decide) ?_
      show Steps p.tables e below (s₁.setTop (mkF m 8 #[.val (.int a)] [])) _
      refine XS.iloadN X0.here hx rfl (hb hby d2_8) rfl ?_
      show Steps p.tables e below (s₁.setTop (mkF m 9 #[.val (.int a)] [(.int a)])) _
      refine XS.iconst X0.here hx rfl (hb hby d2_9) ?_
      show Steps p.tables e below (s₁.setTop (mkF m 10 #[.val (.int a)] [(.int (1 : Int32)), (.int a)])) _
      refine XS.icmpYes X0.here hx rfl (pc0 := 10) (pc' := 17) rfl (hb hby d2_10) rfl (feq c1).2 (by decide) (by decide) ?_
      show Steps p.tables e below (s₁.setTop (mkF m 17 #[.val (.int a)] [])) _
      refine XS.iloadN X0.here hx rfl (hb hby d2_17) rfl ?_
      show Steps p.tables e below (s₁.setTop (mkF m 18 #[.val (.int a)] [(.int a)])) _
      refine XS.iconst X0.here hx rfl (hb hby d2_18) ?_
      show Steps p.tables e below (s₁.setTop (mkF m 19 #[.val (.int a)] [(.int (2 : Int32)), (.int a)])) _
      refine XS.icmpYes X0.here hx rfl (pc0 := 19) (pc' := 26) rfl (hb hby d2_19) rfl (feq c2).2 (by decide) (by decide) ?_
      show Steps p.tables e below (s₁.setTop (mkF m 26 #[.val (.int a)] [])) _
      refine XS.iloadN X0.here hx rfl (hb hby d2_26) rfl ?_
      show Steps p.tables e below (s₁.setTop (mkF m 27 #[.val (.int a)] [(.int a)])) _
      refine XS.iconst X0.here hx rfl (hb hby d2_27) ?_
      show Steps p.tables e below (s₁.setTop (mkF m 28 #[.val (.int a)] [(.int (3 : Int32)), (.int a)])) _
      refine XS.icmpYes X0.here hx rfl (pc0 := 28) (pc' := 35) rfl (hb hby d2_28) rfl (feq c3).2 (by decide) (by decide) ?_
      show Steps p.tables e below (s₁.setTop (mkF m 35 #[.val (.int a)] [])) _
      refine XS.iloadN X0.here hx rfl (hb hby d2_35) rfl ?_
      show Steps p.tables e below (s₁.setTop (mkF m 36 #[.val (.int a)] [(.int a)])) _
      refine XS.iconst X0.here hx rfl (hb hby d2_36) ?_
      show Steps p.tables e below (s₁.setTop (mkF m 37 #[.val (.int a)] [(.int (4 : Int32)), (.int a)])) _
      refine XS.icmpYes X0.here hx rfl (pc0 := 37) (pc' := 44) rfl (hb hby d2_37) rfl (feq c4).2 (by decide) (by decide) ?_
      show Steps p.tables e below (s₁.setTop (mkF m 44 #[.val (.int a)] [])) _
      refine XS.iloadN X0.here hx rfl (hb hby d2_44) rfl ?_
      show Steps p.tables e below (s₁.setTop (mkF m 45 #[.val (.int a)] [(.int a)])) _
      refine XS.iconst X0.here hx rfl (hb hby d2_45) ?_
      show Steps p.tables e below (s₁.setTop (mkF m 46 #[.val (.int a)] [(.int (5 : Int32)), (.int a)])) _
      refine XS.icmpNo X0.here hx rfl (hb hby d2_46) rfl (teq c5).2 ?_
      show Steps p.tables e below (s₁.setTop (mkF m 49 #[.val (.int a)] [])) _
      refine X0.ldc2DoubleC hx hown (mvT hZ (hw _ (List.mem_of_getElem? (i := 23) rfl))) (g := (mkF m 49 #[.val (.int a)] [])) rfl (hb hby d2_49) _ ?_
      show Steps p.tables e below (s₁.setTop (mkF m 52 #[.val (.int a)] [(.double (4845873199050653695 : UInt64))])) _
      exact retOut X0 hx Bd.returns rfl (Or.inr (Or.inr (Or.inl ⟨rfl, rfl, _, rfl⟩))) (hb hby d2_52) hr
    · rw [hrx] at hr
      show Steps p.tables e below (s₁.setTop (mkF m 0 #[.val (.int a)] [])) _
      refine XS.iloadN X0.here hx rfl (hb hby d2_0) rfl ?_
      show Steps p.tables e below (s₁.setTop (mkF m 1 #[.val (.int a)] [(.int a)])) _
      refine XS.ifYes X0.here hx rfl (pc0 := 1) (pc' := 8) rfl (hb hby d2_1) rfl ((if0 _ _).trans (feq c0).2) (by decide) (by decide) ?_
      show Steps p.tables e below (s₁.setTop (mkF m 8 #[.val (.int a)] [])) _
      refine XS.iloadN X0.here hx rfl (hb hby d2_8) rfl ?_
      show Steps p.tables e below (s₁.setTop (mkF m 9 #[.val (.int a)] [(.int a)])) _
      refine XS.iconst X0.here hx rfl (hb hby d2_9) ?_
      show Steps p.tables e below (s₁.setTop (mkF m 10 #[.val (.int a)] [(.int (1 : Int32)), (.int a)])) _
      refine XS.icmpYes X0.here hx rfl (pc0 := 10) (pc' := 17) rfl (hb hby d2_10) rfl (feq c1).2 (by decide) (by decide) ?_
      show Steps p.tables e below (s₁.setTop (mkF m 17 #[.val (.int a)] [])) _
      refine XS.iloadN X0.here hx rfl (hb hby d2_17) rfl ?_
      show Steps p.tables e below (s₁.setTop (mkF m 18 #[.val (.int a)] [(.int a)])) _
      refine XS.iconst X0.here hx rfl (hb hby d2_18) ?_
      show Steps p.tables e below (s₁.setTop (mkF m 19 #[.val (.int a)] [(.int (2 : Int32)), (.int a)])) _
      refine XS.icmpYes X0.here hx rfl (pc0 := 19) (pc' := 26) rfl (hb hby d2_19) rfl (feq c2).2 (by decide) (by decide) ?_
      show Steps p.tables e below (s₁.setTop (mkF m 26 #[.val (.int a)] [])) _
      refine XS.iloadN X0.here hx rfl (hb hby d2_26) rfl ?_
      show Steps p.tables e below (s₁.setTop (mkF m 27 #[.val (.int a)] [(.int a)])) _
      refine XS.iconst X0.here hx rfl (hb hby d2_27) ?_
      show Steps p.tables e below (s₁.setTop (mkF m 28 #[.val (.int a)] [(.int (3 : Int32)), (.int a)])) _
      refine XS.icmpYes X0.here hx rfl (pc0 := 28) (pc' := 35) rfl (hb hby d2_28) rfl (feq c3).2 (by decide) (by decide) ?_
      show Steps p.tables e below (s₁.setTop (mkF m 35 #[.val (.int a)] [])) _
      refine XS.iloadN X0.here hx rfl (hb hby d2_35) rfl ?_
      show Steps p.tables e below (s₁.setTop (mkF m 36 #[.val (.int a)] [(.int a)])) _
      refine XS.iconst X0.here hx rfl (hb hby d2_36) ?_
      show Steps p.tables e below (s₁.setTop (mkF m 37 #[.val (.int a)] [(.int (4 : Int32)), (.int a)])) _
      refine XS.icmpYes X0.here hx rfl (pc0 := 37) (pc' := 44) rfl (hb hby d2_37) rfl (feq c4).2 (by decide) (by decide) ?_
      show Steps p.tables e below (s₁.setTop (mkF m 44 #[.val (.int a)] [])) _
      refine XS.iloadN X0.here hx rfl (hb hby d2_44) rfl ?_
      show Steps p.tables e below (s₁.setTop (mkF m 45 #[.val (.int a)] [(.int a)])) _
      refine XS.iconst X0.here hx rfl (hb hby d2_45) ?_
      show Steps p.tables e below (s₁.setTop (mkF m 46 #[.val (.int a)] [(.int (5 : Int32)), (.int a)])) _
      refine XS.icmpYes X0.here hx rfl (pc0 := 46) (pc' := 53) rfl (hb hby d2_46) rfl (feq c5).2 (by decide) (by decide) ?_
      show Steps p.tables e below (s₁.setTop (mkF m 53 #[.val (.int a)] [])) _
      refine XS.iloadN X0.here hx rfl (hb hby d2_53) rfl ?_
      show Steps p.tables e below (s₁.setTop (mkF m 54 #[.val (.int a)] [(.int a)])) _
      refine XS.bipush X0.here hx rfl (hb hby d2_54) ?_
      show Steps p.tables e below (s₁.setTop (mkF m 56 #[.val (.int a)] [(.int (6 : Int32)), (.int a)])) _
      refine XS.icmpNo X0.here hx rfl (hb hby d2_56) rfl (teq c6).2 ?_
      show Steps p.tables e below (s₁.setTop (mkF m 59 #[.val (.int a)] [])) _
      refine X0.ldc2DoubleC hx hown (mvT hZ (hw _ (List.mem_of_getElem? (i := 24) rfl))) (g := (mkF m 59 #[.val (.int a)] [])) rfl (hb hby d2_59) _ ?_
      show Steps p.tables e below (s₁.setTop (mkF m 62 #[.val (.int a)] [(.double (4841369599423283199 : UInt64))])) _
      exact retOut X0 hx Bd.returns rfl (Or.inr (Or.inr (Or.inl ⟨rfl, rfl, _, rfl⟩))) (hb hby d2_62) hr
    · rw [hrx] at hr
      show Steps p.tables e below (s₁.setTop (mkF m 0 #[.val (.int a)] [])) _
      refine XS.iloadN X0.here hx rfl (hb hby d2_0) rfl ?_
      show Steps p.tables e below (s₁.setTop (mkF m 1 #[.val (.int a)] [(.int a)])) _
      refine XS.ifYes X0.here hx rfl (pc0 := 1) (pc' := 8) rfl (hb hby d2_1) rfl ((if0 _ _).trans (feq c0).2) (by decide) (by decide) ?_
      show Steps p.tables e below (s₁.setTop (mkF m 8 #[.val (.int a)] [])) _
      refine XS.iloadN X0.here hx rfl (hb hby d2_8) rfl ?_
      show Steps p.tables e below (s₁.setTop (mkF m 9 #[.val (.int a)] [(.int a)])) _
      refine XS.iconst X0.here hx rfl (hb hby d2_9) ?_
      show Steps p.tables e below (s₁.setTop (mkF m 10 #[.val (.int a)] [(.int (1 : Int32)), (.int a)])) _
      refine XS.icmpYes X0.here hx rfl (pc0 := 10) (pc' := 17) rfl (hb hby d2_10) rfl (feq c1).2 (by decide) (by decide) ?_
      show Steps p.tables e below (s₁.setTop (mkF m 17 #[.val (.int a)] [])) _
      refine XS.iloadN X0.here hx rfl (hb hby d2_17) rfl ?_
      show Steps p.tables e below (s₁.setTop (mkF m 18 #[.val (.int a)] [(.int a)])) _
      refine XS.iconst X0.here hx rfl (hb hby d2_18) ?_
      show Steps p.tables e below (s₁.setTop (mkF m 19 #[.val (.int a)] [(.int (2 : Int32)), (.int a)])) _
      refine XS.icmpYes X0.here hx rfl (pc0 := 19) (pc' := 26) rfl (hb hby d2_19) rfl (feq c2).2 (by decide) (by decide) ?_
      show Steps p.tables e below (s₁.setTop (mkF m 26 #[.val (.int a)] [])) _
      refine XS.iloadN X0.here hx rfl (hb hby d2_26) rfl ?_
      show Steps p.tables e below (s₁.setTop (mkF m 27 #[.val (.int a)] [(.int a)])) _
      refine XS.iconst X0.here hx rfl (hb hby d2_27) ?_
      show Steps p.tables e below (s₁.setTop (mkF m 28 #[.val (.int a)] [(.int (3 : Int32)), (.int a)])) _
      refine XS.icmpYes X0.here hx rfl (pc0 := 28) (pc' := 35) rfl (hb hby d2_28) rfl (feq c3).2 (by decide) (by decide) ?_
      show Steps p.tables e below (s₁.setTop (mkF m 35 #[.val (.int a)] [])) _
      refine XS.iloadN X0.here hx rfl (hb hby d2_35) rfl ?_
      show Steps p.tables e below (s₁.setTop (mkF m 36 #[.val (.int a)] [(.int a)])) _
      refine XS.iconst X0.here hx rfl (hb hby d2_36) ?_
      show Steps p.tables e below (s₁.setTop (mkF m 37 #[.val (.int a)] [(.int (4 : Int32)), (.int a)])) _
      refine XS.icmpYes X0.here hx rfl (pc0 := 37) (pc' := 44) rfl (hb hby d2_37) rfl (feq c4).2 (by decide) (by decide) ?_
      show Steps p.tables e below (s₁.setTop (mkF m 44 #[.val (.int a)] [])) _
      refine XS.iloadN X0.here hx rfl (hb hby d2_44) rfl ?_
      show Steps p.tables e below (s₁.setTop (mkF m 45 #[.val (.int a)] [(.int a)])) _
      refine XS.iconst X0.here hx rfl (hb hby d2_45) ?_
      show Steps p.tables e below (s₁.setTop (mkF m 46 #[.val (.int a)] [(.int (5 : Int32)), (.int a)])) _
      refine XS.icmpYes X0.here hx rfl (pc0 := 46) (pc' := 53) rfl (hb hby d2_46) rfl (feq c5).2 (by decide) (by decide) ?_
      show Steps p.tables e below (s₁.setTop (mkF m 53 #[.val (.int a)] [])) _
      refine XS.iloadN X0.here hx rfl (hb hby d2_53) rfl ?_
      show Steps p.tables e below (s₁.setTop (mkF m 54 #[.val (.int a)] [(.int a)])) _
      refine XS.bipush X0.here hx rfl (hb hby d2_54) ?_
      show Steps p.tables e below (s₁.setTop (mkF m 56 #[.val (.int a)] [(.int (6 : Int32)), (.int a)])) _
      refine XS.icmpYes X0.here hx rfl (pc0 := 56) (pc' := 63) rfl (hb hby d2_56) rfl (feq c6).2 (by decide) (by decide) ?_
      show Steps p.tables e below (s₁.setTop (mkF m 63 #[.val (.int a)] [])) _
      refine X0.ldc2DoubleC hx hown (mvT hZ (hw _ (List.mem_of_getElem? (i := 18) rfl))) (g := (mkF m 63 #[.val (.int a)] [])) rfl (hb hby d2_63) _ ?_
      show Steps p.tables e below (s₁.setTop (mkF m 66 #[.val (.int a)] [(.double (4845873199050653694 : UInt64))])) _
      exact retOut X0 hx Bd.returns rfl (Or.inr (Or.inr (Or.inl ⟨rfl, rfl, _, rfl⟩))) (hb hby d2_66) hr
  · show Q2 Z a r h0 n0 _ s₁.heap _
    rw [e0]
    exact ⟨rfl, N0, rfl⟩
/-! ## specialExpected -/
theorem d3_0 : decode method_3_code 0 = .ok (.iload_n 0, 1) := by decide +kernel
theorem d3_1 : decode method_3_code 1 = .ok (.ifCond .eq 13, 3) := by decide +kernel
theorem d3_4 : decode method_3_code 4 = .ok (.iload_n 0, 1) := by decide +kernel
theorem d3_5 : decode method_3_code 5 = .ok (.iconst 4, 1) := by decide +kernel
theorem d3_6 : decode method_3_code 6 = .ok (.if_icmp .eq 8, 3) := by decide +kernel
theorem d3_9 : decode method_3_code 9 = .ok (.iload_n 0, 1) := by decide +kernel
theorem d3_10 : decode method_3_code 10 = .ok (.iconst 5, 1) := by decide +kernel
theorem d3_11 : decode method_3_code 11 = .ok (.if_icmp .ne 7, 3) := by decide +kernel
theorem d3_14 : decode method_3_code 14 = .ok (.ldc2_w 25, 3) := by decide +kernel
theorem d3_17 : decode method_3_code 17 = .ok (.lreturn, 1) := by decide +kernel
theorem d3_18 : decode method_3_code 18 = .ok (.iload_n 0, 1) := by decide +kernel
theorem d3_19 : decode method_3_code 19 = .ok (.bipush 6, 2) := by decide +kernel
theorem d3_21 : decode method_3_code 21 = .ok (.if_icmp .ne 7, 3) := by decide +kernel
theorem d3_24 : decode method_3_code 24 = .ok (.ldc2_w 27, 3) := by decide +kernel
theorem d3_27 : decode method_3_code 27 = .ok (.lreturn, 1) := by decide +kernel
theorem d3_28 : decode method_3_code 28 = .ok (.iload_n 0, 1) := by decide +kernel
theorem d3_29 : decode method_3_code 29 = .ok (.bipush 7, 2) := by decide +kernel
theorem d3_31 : decode method_3_code 31 = .ok (.if_icmp .ne 7, 3) := by decide +kernel
theorem d3_34 : decode method_3_code 34 = .ok (.ldc2_w 29, 3) := by decide +kernel
theorem d3_37 : decode method_3_code 37 = .ok (.lreturn, 1) := by decide +kernel
theorem d3_38 : decode method_3_code 38 = .ok (.lconst 0, 1) := by decide +kernel
theorem d3_39 : decode method_3_code 39 = .ok (.lreturn, 1) := by decide +kernel
theorem pd3 : parseMethodDescriptor "(I)J" = some ⟨[.int], (some .long)⟩ := by decide +kernel
theorem ef3 (m : MethodId) (a : Int32) : entryFrame m #[(.int a)] 1 = mkF m 0 #[.val (.int a)] [] := by first | (simp [entryFrame, mkF, argsToLocals, Value.category]; done) | rfl
def Q3 (Z : State) (a : Int32) (r : Int64) (h0 : Heap) (n0 : Nat) (v : Option Value) (h : Heap) (L : List Loc) : Prop := v = some (.long r) ∧ Fr n0 L ∧ h = h0
set_option maxRecDepth 65536 in
set_option maxHeartbeats 40000000 in
theorem rm3 (l : Launch) (Z : State) (a0 : Array Value) (hw : ∀ d ∈ tables_1, d.before a0 Z = true) (ws : List Jvm.Cond) (a : Int32) (r : Int64) (h0 : Heap) (n0 : Nat) (Z0 : n0 ≤ h0.size) (h3 : own_se a r) :
    MetFree l (⟨"com/example/tapir/tapir/runtime/ConversionsToLengthPinLaw", "specialExpected", "(I)J"⟩ : MethodName) (head1 (Jvm.Cond.code (⟨"com/example/tapir/tapir/runtime/ConversionsToLengthPinLaw", "specialExpected", "(I)J"⟩ : MethodName) method_3_code 1 (some .long) :: ws) ({ frames := 0, cells := 0, slots := 0, locals := 0 } : Room)) (fun aa U => aa = #[(.int a)] ∧ Z.Warmed39 U.vm ∧ U.heap = h0) (fun _ _ _ _ _ => True) (fun _ U o U' => ∃ v L, o = .returned v ∧ Q3 Z a r h0 n0 v U'.heap L ∧ FrameEnd U o U' L ({ frames := 0, cells := 0, slots := 0, locals := 0 } : Room).cells ({ frames := 0, cells := 0, slots := 0, locals := 0 } : Room).slots) := by
  refine MetFree.of_bodySF (plainFor_of_name pn0) hisR ?_
  intro p e s m args below meth c s₁ Bd hml0 hP hK
  obtain ⟨rfl, hZ, hh⟩ := hP
  have hx := Bd.exec
  have hby := Bd.bytes
  have hml : c.maxLocals = 1 := hml0
  have hown : s.vm.findClass "com/example/tapir/tapir/runtime/ConversionsToLengthPinLaw" = some m.cls := findClass_of_methodNamed Bd.named
  have hnm := (name_of_methodNamed Bd.named Bd.method).1
  have X0 : Stand p l e ({ frames := 0, cells := 0, slots := 0, locals := 0 } : Room) s m #[(.int a)] below meth c s₁ [] 0 0 := Stand.of_body Bd
  have e0 : s₁.heap = h0 := by rw [← hh, Bd.state]; rfl
  have N0 := Fr.nil n0
  have pre0 : ∀ t, Steps p.tables e below (s₁.setTop (mkF m 0 #[.val (.int a)] [])) t → Steps p.tables e below (s₁.setTop (entryFrame m #[(.int a)] 1)) t := fun t k => castTop (ef3 m a) k
  obtain ⟨fs, hr, hrun, hended, hW, hsame⟩ := X0.leave (v := some (.long r)) (fun h => by rw [Bd.returns] at h; cases h)
  refine ⟨_, _, pre0 _ ?_, hrun, hended, _, _, rfl, ?_, ⟨_, rfl⟩, hW, hsame.mono (by decide) (by decide)⟩
  · rcases h3 with ⟨c0, hrx⟩ | ⟨c0, c4, hrx⟩ | ⟨c0, c4, c5, hrx⟩ | ⟨c0, c4, c5, c6, hrx⟩ | ⟨c0, c4, c5, c6, c7, hrx⟩ | ⟨c0, c4, c5, c6, c7, hrx⟩
    · rw [hrx] at hr
      show Steps p.tables e below (s₁.setTop (mkF m 0 #[.val (.int a)] [])) _
      refine XS.iloadN X0.here hx rfl (hb hby d3_0) rfl ?_
      show Steps p.tables e below (s₁.setTop (mkF m 1 #[.val (.int a)] [(.int a)])) _
      refine XS.ifYes X0.here hx rfl (pc0 := 1) (pc' := 14) rfl (hb hby d3_1) rfl ((if0 _ _).trans (teq c0).1) (by decide) (by decide) ?_
      show Steps p.tables e below (s₁.setTop (mkF m 14 #[.val (.int a)] [])) _
      refine X0.ldc2Long hx hown (mvT hZ (hw _ (List.mem_of_getElem? (i := 0) rfl))) (g := (mkF m 14 #[.val (.int a)] [])) rfl (hb hby d3_14) _ ?_
      show Steps p.tables e below (s₁.setTop (mkF m 17 #[.val (.int a)] [(.long (9007199254740991 : Int64))])) _
      exact retOut X0 hx Bd.returns rfl (Or.inr (Or.inl ⟨rfl, rfl, _, rfl⟩)) (hb hby d3_17) hr
    · rw [hrx] at hr
      show Steps p.tables e below (s₁.setTop (mkF m 0 #[.val (.int a)] [])) _
      refine XS.iloadN X0.here hx rfl (hb hby d3_0) rfl ?_
      show Steps p.tables e below (s₁.setTop (mkF m 1 #[.val (.int a)] [(.int a)])) _
      refine XS.ifNo X0.here hx rfl (hb hby d3_1) rfl ((if0 _ _).trans (feq c0).1) ?_
      show Steps p.tables e below (s₁.setTop (mkF m 4 #[.val (.int a)] [])) _
      refine XS.iloadN X0.here hx rfl (hb hby d3_4) rfl ?_
      show Steps p.tables e below (s₁.setTop (mkF m 5 #[.val (.int a)] [(.int a)])) _
      refine XS.iconst X0.here hx rfl (hb hby d3_5) ?_
      show Steps p.tables e below (s₁.setTop (mkF m 6 #[.val (.int a)] [(.int (4 : Int32)), (.int a)])) _
      refine XS.icmpYes X0.here hx rfl (pc0 := 6) (pc' := 14) rfl (hb hby d3_6) rfl (teq c4).1 (by decide) (by decide) ?_
      show Steps p.tables e below (s₁.setTop (mkF m 14 #[.val (.int a)] [])) _
      refine X0.ldc2Long hx hown (mvT hZ (hw _ (List.mem_of_getElem? (i := 0) rfl))) (g := (mkF m 14 #[.val (.int a)] [])) rfl (hb hby d3_14) _ ?_
      show Steps p.tables e below (s₁.setTop (mkF m 17 #[.val (.int a)] [(.long (9007199254740991 : Int64))])) _
      exact retOut X0 hx Bd.returns rfl (Or.inr (Or.inl ⟨rfl, rfl, _, rfl⟩)) (hb hby d3_17) hr
    · rw [hrx] at hr
      show Steps p.tables e below (s₁.setTop (mkF m 0 #[.val (.int a)] [])) _
      refine XS.iloadN X0.here hx rfl (hb hby d3_0) rfl ?_
      show Steps p.tables e below (s₁.setTop (mkF m 1 #[.val (.int a)] [(.int a)])) _
      refine XS.ifNo X0.here hx rfl (hb hby d3_1) rfl ((if0 _ _).trans (feq c0).1) ?_
      show Steps p.tables e below (s₁.setTop (mkF m 4 #[.val (.int a)] [])) _
      refine XS.iloadN X0.here hx rfl (hb hby d3_4) rfl ?_
      show Steps p.tables e below (s₁.setTop (mkF m 5 #[.val (.int a)] [(.int a)])) _
      refine XS.iconst X0.here hx rfl (hb hby d3_5) ?_
      show Steps p.tables e below (s₁.setTop (mkF m 6 #[.val (.int a)] [(.int (4 : Int32)), (.int a)])) _
      refine XS.icmpNo X0.here hx rfl (hb hby d3_6) rfl (feq c4).1 ?_
      show Steps p.tables e below (s₁.setTop (mkF m 9 #[.val (.int a)] [])) _
      refine XS.iloadN X0.here hx rfl (hb hby d3_9) rfl ?_
      show Steps p.tables e below (s₁.setTop (mkF m 10 #[.val (.int a)] [(.int a)])) _
      refine XS.iconst X0.here hx rfl (hb hby d3_10) ?_
      show Steps p.tables e below (s₁.setTop (mkF m 11 #[.val (.int a)] [(.int (5 : Int32)), (.int a)])) _
      refine XS.icmpNo X0.here hx rfl (hb hby d3_11) rfl (teq c5).2 ?_
      show Steps p.tables e below (s₁.setTop (mkF m 14 #[.val (.int a)] [])) _
      refine X0.ldc2Long hx hown (mvT hZ (hw _ (List.mem_of_getElem? (i := 0) rfl))) (g := (mkF m 14 #[.val (.int a)] [])) rfl (hb hby d3_14) _ ?_
      show Steps p.tables e below (s₁.setTop (mkF m 17 #[.val (.int a)] [(.long (9007199254740991 : Int64))])) _
      exact retOut X0 hx Bd.returns rfl (Or.inr (Or.inl ⟨rfl, rfl, _, rfl⟩)) (hb hby d3_17) hr
    · rw [hrx] at hr
      show Steps p.tables e below (s₁.setTop (mkF m 0 #[.val (.int a)] [])) _
      refine XS.iloadN X0.here hx rfl (hb hby d3_0) rfl ?_
      show Steps p.tables e below (s₁.setTop (mkF m 1 #[.val (.int a)] [(.int a)])) _
      refine XS.ifNo X0.here hx rfl (hb hby d3_1) rfl ((if0 _ _).trans (feq c0).1) ?_
      show Steps p.tables e below (s₁.setTop (mkF m 4 #[.val (.int a)] [])) _
      refine XS.iloadN X0.here hx rfl (hb hby d3_4) rfl ?_
      show Steps p.tables e below (s₁.setTop (mkF m 5 #[.val (.int a)] [(.int a)])) _
      refine XS.iconst X0.here hx rfl (hb hby d3_5) ?_
      show Steps p.tables e below (s₁.setTop (mkF m 6 #[.val (.int a)] [(.int (4 : Int32)), (.int a)])) _
      refine XS.icmpNo X0.here hx rfl (hb hby d3_6) rfl (feq c4).1 ?_
      show Steps p.tables e below (s₁.setTop (mkF m 9 #[.val (.int a)] [])) _
      refine XS.iloadN X0.here hx rfl (hb hby d3_9) rfl ?_
      show Steps p.tables e below (s₁.setTop (mkF m 10 #[.val (.int a)] [(.int a)])) _
      refine XS.iconst X0.here hx rfl (hb hby d3_10) ?_
      show Steps p.tables e below (s₁.setTop (mkF m 11 #[.val (.int a)] [(.int (5 : Int32)), (.int a)])) _
      refine XS.icmpYes X0.here hx rfl (pc0 := 11) (pc' := 18) rfl (hb hby d3_11) rfl (feq c5).2 (by decide) (by decide) ?_
      show Steps p.tables e below (s₁.setTop (mkF m 18 #[.val (.int a)] [])) _
      refine XS.iloadN X0.here hx rfl (hb hby d3_18) rfl ?_
      show Steps p.tables e below (s₁.setTop (mkF m 19 #[.val (.int a)] [(.int a)])) _
      refine XS.bipush X0.here hx rfl (hb hby d3_19) ?_
      show Steps p.tables e below (s₁.setTop (mkF m 21 #[.val (.int a)] [(.int (6 : Int32)), (.int a)])) _
      refine XS.icmpNo X0.here hx rfl (hb hby d3_21) rfl (teq c6).2 ?_
      show Steps p.tables e below (s₁.setTop (mkF m 24 #[.val (.int a)] [])) _
      refine X0.ldc2Long hx hown (mvT hZ (hw _ (List.mem_of_getElem? (i := 25) rfl))) (g := (mkF m 24 #[.val (.int a)] [])) rfl (hb hby d3_24) _ ?_
      show Steps p.tables e below (s₁.setTop (mkF m 27 #[.val (.int a)] [(.long (4503599627370495 : Int64))])) _
      exact retOut X0 hx Bd.returns rfl (Or.inr (Or.inl ⟨rfl, rfl, _, rfl⟩)) (hb hby d3_27) hr
    · rw [hrx] at hr
      show Steps p.tables e below (s₁.setTop (mkF m 0 #[.val (.int a)] [])) _
      refine XS.iloadN X0.here hx rfl (hb hby d3_0) rfl ?_
      show Steps p.tables e below (s₁.setTop (mkF m 1 #[.val (.int a)] [(.int a)])) _
      refine XS.ifNo X0.here hx rfl (hb hby d3_1) rfl ((if0 _ _).trans (feq c0).1) ?_
      show Steps p.tables e below (s₁.setTop (mkF m 4 #[.val (.int a)] [])) _
      refine XS.iloadN X0.here hx rfl (hb hby d3_4) rfl ?_
      show Steps p.tables e below (s₁.setTop (mkF m 5 #[.val (.int a)] [(.int a)])) _
      refine XS.iconst X0.here hx rfl (hb hby d3_5) ?_
      show Steps p.tables e below (s₁.setTop (mkF m 6 #[.val (.int a)] [(.int (4 : Int32)), (.int a)])) _
      refine XS.icmpNo X0.here hx rfl (hb hby d3_6) rfl (feq c4).1 ?_
      show Steps p.tables e below (s₁.setTop (mkF m 9 #[.val (.int a)] [])) _
      refine XS.iloadN X0.here hx rfl (hb hby d3_9) rfl ?_
      show Steps p.tables e below (s₁.setTop (mkF m 10 #[.val (.int a)] [(.int a)])) _
      refine XS.iconst X0.here hx rfl (hb hby d3_10) ?_
      show Steps p.tables e below (s₁.setTop (mkF m 11 #[.val (.int a)] [(.int (5 : Int32)), (.int a)])) _
      refine XS.icmpYes X0.here hx rfl (pc0 := 11) (pc' := 18) rfl (hb hby d3_11) rfl (feq c5).2 (by decide) (by decide) ?_
      show Steps p.tables e below (s₁.setTop (mkF m 18 #[.val (.int a)] [])) _
      refine XS.iloadN X0.here hx rfl (hb hby d3_18) rfl ?_
      show Steps p.tables e below (s₁.setTop (mkF m 19 #[.val (.int a)] [(.int a)])) _
      refine XS.bipush X0.here hx rfl (hb hby d3_19) ?_
      show Steps p.tables e below (s₁.setTop (mkF m 21 #[.val (.int a)] [(.int (6 : Int32)), (.int a)])) _
      refine XS.icmpYes X0.here hx rfl (pc0 := 21) (pc' := 28) rfl (hb hby d3_21) rfl (feq c6).2 (by decide) (by decide) ?_
      show Steps p.tables e below (s₁.setTop (mkF m 28 #[.val (.int a)] [])) _
      refine XS.iloadN X0.here hx rfl (hb hby d3_28) rfl ?_
      show Steps p.tables e below (s₁.setTop (mkF m 29 #[.val (.int a)] [(.int a)])) _
      refine XS.bipush X0.here hx rfl (hb hby d3_29) ?_
      show Steps p.tables e below (s₁.setTop (mkF m 31 #[.val (.int a)] [(.int (7 : Int32)), (.int a)])) _
      refine XS.icmpNo X0.here hx rfl (hb hby d3_31) rfl (teq c7).2 ?_
      show Steps p.tables e below (s₁.setTop (mkF m 34 #[.val (.int a)] [])) _
      refine X0.ldc2Long hx hown (mvT hZ (hw _ (List.mem_of_getElem? (i := 19) rfl))) (g := (mkF m 34 #[.val (.int a)] [])) rfl (hb hby d3_34) _ ?_
      show Steps p.tables e below (s₁.setTop (mkF m 37 #[.val (.int a)] [(.long (9007199254740990 : Int64))])) _
      exact retOut X0 hx Bd.returns rfl (Or.inr (Or.inl ⟨rfl, rfl, _, rfl⟩)) (hb hby d3_37) hr
    · rw [hrx] at hr
      show Steps p.tables e below (s₁.setTop (mkF m 0 #[.val (.int a)] [])) _
      refine XS.iloadN X0.here hx rfl (hb hby d3_0) rfl ?_
      show Steps p.tables e below (s₁.setTop (mkF m 1 #[.val (.int a)] [(.int a)])) _
      refine XS.ifNo X0.here hx rfl (hb hby d3_1) rfl ((if0 _ _).trans (feq c0).1) ?_
      show Steps p.tables e below (s₁.setTop (mkF m 4 #[.val (.int a)] [])) _
      refine XS.iloadN X0.here hx rfl (hb hby d3_4) rfl ?_
      show Steps p.tables e below (s₁.setTop (mkF m 5 #[.val (.int a)] [(.int a)])) _
      refine XS.iconst X0.here hx rfl (hb hby d3_5) ?_
      show Steps p.tables e below (s₁.setTop (mkF m 6 #[.val (.int a)] [(.int (4 : Int32)), (.int a)])) _
      refine XS.icmpNo X0.here hx rfl (hb hby d3_6) rfl (feq c4).1 ?_
      show Steps p.tables e below (s₁.setTop (mkF m 9 #[.val (.int a)] [])) _
      refine XS.iloadN X0.here hx rfl (hb hby d3_9) rfl ?_
      show Steps p.tables e below (s₁.setTop (mkF m 10 #[.val (.int a)] [(.int a)])) _
      refine XS.iconst X0.here hx rfl (hb hby d3_10) ?_
      show Steps p.tables e below (s₁.setTop (mkF m 11 #[.val (.int a)] [(.int (5 : Int32)), (.int a)])) _
      refine XS.icmpYes X0.here hx rfl (pc0 := 11) (pc' := 18) rfl (hb hby d3_11) rfl (feq c5).2 (by decide) (by decide) ?_
      show Steps p.tables e below (s₁.setTop (mkF m 18 #[.val (.int a)] [])) _
      refine XS.iloadN X0.here hx rfl (hb hby d3_18) rfl ?_
      show Steps p.tables e below (s₁.setTop (mkF m 19 #[.val (.int a)] [(.int a)])) _
      refine XS.bipush X0.here hx rfl (hb hby d3_19) ?_
      show Steps p.tables e below (s₁.setTop (mkF m 21 #[.val (.int a)] [(.int (6 : Int32)), (.int a)])) _
      refine XS.icmpYes X0.here hx rfl (pc0 := 21) (pc' := 28) rfl (hb hby d3_21) rfl (feq c6).2 (by decide) (by decide) ?_
      show Steps p.tables e below (s₁.setTop (mkF m 28 #[.val (.int a)] [])) _
      refine XS.iloadN X0.here hx rfl (hb hby d3_28) rfl ?_
      show Steps p.tables e below (s₁.setTop (mkF m 29 #[.val (.int a)] [(.int a)])) _
      refine XS.bipush X0.here hx rfl (hb hby d3_29) ?_
      show Steps p.tables e below (s₁.setTop (mkF m 31 #[.val (.int a)] [(.int (7 : Int32)), (.int a)])) _
      refine XS.icmpYes X0.here hx rfl (pc0 := 31) (pc' := 38) rfl (hb hby d3_31) rfl (feq c7).2 (by decide) (by decide) ?_
      show Steps p.tables e below (s₁.setTop (mkF m 38 #[.val (.int a)] [])) _
      refine XT.lconst X0.here hx rfl (hb hby d3_38) ?_
      show Steps p.tables e below (s₁.setTop (mkF m 39 #[.val (.int a)] [(.long (0 : Int64))])) _
      exact retOut X0 hx Bd.returns rfl (Or.inr (Or.inl ⟨rfl, rfl, _, rfl⟩)) (hb hby d3_39) hr
  · show Q3 Z a r h0 n0 _ s₁.heap _
    rw [e0]
    exact ⟨rfl, N0, rfl⟩
/-! ## the law -/
theorem ef0 (m : MethodId) (x0 : Int32) (x1 : Int64) (x2 : Int32) : entryFrame m #[(.int x0), (.long x1), (.int x2)] maxLocals = mkF m 0 #[.val (.int x0), .val (.long x1), .second, .val (.int x2), .unset, .unset, .unset, .unset, .unset, .unset, .unset, .unset] [] := by first | (simp [entryFrame, mkF, argsToLocals, Value.category, maxLocals]; done) | rfl
def Q0 (Z : State) (p1 : Int32) (p2 : Int64) (p3 : Int32) (h0 : Heap) (n0 : Nat) (v : Option Value) (h : Heap) (L : List Loc) : Prop := v = some (.int 1) ∧ Fr n0 L
set_option maxRecDepth 65536 in
set_option maxHeartbeats 40000000 in
theorem rm0 (l : Launch) (Z : State) (a0 : Array Value) (hw : ∀ d ∈ tables_1, d.before a0 Z = true) (ws : List Jvm.Cond) (p1 : Int32) (p2 : Int64) (p3 : Int32) (h0 : Heap) (n0 : Nat) (Z0 : n0 ≤ h0.size)  :
    MetFree l x (head1 (Jvm.Cond.code x code maxLocals ret :: ws) room_1) (fun aa U => aa = #[(.int p1), (.long p2), (.int p3)] ∧ Z.Warmed39 U.vm ∧ U.heap = h0) (fun _ _ _ _ _ => True) (fun _ U o U' => ∃ v L, o = .returned v ∧ Q0 Z p1 p2 p3 h0 n0 v U'.heap L ∧ FrameEnd U o U' L room_1.cells room_1.slots) := by
  refine MetFree.of_bodySF (plainFor_of_name pn0) hisR ?_
  intro p e s m args below meth c s₁ Bd hml0 hP hK
  obtain ⟨rfl, hZ, hh⟩ := hP
  have hx := Bd.exec
  have hby := Bd.bytes
  have hml : c.maxLocals = 12 := hml0
  have hown : s.vm.findClass "com/example/tapir/tapir/runtime/ConversionsToLengthPinLaw" = some m.cls := findClass_of_methodNamed Bd.named
  have hnm := (name_of_methodNamed Bd.named Bd.method).1
  have X0 : Stand p l e room_1 s m #[(.int p1), (.long p2), (.int p3)] below meth c s₁ [] 0 0 := Stand.of_body Bd
  have e0 : s₁.heap = h0 := by rw [← hh, Bd.state]; rfl
  have N0 := Fr.nil n0
  have pre0 : ∀ t, Steps p.tables e below (s₁.setTop (mkF m 0 #[.val (.int p1), .val (.long p2), .second, .val (.int p3), .unset, .unset, .unset, .unset, .unset, .unset, .unset, .unset] [])) t → Steps p.tables e below (s₁.setTop (entryFrame m #[(.int p1), (.long p2), (.int p3)] maxLocals)) t := fun t k => castTop (ef0 m p1 p2 p3) k
  have own_eqr {x y : Int64} (h : x = y) : XT.cmpL x y = 0 := by rw [own_lc_eq, h, if_neg (by rw [Int64.lt_iff_toInt_lt]; omega), if_pos rfl]
  by_cases c0 : (p1 &&& (3 : Int32)) = 0
  · by_cases g : 0 < p2
    · by_cases g2 : p2 < (9007199254740991 : Int64)
      · obtain ⟨_, _, ⟨T1, L1, k1, n1⟩, -, X1, ⟨Lc1, hQ1, l1, y1, z1⟩, st1⟩ := Jvm.LawKit.callS X0 hx (y := (⟨"com/example/tapir/tapir/runtime/Conversions", "toLength", "(D)J"⟩ : MethodName)) hown (mvT hZ (hw _ (List.mem_of_getElem? (i := 1) rfl))) (mvT hZ (hw _ (List.mem_of_getElem? (i := 2) rfl))) (mvT hZ (hw _ (List.mem_of_getElem? (i := 3) rfl))) (mvT hZ (hw _ (List.mem_of_getElem? (i := 4) rfl))) (by decide) (backOf (W := 0) (rm1 l Z a0 hw [] (FP.l2d p2) p2 h0 n0 Z0 (own_m0c g g2)) hZ (hw _ (List.mem_of_getElem? (i := 4) rfl)) (hw _ (List.mem_of_getElem? (i := 3) rfl)) (by decide) (by decide)) (g := (mkF m 150 #[.val (.int p1), .val (.long p2), .second, .val (.int p3), .val (.int (p1 &&& (3 : Int32))), .val (.double (FP.l2d p2)), .second, .val (.long p2), .second, .unset, .unset, .unset] [(.double (FP.l2d p2))])) rfl (by rw [hml]; rfl) (argsL := [(.double (FP.l2d p2))]) (rest := []) (lenOf pd1 rfl) rfl (by show 2 * 0 + _ ≤ _; exact Nat.le_of_eq rfl) (hb hby at_150) (fun _ _ => ⟨rfl, e0, (by decide : 0 + 0 ≤ _), (by decide : 0 + 0 ≤ _)⟩)
        dsimp only [Pt.U, Pt.locs, Pt.cells, Pt.slots] at X1 l1 y1 z1 st1 hQ1
        subst l1 y1 z1
        obtain ⟨rfl, N1, e1⟩ := hQ1
        have M1 := Fr.app N0 N1
        obtain ⟨fs, hr, hrun, hended, hW, hsame⟩ := X1.leave (v := some (.int (1 : Int32))) (fun h => by rw [Bd.returns] at h; cases h)
        refine ⟨_, _, pre0 _ ?_, hrun, hended, _, _, rfl, ?_, ⟨_, rfl⟩, hW, hsame.mono (by decide) (by decide)⟩
        · show Steps p.tables e below (s₁.setTop (mkF m 0 #[.val (.int p1), .val (.long p2), .second, .val (.int p3), .unset, .unset, .unset, .unset, .unset, .unset, .unset, .unset] [])) _
          refine XS.iloadN X0.here hx rfl (hb hby at_0) rfl ?_
          show Steps p.tables e below (s₁.setTop (mkF m 1 #[.val (.int p1), .val (.long p2), .second, .val (.int p3), .unset, .unset, .unset, .unset, .unset, .unset, .unset, .unset] [(.int p1)])) _
          refine XS.iconst X0.here hx rfl (hb hby at_1) ?_
          show Steps p.tables e below (s₁.setTop (mkF m 2 #[.val (.int p1), .val (.long p2), .second, .val (.int p3), .unset, .unset, .unset, .unset, .unset, .unset, .unset, .unset] [(.int (3 : Int32)), (.int p1)])) _
          refine XS.iand X0.here hx rfl (hb hby at_2) rfl ?_
          show Steps p.tables e below (s₁.setTop (mkF m 3 #[.val (.int p1), .val (.long p2), .second, .val (.int p3), .unset, .unset, .unset, .unset, .unset, .unset, .unset, .unset] [(.int (p1 &&& (3 : Int32)))])) _
          refine XS.istore X0.here hx rfl (hb hby at_3) rfl (l' := #[.val (.int p1), .val (.long p2), .second, .val (.int p3), .val (.int (p1 &&& (3 : Int32))), .unset, .unset, .unset, .unset, .unset, .unset, .unset]) rfl ?_
          show Steps p.tables e below (s₁.setTop (mkF m 5 #[.val (.int p1), .val (.long p2), .second, .val (.int p3), .val (.int (p1 &&& (3 : Int32))), .unset, .unset, .unset, .unset, .unset, .unset, .unset] [])) _
          refine XS.iload X0.here hx rfl (hb hby at_5) rfl ?_
          show Steps p.tables e below (s₁.setTop (mkF m 7 #[.val (.int p1), .val (.long p2), .second, .val (.int p3), .val (.int (p1 &&& (3 : Int32))), .unset, .unset, .unset, .unset, .unset, .unset, .unset] [(.int (p1 &&& (3 : Int32)))])) _
          refine XS.ifNo X0.here hx rfl (hb hby at_7) rfl ((if0 _ _).trans (teq c0).2) ?_
          show Steps p.tables e below (s₁.setTop (mkF m 10 #[.val (.int p1), .val (.long p2), .second, .val (.int p3), .val (.int (p1 &&& (3 : Int32))), .unset, .unset, .unset, .unset, .unset, .unset, .unset] [])) _
          refine XT.lloadN X0.here hx rfl (hb hby at_10) rfl ?_
          show Steps p.tables e below (s₁.setTop (mkF m 11 #[.val (.int p1), .val (.long p2), .second, .val (.int p3), .val (.int (p1 &&& (3 : Int32))), .unset, .unset, .unset, .unset, .unset, .unset, .unset] [(.long p2)])) _
          refine XS.l2dS X0.here hx rfl (hb hby at_11) rfl rfl ?_
          show Steps p.tables e below (s₁.setTop (mkF m 12 #[.val (.int p1), .val (.long p2), .second, .val (.int p3), .val (.int (p1 &&& (3 : Int32))), .unset, .unset, .unset, .unset, .unset, .unset, .unset] [(.double (FP.l2d p2))])) _
          refine XS.dstore X0.here hx rfl (hb hby at_12) rfl (l' := #[.val (.int p1), .val (.long p2), .second, .val (.int p3), .val (.int (p1 &&& (3 : Int32))), .val (.double (FP.l2d p2)), .second, .unset, .unset, .unset, .unset, .unset]) rfl ?_
          show Steps p.tables e below (s₁.setTop (mkF m 14 #[.val (.int p1), .val (.long p2), .second, .val (.int p3), .val (.int (p1 &&& (3 : Int32))), .val (.double (FP.l2d p2)), .second, .unset, .unset, .unset, .unset, .unset] [])) _
          refine XT.lloadN X0.here hx rfl (hb hby at_14) rfl ?_
          show Steps p.tables e below (s₁.setTop (mkF m 15 #[.val (.int p1), .val (.long p2), .second, .val (.int p3), .val (.int (p1 &&& (3 : Int32))), .val (.double (FP.l2d p2)), .second, .unset, .unset, .unset, .unset, .unset] [(.long p2)])) _
          refine XT.lconst X0.here hx rfl (hb hby at_15) ?_
          show Steps p.tables e below (s₁.setTop (mkF m 16 #[.val (.int p1), .val (.long p2), .second, .val (.int p3), .val (.int (p1 &&& (3 : Int32))), .val (.double (FP.l2d p2)), .second, .unset, .unset, .unset, .unset, .unset] [(.long (0 : Int64)), (.long p2)])) _
          refine XT.lcmp X0.here hx rfl (hb hby at_16) rfl ?_
          show Steps p.tables e below (s₁.setTop (mkF m 17 #[.val (.int p1), .val (.long p2), .second, .val (.int p3), .val (.int (p1 &&& (3 : Int32))), .val (.double (FP.l2d p2)), .second, .unset, .unset, .unset, .unset, .unset] [(.int (XT.cmpL p2 (0 : Int64)))])) _
          refine XS.ifYes X0.here hx rfl (pc0 := 17) (pc' := 24) rfl (hb hby at_17) rfl ((if0 _ _).trans (tlt (own_gt g)).2.2.1) (by decide) (by decide) ?_
          show Steps p.tables e below (s₁.setTop (mkF m 24 #[.val (.int p1), .val (.long p2), .second, .val (.int p3), .val (.int (p1 &&& (3 : Int32))), .val (.double (FP.l2d p2)), .second, .unset, .unset, .unset, .unset, .unset] [])) _
          refine XT.lloadN X0.here hx rfl (hb hby at_24) rfl ?_
          show Steps p.tables e below (s₁.setTop (mkF m 25 #[.val (.int p1), .val (.long p2), .second, .val (.int p3), .val (.int (p1 &&& (3 : Int32))), .val (.double (FP.l2d p2)), .second, .unset, .unset, .unset, .unset, .unset] [(.long p2)])) _
          refine X0.ldc2Long hx hown (mvT hZ (hw _ (List.mem_of_getElem? (i := 0) rfl))) (g := (mkF m 25 #[.val (.int p1), .val (.long p2), .second, .val (.int p3), .val (.int (p1 &&& (3 : Int32))), .val (.double (FP.l2d p2)), .second, .unset, .unset, .unset, .unset, .unset] [(.long p2)])) rfl (hb hby at_25) _ ?_
          show Steps p.tables e below (s₁.setTop (mkF m 28 #[.val (.int p1), .val (.long p2), .second, .val (.int p3), .val (.int (p1 &&& (3 : Int32))), .val (.double (FP.l2d p2)), .second, .unset, .unset, .unset, .unset, .unset] [(.long (9007199254740991 : Int64)), (.long p2)])) _
          refine XT.lcmp X0.here hx rfl (hb hby at_28) rfl ?_
          show Steps p.tables e below (s₁.setTop (mkF m 29 #[.val (.int p1), .val (.long p2), .second, .val (.int p3), .val (.int (p1 &&& (3 : Int32))), .val (.double (FP.l2d p2)), .second, .unset, .unset, .unset, .unset, .unset] [(.int (XT.cmpL p2 (9007199254740991 : Int64)))])) _
          refine XS.ifYes X0.here hx rfl (pc0 := 29) (pc' := 38) rfl (hb hby at_29) rfl ((if0 _ _).trans (tlt (own_lt g2)).1) (by decide) (by decide) ?_
          show Steps p.tables e below (s₁.setTop (mkF m 38 #[.val (.int p1), .val (.long p2), .second, .val (.int p3), .val (.int (p1 &&& (3 : Int32))), .val (.double (FP.l2d p2)), .second, .unset, .unset, .unset, .unset, .unset] [])) _
          refine XT.lloadN X0.here hx rfl (hb hby at_38) rfl ?_
          show Steps p.tables e below (s₁.setTop (mkF m 39 #[.val (.int p1), .val (.long p2), .second, .val (.int p3), .val (.int (p1 &&& (3 : Int32))), .val (.double (FP.l2d p2)), .second, .unset, .unset, .unset, .unset, .unset] [(.long p2)])) _
          refine XT.lstore X0.here hx rfl (hb hby at_39) rfl (l' := #[.val (.int p1), .val (.long p2), .second, .val (.int p3), .val (.int (p1 &&& (3 : Int32))), .val (.double (FP.l2d p2)), .second, .val (.long p2), .second, .unset, .unset, .unset]) rfl ?_
          show Steps p.tables e below (s₁.setTop (mkF m 41 #[.val (.int p1), .val (.long p2), .second, .val (.int p3), .val (.int (p1 &&& (3 : Int32))), .val (.double (FP.l2d p2)), .second, .val (.long p2), .second, .unset, .unset, .unset] [])) _
          refine XS.goto X0.here hx rfl (pc0 := 41) (pc' := 148) rfl (hb hby at_41) (by decide) (by decide) ?_
          show Steps p.tables e below (s₁.setTop (mkF m 148 #[.val (.int p1), .val (.long p2), .second, .val (.int p3), .val (.int (p1 &&& (3 : Int32))), .val (.double (FP.l2d p2)), .second, .val (.long p2), .second, .unset, .unset, .unset] [])) _
          refine XS.dload X0.here hx rfl (hb hby at_148) rfl ?_
          show Steps p.tables e below (s₁.setTop (mkF m 150 #[.val (.int p1), .val (.long p2), .second, .val (.int p3), .val (.int (p1 &&& (3 : Int32))), .val (.double (FP.l2d p2)), .second, .val (.long p2), .second, .unset, .unset, .unset] [(.double (FP.l2d p2))])) _
          refine st1 _ ?_
          show Steps p.tables e below (T1.setTop (mkF m 153 #[.val (.int p1), .val (.long p2), .second, .val (.int p3), .val (.int (p1 &&& (3 : Int32))), .val (.double (FP.l2d p2)), .second, .val (.long p2), .second, .unset, .unset, .unset] [(.long p2)])) _
          refine XT.lload X1.here hx rfl (hb hby at_153) rfl ?_
          show Steps p.tables e below (T1.setTop (mkF m 155 #[.val (.int p1), .val (.long p2), .second, .val (.int p3), .val (.int (p1 &&& (3 : Int32))), .val (.double (FP.l2d p2)), .second, .val (.long p2), .second, .unset, .unset, .unset] [(.long p2), (.long p2)])) _
          refine XT.lcmp X1.here hx rfl (hb hby at_155) rfl ?_
          show Steps p.tables e below (T1.setTop (mkF m 156 #[.val (.int p1), .val (.long p2), .second, .val (.int p3), .val (.int (p1 &&& (3 : Int32))), .val (.double (FP.l2d p2)), .second, .val (.long p2), .second, .unset, .unset, .unset] [(.int (XT.cmpL p2 p2))])) _
          refine XS.ifNo X1.here hx rfl (hb hby at_156) rfl ((if0 _ _).trans (teq (own_eqr rfl)).2) ?_
          show Steps p.tables e below (T1.setTop (mkF m 159 #[.val (.int p1), .val (.long p2), .second, .val (.int p3), .val (.int (p1 &&& (3 : Int32))), .val (.double (FP.l2d p2)), .second, .val (.long p2), .second, .unset, .unset, .unset] [])) _
          refine XS.iconst X1.here hx rfl (hb hby at_159) ?_
          show Steps p.tables e below (T1.setTop (mkF m 160 #[.val (.int p1), .val (.long p2), .second, .val (.int p3), .val (.int (p1 &&& (3 : Int32))), .val (.double (FP.l2d p2)), .second, .val (.long p2), .second, .unset, .unset, .unset] [(.int (1 : Int32))])) _
          refine XS.goto X1.here hx rfl (pc0 := 160) (pc' := 164) rfl (hb hby at_160) (by decide) (by decide) ?_
          show Steps p.tables e below (T1.setTop (mkF m 164 #[.val (.int p1), .val (.long p2), .second, .val (.int p3), .val (.int (p1 &&& (3 : Int32))), .val (.double (FP.l2d p2)), .second, .val (.long p2), .second, .unset, .unset, .unset] [(.int (1 : Int32))])) _
          exact retN X1 hx (t := .boolean) Bd.returns (by simp) (hb hby at_164) hr
        · show Q0 Z p1 p2 p3 h0 n0 _ T1.heap _
          exact ⟨rfl, M1⟩
      · obtain ⟨_, _, ⟨T1, L1, k1, n1⟩, -, X1, ⟨Lc1, hQ1, l1, y1, z1⟩, st1⟩ := Jvm.LawKit.callS X0 hx (y := (⟨"com/example/tapir/tapir/runtime/Conversions", "toLength", "(D)J"⟩ : MethodName)) hown (mvT hZ (hw _ (List.mem_of_getElem? (i := 1) rfl))) (mvT hZ (hw _ (List.mem_of_getElem? (i := 2) rfl))) (mvT hZ (hw _ (List.mem_of_getElem? (i := 3) rfl))) (mvT hZ (hw _ (List.mem_of_getElem? (i := 4) rfl))) (by decide) (backOf (W := 0) (rm1 l Z a0 hw [] (FP.l2d p2) (9007199254740991 : Int64) h0 n0 Z0 (own_m0b g2)) hZ (hw _ (List.mem_of_getElem? (i := 4) rfl)) (hw _ (List.mem_of_getElem? (i := 3) rfl)) (by decide) (by decide)) (g := (mkF m 150 #[.val (.int p1), .val (.long p2), .second, .val (.int p3), .val (.int (p1 &&& (3 : Int32))), .val (.double (FP.l2d p2)), .second, .val (.long (9007199254740991 : Int64)), .second, .unset, .unset, .unset] [(.double (FP.l2d p2))])) rfl (by rw [hml]; rfl) (argsL := [(.double (FP.l2d p2))]) (rest := []) (lenOf pd1 rfl) rfl (by show 2 * 0 + _ ≤ _; exact Nat.le_of_eq rfl) (hb hby at_150) (fun _ _ => ⟨rfl, e0, (by decide : 0 + 0 ≤ _), (by decide : 0 + 0 ≤ _)⟩)
        dsimp only [Pt.U, Pt.locs, Pt.cells, Pt.slots] at X1 l1 y1 z1 st1 hQ1
        subst l1 y1 z1
        obtain ⟨rfl, N1, e1⟩ := hQ1
        have M1 := Fr.app N0 N1
        obtain ⟨fs, hr, hrun, hended, hW, hsame⟩ := X1.leave (v := some (.int (1 : Int32))) (fun h => by rw [Bd.returns] at h; cases h)
        refine ⟨_, _, pre0 _ ?_, hrun, hended, _, _, rfl, ?_, ⟨_, rfl⟩, hW, hsame.mono (by decide) (by decide)⟩
        · show Steps p.tables e below (s₁.setTop (mkF m 0 #[.val (.int p1), .val (.long p2), .second, .val (.int p3), .unset, .unset, .unset, .unset, .unset, .unset, .unset, .unset] [])) _
          refine XS.iloadN X0.here hx rfl (hb hby at_0) rfl ?_
          show Steps p.tables e below (s₁.setTop (mkF m 1 #[.val (.int p1), .val (.long p2), .second, .val (.int p3), .unset, .unset, .unset, .unset, .unset, .unset, .unset, .unset] [(.int p1)])) _
          refine XS.iconst X0.here hx rfl (hb hby at_1) ?_
          show Steps p.tables e below (s₁.setTop (mkF m 2 #[.val (.int p1), .val (.long p2), .second, .val (.int p3), .unset, .unset, .unset, .unset, .unset, .unset, .unset, .unset] [(.int (3 : Int32)), (.int p1)])) _
          refine XS.iand X0.here hx rfl (hb hby at_2) rfl ?_
          show Steps p.tables e below (s₁.setTop (mkF m 3 #[.val (.int p1), .val (.long p2), .second, .val (.int p3), .unset, .unset, .unset, .unset, .unset, .unset, .unset, .unset] [(.int (p1 &&& (3 : Int32)))])) _
          refine XS.istore X0.here hx rfl (hb hby at_3) rfl (l' := #[.val (.int p1), .val (.long p2), .second, .val (.int p3), .val (.int (p1 &&& (3 : Int32))), .unset, .unset, .unset, .unset, .unset, .unset, .unset]) rfl ?_
          show Steps p.tables e below (s₁.setTop (mkF m 5 #[.val (.int p1), .val (.long p2), .second, .val (.int p3), .val (.int (p1 &&& (3 : Int32))), .unset, .unset, .unset, .unset, .unset, .unset, .unset] [])) _
          refine XS.iload X0.here hx rfl (hb hby at_5) rfl ?_
          show Steps p.tables e below (s₁.setTop (mkF m 7 #[.val (.int p1), .val (.long p2), .second, .val (.int p3), .val (.int (p1 &&& (3 : Int32))), .unset, .unset, .unset, .unset, .unset, .unset, .unset] [(.int (p1 &&& (3 : Int32)))])) _
          refine XS.ifNo X0.here hx rfl (hb hby at_7) rfl ((if0 _ _).trans (teq c0).2) ?_
          show Steps p.tables e below (s₁.setTop (mkF m 10 #[.val (.int p1), .val (.long p2), .second, .val (.int p3), .val (.int (p1 &&& (3 : Int32))), .unset, .unset, .unset, .unset, .unset, .unset, .unset] [])) _
          refine XT.lloadN X0.here hx rfl (hb hby at_10) rfl ?_
          show Steps p.tables e below (s₁.setTop (mkF m 11 #[.val (.int p1), .val (.long p2), .second, .val (.int p3), .val (.int (p1 &&& (3 : Int32))), .unset, .unset, .unset, .unset, .unset, .unset, .unset] [(.long p2)])) _
          refine XS.l2dS X0.here hx rfl (hb hby at_11) rfl rfl ?_
          show Steps p.tables e below (s₁.setTop (mkF m 12 #[.val (.int p1), .val (.long p2), .second, .val (.int p3), .val (.int (p1 &&& (3 : Int32))), .unset, .unset, .unset, .unset, .unset, .unset, .unset] [(.double (FP.l2d p2))])) _
          refine XS.dstore X0.here hx rfl (hb hby at_12) rfl (l' := #[.val (.int p1), .val (.long p2), .second, .val (.int p3), .val (.int (p1 &&& (3 : Int32))), .val (.double (FP.l2d p2)), .second, .unset, .unset, .unset, .unset, .unset]) rfl ?_
          show Steps p.tables e below (s₁.setTop (mkF m 14 #[.val (.int p1), .val (.long p2), .second, .val (.int p3), .val (.int (p1 &&& (3 : Int32))), .val (.double (FP.l2d p2)), .second, .unset, .unset, .unset, .unset, .unset] [])) _
          refine XT.lloadN X0.here hx rfl (hb hby at_14) rfl ?_
          show Steps p.tables e below (s₁.setTop (mkF m 15 #[.val (.int p1), .val (.long p2), .second, .val (.int p3), .val (.int (p1 &&& (3 : Int32))), .val (.double (FP.l2d p2)), .second, .unset, .unset, .unset, .unset, .unset] [(.long p2)])) _
          refine XT.lconst X0.here hx rfl (hb hby at_15) ?_
          show Steps p.tables e below (s₁.setTop (mkF m 16 #[.val (.int p1), .val (.long p2), .second, .val (.int p3), .val (.int (p1 &&& (3 : Int32))), .val (.double (FP.l2d p2)), .second, .unset, .unset, .unset, .unset, .unset] [(.long (0 : Int64)), (.long p2)])) _
          refine XT.lcmp X0.here hx rfl (hb hby at_16) rfl ?_
          show Steps p.tables e below (s₁.setTop (mkF m 17 #[.val (.int p1), .val (.long p2), .second, .val (.int p3), .val (.int (p1 &&& (3 : Int32))), .val (.double (FP.l2d p2)), .second, .unset, .unset, .unset, .unset, .unset] [(.int (XT.cmpL p2 (0 : Int64)))])) _
          refine XS.ifYes X0.here hx rfl (pc0 := 17) (pc' := 24) rfl (hb hby at_17) rfl ((if0 _ _).trans (tlt (own_gt g)).2.2.1) (by decide) (by decide) ?_
          show Steps p.tables e below (s₁.setTop (mkF m 24 #[.val (.int p1), .val (.long p2), .second, .val (.int p3), .val (.int (p1 &&& (3 : Int32))), .val (.double (FP.l2d p2)), .second, .unset, .unset, .unset, .unset, .unset] [])) _
          refine XT.lloadN X0.here hx rfl (hb hby at_24) rfl ?_
          show Steps p.tables e below (s₁.setTop (mkF m 25 #[.val (.int p1), .val (.long p2), .second, .val (.int p3), .val (.int (p1 &&& (3 : Int32))), .val (.double (FP.l2d p2)), .second, .unset, .unset, .unset, .unset, .unset] [(.long p2)])) _
          refine X0.ldc2Long hx hown (mvT hZ (hw _ (List.mem_of_getElem? (i := 0) rfl))) (g := (mkF m 25 #[.val (.int p1), .val (.long p2), .second, .val (.int p3), .val (.int (p1 &&& (3 : Int32))), .val (.double (FP.l2d p2)), .second, .unset, .unset, .unset, .unset, .unset] [(.long p2)])) rfl (hb hby at_25) _ ?_
          show Steps p.tables e below (s₁.setTop (mkF m 28 #[.val (.int p1), .val (.long p2), .second, .val (.int p3), .val (.int (p1 &&& (3 : Int32))), .val (.double (FP.l2d p2)), .second, .unset, .unset, .unset, .unset, .unset] [(.long (9007199254740991 : Int64)), (.long p2)])) _
          refine XT.lcmp X0.here hx rfl (hb hby at_28) rfl ?_
          show Steps p.tables e below (s₁.setTop (mkF m 29 #[.val (.int p1), .val (.long p2), .second, .val (.int p3), .val (.int (p1 &&& (3 : Int32))), .val (.double (FP.l2d p2)), .second, .unset, .unset, .unset, .unset, .unset] [(.int (XT.cmpL p2 (9007199254740991 : Int64)))])) _
          refine XS.ifNo X0.here hx rfl (hb hby at_29) rfl ((if0 _ _).trans (flt (own_nlt g2)).1) ?_
          show Steps p.tables e below (s₁.setTop (mkF m 32 #[.val (.int p1), .val (.long p2), .second, .val (.int p3), .val (.int (p1 &&& (3 : Int32))), .val (.double (FP.l2d p2)), .second, .unset, .unset, .unset, .unset, .unset] [])) _
          refine X0.ldc2Long hx hown (mvT hZ (hw _ (List.mem_of_getElem? (i := 0) rfl))) (g := (mkF m 32 #[.val (.int p1), .val (.long p2), .second, .val (.int p3), .val (.int (p1 &&& (3 : Int32))), .val (.double (FP.l2d p2)), .second, .unset, .unset, .unset, .unset, .unset] [])) rfl (hb hby at_32) _ ?_
          show Steps p.tables e below (s₁.setTop (mkF m 35 #[.val (.int p1), .val (.long p2), .second, .val (.int p3), .val (.int (p1 &&& (3 : Int32))), .val (.double (FP.l2d p2)), .second, .unset, .unset, .unset, .unset, .unset] [(.long (9007199254740991 : Int64))])) _
          refine XS.goto X0.here hx rfl (pc0 := 35) (pc' := 39) rfl (hb hby at_35) (by decide) (by decide) ?_
          show Steps p.tables e below (s₁.setTop (mkF m 39 #[.val (.int p1), .val (.long p2), .second, .val (.int p3), .val (.int (p1 &&& (3 : Int32))), .val (.double (FP.l2d p2)), .second, .unset, .unset, .unset, .unset, .unset] [(.long (9007199254740991 : Int64))])) _
          refine XT.lstore X0.here hx rfl (hb hby at_39) rfl (l' := #[.val (.int p1), .val (.long p2), .second, .val (.int p3), .val (.int (p1 &&& (3 : Int32))), .val (.double (FP.l2d p2)), .second, .val (.long (9007199254740991 : Int64)), .second, .unset, .unset, .unset]) rfl ?_
          show Steps p.tables e below (s₁.setTop (mkF m 41 #[.val (.int p1), .val (.long p2), .second, .val (.int p3), .val (.int (p1 &&& (3 : Int32))), .val (.double (FP.l2d p2)), .second, .val (.long (9007199254740991 : Int64)), .second, .unset, .unset, .unset] [])) _
          refine XS.goto X0.here hx rfl (pc0 := 41) (pc' := 148) rfl (hb hby at_41) (by decide) (by decide) ?_
          show Steps p.tables e below (s₁.setTop (mkF m 148 #[.val (.int p1), .val (.long p2), .second, .val (.int p3), .val (.int (p1 &&& (3 : Int32))), .val (.double (FP.l2d p2)), .second, .val (.long (9007199254740991 : Int64)), .second, .unset, .unset, .unset] [])) _
          refine XS.dload X0.here hx rfl (hb hby at_148) rfl ?_
          show Steps p.tables e below (s₁.setTop (mkF m 150 #[.val (.int p1), .val (.long p2), .second, .val (.int p3), .val (.int (p1 &&& (3 : Int32))), .val (.double (FP.l2d p2)), .second, .val (.long (9007199254740991 : Int64)), .second, .unset, .unset, .unset] [(.double (FP.l2d p2))])) _
          refine st1 _ ?_
          show Steps p.tables e below (T1.setTop (mkF m 153 #[.val (.int p1), .val (.long p2), .second, .val (.int p3), .val (.int (p1 &&& (3 : Int32))), .val (.double (FP.l2d p2)), .second, .val (.long (9007199254740991 : Int64)), .second, .unset, .unset, .unset] [(.long (9007199254740991 : Int64))])) _
          refine XT.lload X1.here hx rfl (hb hby at_153) rfl ?_
          show Steps p.tables e below (T1.setTop (mkF m 155 #[.val (.int p1), .val (.long p2), .second, .val (.int p3), .val (.int (p1 &&& (3 : Int32))), .val (.double (FP.l2d p2)), .second, .val (.long (9007199254740991 : Int64)), .second, .unset, .unset, .unset] [(.long (9007199254740991 : Int64)), (.long (9007199254740991 : Int64))])) _
          refine XT.lcmp X1.here hx rfl (hb hby at_155) rfl ?_
          show Steps p.tables e below (T1.setTop (mkF m 156 #[.val (.int p1), .val (.long p2), .second, .val (.int p3), .val (.int (p1 &&& (3 : Int32))), .val (.double (FP.l2d p2)), .second, .val (.long (9007199254740991 : Int64)), .second, .unset, .unset, .unset] [(.int (XT.cmpL (9007199254740991 : Int64) (9007199254740991 : Int64)))])) _
          refine XS.ifNo X1.here hx rfl (hb hby at_156) rfl ((if0 _ _).trans (teq (own_eqr rfl)).2) ?_
          show Steps p.tables e below (T1.setTop (mkF m 159 #[.val (.int p1), .val (.long p2), .second, .val (.int p3), .val (.int (p1 &&& (3 : Int32))), .val (.double (FP.l2d p2)), .second, .val (.long (9007199254740991 : Int64)), .second, .unset, .unset, .unset] [])) _
          refine XS.iconst X1.here hx rfl (hb hby at_159) ?_
          show Steps p.tables e below (T1.setTop (mkF m 160 #[.val (.int p1), .val (.long p2), .second, .val (.int p3), .val (.int (p1 &&& (3 : Int32))), .val (.double (FP.l2d p2)), .second, .val (.long (9007199254740991 : Int64)), .second, .unset, .unset, .unset] [(.int (1 : Int32))])) _
          refine XS.goto X1.here hx rfl (pc0 := 160) (pc' := 164) rfl (hb hby at_160) (by decide) (by decide) ?_
          show Steps p.tables e below (T1.setTop (mkF m 164 #[.val (.int p1), .val (.long p2), .second, .val (.int p3), .val (.int (p1 &&& (3 : Int32))), .val (.double (FP.l2d p2)), .second, .val (.long (9007199254740991 : Int64)), .second, .unset, .unset, .unset] [(.int (1 : Int32))])) _
          exact retN X1 hx (t := .boolean) Bd.returns (by simp) (hb hby at_164) hr
        · show Q0 Z p1 p2 p3 h0 n0 _ T1.heap _
          exact ⟨rfl, M1⟩
    · obtain ⟨_, _, ⟨T1, L1, k1, n1⟩, -, X1, ⟨Lc1, hQ1, l1, y1, z1⟩, st1⟩ := Jvm.LawKit.callS X0 hx (y := (⟨"com/example/tapir/tapir/runtime/Conversions", "toLength", "(D)J"⟩ : MethodName)) hown (mvT hZ (hw _ (List.mem_of_getElem? (i := 1) rfl))) (mvT hZ (hw _ (List.mem_of_getElem? (i := 2) rfl))) (mvT hZ (hw _ (List.mem_of_getElem? (i := 3) rfl))) (mvT hZ (hw _ (List.mem_of_getElem? (i := 4) rfl))) (by decide) (backOf (W := 0) (rm1 l Z a0 hw [] (FP.l2d p2) (0 : Int64) h0 n0 Z0 (own_m0a g)) hZ (hw _ (List.mem_of_getElem? (i := 4) rfl)) (hw _ (List.mem_of_getElem? (i := 3) rfl)) (by decide) (by decide)) (g := (mkF m 150 #[.val (.int p1), .val (.long p2), .second, .val (.int p3), .val (.int (p1 &&& (3 : Int32))), .val (.double (FP.l2d p2)), .second, .val (.long (0 : Int64)), .second, .unset, .unset, .unset] [(.double (FP.l2d p2))])) rfl (by rw [hml]; rfl) (argsL := [(.double (FP.l2d p2))]) (rest := []) (lenOf pd1 rfl) rfl (by show 2 * 0 + _ ≤ _; exact Nat.le_of_eq rfl) (hb hby at_150) (fun _ _ => ⟨rfl, e0, (by decide : 0 + 0 ≤ _), (by decide : 0 + 0 ≤ _)⟩)
      dsimp only [Pt.U, Pt.locs, Pt.cells, Pt.slots] at X1 l1 y1 z1 st1 hQ1
      subst l1 y1 z1
      obtain ⟨rfl, N1, e1⟩ := hQ1
      have M1 := Fr.app N0 N1
      obtain ⟨fs, hr, hrun, hended, hW, hsame⟩ := X1.leave (v := some (.int (1 : Int32))) (fun h => by rw [Bd.returns] at h; cases h)
      refine ⟨_, _, pre0 _ ?_, hrun, hended, _, _, rfl, ?_, ⟨_, rfl⟩, hW, hsame.mono (by decide) (by decide)⟩
      · show Steps p.tables e below (s₁.setTop (mkF m 0 #[.val (.int p1), .val (.long p2), .second, .val (.int p3), .unset, .unset, .unset, .unset, .unset, .unset, .unset, .unset] [])) _
        refine XS.iloadN X0.here hx rfl (hb hby at_0) rfl ?_
        show Steps p.tables e below (s₁.setTop (mkF m 1 #[.val (.int p1), .val (.long p2), .second, .val (.int p3), .unset, .unset, .unset, .unset, .unset, .unset, .unset, .unset] [(.int p1)])) _
        refine XS.iconst X0.here hx rfl (hb hby at_1) ?_
        show Steps p.tables e below (s₁.setTop (mkF m 2 #[.val (.int p1), .val (.long p2), .second, .val (.int p3), .unset, .unset, .unset, .unset, .unset, .unset, .unset, .unset] [(.int (3 : Int32)), (.int p1)])) _
        refine XS.iand X0.here hx rfl (hb hby at_2) rfl ?_
        show Steps p.tables e below (s₁.setTop (mkF m 3 #[.val (.int p1), .val (.long p2), .second, .val (.int p3), .unset, .unset, .unset, .unset, .unset, .unset, .unset, .unset] [(.int (p1 &&& (3 : Int32)))])) _
        refine XS.istore X0.here hx rfl (hb hby at_3) rfl (l' := #[.val (.int p1), .val (.long p2), .second, .val (.int p3), .val (.int (p1 &&& (3 : Int32))), .unset, .unset, .unset, .unset, .unset, .unset, .unset]) rfl ?_
        show Steps p.tables e below (s₁.setTop (mkF m 5 #[.val (.int p1), .val (.long p2), .second, .val (.int p3), .val (.int (p1 &&& (3 : Int32))), .unset, .unset, .unset, .unset, .unset, .unset, .unset] [])) _
        refine XS.iload X0.here hx rfl (hb hby at_5) rfl ?_
        show Steps p.tables e below (s₁.setTop (mkF m 7 #[.val (.int p1), .val (.long p2), .second, .val (.int p3), .val (.int (p1 &&& (3 : Int32))), .unset, .unset, .unset, .unset, .unset, .unset, .unset] [(.int (p1 &&& (3 : Int32)))])) _
        refine XS.ifNo X0.here hx rfl (hb hby at_7) rfl ((if0 _ _).trans (teq c0).2) ?_
        show Steps p.tables e below (s₁.setTop (mkF m 10 #[.val (.int p1), .val (.long p2), .second, .val (.int p3), .val (.int (p1 &&& (3 : Int32))), .unset, .unset, .unset, .unset, .unset, .unset, .unset] [])) _
        refine XT.lloadN X0.here hx rfl (hb hby at_10) rfl ?_
        show Steps p.tables e below (s₁.setTop (mkF m 11 #[.val (.int p1), .val (.long p2), .second, .val (.int p3), .val (.int (p1 &&& (3 : Int32))), .unset, .unset, .unset, .unset, .unset, .unset, .unset] [(.long p2)])) _
        refine XS.l2dS X0.here hx rfl (hb hby at_11) rfl rfl ?_
        show Steps p.tables e below (s₁.setTop (mkF m 12 #[.val (.int p1), .val (.long p2), .second, .val (.int p3), .val (.int (p1 &&& (3 : Int32))), .unset, .unset, .unset, .unset, .unset, .unset, .unset] [(.double (FP.l2d p2))])) _
        refine XS.dstore X0.here hx rfl (hb hby at_12) rfl (l' := #[.val (.int p1), .val (.long p2), .second, .val (.int p3), .val (.int (p1 &&& (3 : Int32))), .val (.double (FP.l2d p2)), .second, .unset, .unset, .unset, .unset, .unset]) rfl ?_
        show Steps p.tables e below (s₁.setTop (mkF m 14 #[.val (.int p1), .val (.long p2), .second, .val (.int p3), .val (.int (p1 &&& (3 : Int32))), .val (.double (FP.l2d p2)), .second, .unset, .unset, .unset, .unset, .unset] [])) _
        refine XT.lloadN X0.here hx rfl (hb hby at_14) rfl ?_
        show Steps p.tables e below (s₁.setTop (mkF m 15 #[.val (.int p1), .val (.long p2), .second, .val (.int p3), .val (.int (p1 &&& (3 : Int32))), .val (.double (FP.l2d p2)), .second, .unset, .unset, .unset, .unset, .unset] [(.long p2)])) _
        refine XT.lconst X0.here hx rfl (hb hby at_15) ?_
        show Steps p.tables e below (s₁.setTop (mkF m 16 #[.val (.int p1), .val (.long p2), .second, .val (.int p3), .val (.int (p1 &&& (3 : Int32))), .val (.double (FP.l2d p2)), .second, .unset, .unset, .unset, .unset, .unset] [(.long (0 : Int64)), (.long p2)])) _
        refine XT.lcmp X0.here hx rfl (hb hby at_16) rfl ?_
        show Steps p.tables e below (s₁.setTop (mkF m 17 #[.val (.int p1), .val (.long p2), .second, .val (.int p3), .val (.int (p1 &&& (3 : Int32))), .val (.double (FP.l2d p2)), .second, .unset, .unset, .unset, .unset, .unset] [(.int (XT.cmpL p2 (0 : Int64)))])) _
        refine XS.ifNo X0.here hx rfl (hb hby at_17) rfl ((if0 _ _).trans (flt (own_ngt g)).2.2.1) ?_
        show Steps p.tables e below (s₁.setTop (mkF m 20 #[.val (.int p1), .val (.long p2), .second, .val (.int p3), .val (.int (p1 &&& (3 : Int32))), .val (.double (FP.l2d p2)), .second, .unset, .unset, .unset, .unset, .unset] [])) _
        refine XT.lconst X0.here hx rfl (hb hby at_20) ?_
        show Steps p.tables e below (s₁.setTop (mkF m 21 #[.val (.int p1), .val (.long p2), .second, .val (.int p3), .val (.int (p1 &&& (3 : Int32))), .val (.double (FP.l2d p2)), .second, .unset, .unset, .unset, .unset, .unset] [(.long (0 : Int64))])) _
        refine XS.goto X0.here hx rfl (pc0 := 21) (pc' := 39) rfl (hb hby at_21) (by decide) (by decide) ?_
        show Steps p.tables e below (s₁.setTop (mkF m 39 #[.val (.int p1), .val (.long p2), .second, .val (.int p3), .val (.int (p1 &&& (3 : Int32))), .val (.double (FP.l2d p2)), .second, .unset, .unset, .unset, .unset, .unset] [(.long (0 : Int64))])) _
        refine XT.lstore X0.here hx rfl (hb hby at_39) rfl (l' := #[.val (.int p1), .val (.long p2), .second, .val (.int p3), .val (.int (p1 &&& (3 : Int32))), .val (.double (FP.l2d p2)), .second, .val (.long (0 : Int64)), .second, .unset, .unset, .unset]) rfl ?_
        show Steps p.tables e below (s₁.setTop (mkF m 41 #[.val (.int p1), .val (.long p2), .second, .val (.int p3), .val (.int (p1 &&& (3 : Int32))), .val (.double (FP.l2d p2)), .second, .val (.long (0 : Int64)), .second, .unset, .unset, .unset] [])) _
        refine XS.goto X0.here hx rfl (pc0 := 41) (pc' := 148) rfl (hb hby at_41) (by decide) (by decide) ?_
        show Steps p.tables e below (s₁.setTop (mkF m 148 #[.val (.int p1), .val (.long p2), .second, .val (.int p3), .val (.int (p1 &&& (3 : Int32))), .val (.double (FP.l2d p2)), .second, .val (.long (0 : Int64)), .second, .unset, .unset, .unset] [])) _
        refine XS.dload X0.here hx rfl (hb hby at_148) rfl ?_
        show Steps p.tables e below (s₁.setTop (mkF m 150 #[.val (.int p1), .val (.long p2), .second, .val (.int p3), .val (.int (p1 &&& (3 : Int32))), .val (.double (FP.l2d p2)), .second, .val (.long (0 : Int64)), .second, .unset, .unset, .unset] [(.double (FP.l2d p2))])) _
        refine st1 _ ?_
        show Steps p.tables e below (T1.setTop (mkF m 153 #[.val (.int p1), .val (.long p2), .second, .val (.int p3), .val (.int (p1 &&& (3 : Int32))), .val (.double (FP.l2d p2)), .second, .val (.long (0 : Int64)), .second, .unset, .unset, .unset] [(.long (0 : Int64))])) _
        refine XT.lload X1.here hx rfl (hb hby at_153) rfl ?_
        show Steps p.tables e below (T1.setTop (mkF m 155 #[.val (.int p1), .val (.long p2), .second, .val (.int p3), .val (.int (p1 &&& (3 : Int32))), .val (.double (FP.l2d p2)), .second, .val (.long (0 : Int64)), .second, .unset, .unset, .unset] [(.long (0 : Int64)), (.long (0 : Int64))])) _
        refine XT.lcmp X1.here hx rfl (hb hby at_155) rfl ?_
        show Steps p.tables e below (T1.setTop (mkF m 156 #[.val (.int p1), .val (.long p2), .second, .val (.int p3), .val (.int (p1 &&& (3 : Int32))), .val (.double (FP.l2d p2)), .second, .val (.long (0 : Int64)), .second, .unset, .unset, .unset] [(.int (XT.cmpL (0 : Int64) (0 : Int64)))])) _
        refine XS.ifNo X1.here hx rfl (hb hby at_156) rfl ((if0 _ _).trans (teq (own_eqr rfl)).2) ?_
        show Steps p.tables e below (T1.setTop (mkF m 159 #[.val (.int p1), .val (.long p2), .second, .val (.int p3), .val (.int (p1 &&& (3 : Int32))), .val (.double (FP.l2d p2)), .second, .val (.long (0 : Int64)), .second, .unset, .unset, .unset] [])) _
        refine XS.iconst X1.here hx rfl (hb hby at_159) ?_
        show Steps p.tables e below (T1.setTop (mkF m 160 #[.val (.int p1), .val (.long p2), .second, .val (.int p3), .val (.int (p1 &&& (3 : Int32))), .val (.double (FP.l2d p2)), .second, .val (.long (0 : Int64)), .second, .unset, .unset, .unset] [(.int (1 : Int32))])) _
        refine XS.goto X1.here hx rfl (pc0 := 160) (pc' := 164) rfl (hb hby at_160) (by decide) (by decide) ?_
        show Steps p.tables e below (T1.setTop (mkF m 164 #[.val (.int p1), .val (.long p2), .second, .val (.int p3), .val (.int (p1 &&& (3 : Int32))), .val (.double (FP.l2d p2)), .second, .val (.long (0 : Int64)), .second, .unset, .unset, .unset] [(.int (1 : Int32))])) _
        exact retN X1 hx (t := .boolean) Bd.returns (by simp) (hb hby at_164) hr
      · show Q0 Z p1 p2 p3 h0 n0 _ T1.heap _
        exact ⟨rfl, M1⟩
  by_cases c1 : (p1 &&& (3 : Int32)) = 1
  · have hm := own_m1 p2 p3
    by_cases g : 0 < (p2 >>> ((14 : Int32).toInt64 &&& 63))
    · rw [if_pos g] at hm
      obtain ⟨_, _, ⟨T1, L1, k1, n1⟩, -, X1, ⟨Lc1, hQ1, l1, y1, z1⟩, st1⟩ := Jvm.LawKit.callS X0 hx (y := (⟨"com/example/tapir/tapir/runtime/Conversions", "toLength", "(D)J"⟩ : MethodName)) hown (mvT hZ (hw _ (List.mem_of_getElem? (i := 1) rfl))) (mvT hZ (hw _ (List.mem_of_getElem? (i := 2) rfl))) (mvT hZ (hw _ (List.mem_of_getElem? (i := 3) rfl))) (mvT hZ (hw _ (List.mem_of_getElem? (i := 4) rfl))) (by decide) (backOf (W := 0) (rm1 l Z a0 hw [] (FP.dadd (FP.l2d (p2 >>> ((14 : Int32).toInt64 &&& 63))) (FP.ddiv (FP.i2d (p3 &&& (3 : Int32))) (4616189618054758400 : UInt64))) (p2 >>> ((14 : Int32).toInt64 &&& 63)) h0 n0 Z0 hm) hZ (hw _ (List.mem_of_getElem? (i := 4) rfl)) (hw _ (List.mem_of_getElem? (i := 3) rfl)) (by decide) (by decide)) (g := (mkF m 150 #[.val (.int p1), .val (.long p2), .second, .val (.int p3), .val (.int (p1 &&& (3 : Int32))), .val (.double (FP.dadd (FP.l2d (p2 >>> ((14 : Int32).toInt64 &&& 63))) (FP.ddiv (FP.i2d (p3 &&& (3 : Int32))) (4616189618054758400 : UInt64)))), .second, .val (.long (p2 >>> ((14 : Int32).toInt64 &&& 63))), .second, .val (.long (p2 >>> ((14 : Int32).toInt64 &&& 63))), .second, .val (.int (p3 &&& (3 : Int32)))] [(.double (FP.dadd (FP.l2d (p2 >>> ((14 : Int32).toInt64 &&& 63))) (FP.ddiv (FP.i2d (p3 &&& (3 : Int32))) (4616189618054758400 : UInt64))))])) rfl (by rw [hml]; rfl) (argsL := [(.double (FP.dadd (FP.l2d (p2 >>> ((14 : Int32).toInt64 &&& 63))) (FP.ddiv (FP.i2d (p3 &&& (3 : Int32))) (4616189618054758400 : UInt64))))]) (rest := []) (lenOf pd1 rfl) rfl (by show 2 * 0 + _ ≤ _; exact Nat.le_of_eq rfl) (hb hby at_150) (fun _ _ => ⟨rfl, e0, (by decide : 0 + 0 ≤ _), (by decide : 0 + 0 ≤ _)⟩)
      dsimp only [Pt.U, Pt.locs, Pt.cells, Pt.slots] at X1 l1 y1 z1 st1 hQ1
      subst l1 y1 z1
      obtain ⟨rfl, N1, e1⟩ := hQ1
      have M1 := Fr.app N0 N1
      obtain ⟨fs, hr, hrun, hended, hW, hsame⟩ := X1.leave (v := some (.int (1 : Int32))) (fun h => by rw [Bd.returns] at h; cases h)
      refine ⟨_, _, pre0 _ ?_, hrun, hended, _, _, rfl, ?_, ⟨_, rfl⟩, hW, hsame.mono (by decide) (by decide)⟩
      · show Steps p.tables e below (s₁.setTop (mkF m 0 #[.val (.int p1), .val (.long p2), .second, .val (.int p3), .unset, .unset, .unset, .unset, .unset, .unset, .unset, .unset] [])) _
        refine XS.iloadN X0.here hx rfl (hb hby at_0) rfl ?_
        show Steps p.tables e below (s₁.setTop (mkF m 1 #[.val (.int p1), .val (.long p2), .second, .val (.int p3), .unset, .unset, .unset, .unset, .unset, .unset, .unset, .unset] [(.int p1)])) _
        refine XS.iconst X0.here hx rfl (hb hby at_1) ?_
        show Steps p.tables e below (s₁.setTop (mkF m 2 #[.val (.int p1), .val (.long p2), .second, .val (.int p3), .unset, .unset, .unset, .unset, .unset, .unset, .unset, .unset] [(.int (3 : Int32)), (.int p1)])) _
        refine XS.iand X0.here hx rfl (hb hby at_2) rfl ?_
        show Steps p.tables e below (s₁.setTop (mkF m 3 #[.val (.int p1), .val (.long p2), .second, .val (.int p3), .unset, .unset, .unset, .unset, .unset, .unset, .unset, .unset] [(.int (p1 &&& (3 : Int32)))])) _
        refine XS.istore X0.here hx rfl (hb hby at_3) rfl (l' := #[.val (.int p1), .val (.long p2), .second, .val (.int p3), .val (.int (p1 &&& (3 : Int32))), .unset, .unset, .unset, .unset, .unset, .unset, .unset]) rfl ?_
        show Steps p.tables e below (s₁.setTop (mkF m 5 #[.val (.int p1), .val (.long p2), .second, .val (.int p3), .val (.int (p1 &&& (3 : Int32))), .unset, .unset, .unset, .unset, .unset, .unset, .unset] [])) _
        refine XS.iload X0.here hx rfl (hb hby at_5) rfl ?_
        show Steps p.tables e below (s₁.setTop (mkF m 7 #[.val (.int p1), .val (.long p2), .second, .val (.int p3), .val (.int (p1 &&& (3 : Int32))), .unset, .unset, .unset, .unset, .unset, .unset, .unset] [(.int (p1 &&& (3 : Int32)))])) _
        refine XS.ifYes X0.here hx rfl (pc0 := 7) (pc' := 44) rfl (hb hby at_7) rfl ((if0 _ _).trans (feq c0).2) (by decide) (by decide) ?_
        show Steps p.tables e below (s₁.setTop (mkF m 44 #[.val (.int p1), .val (.long p2), .second, .val (.int p3), .val (.int (p1 &&& (3 : Int32))), .unset, .unset, .unset, .unset, .unset, .unset, .unset] [])) _
        refine XS.iload X0.here hx rfl (hb hby at_44) rfl ?_
        show Steps p.tables e below (s₁.setTop (mkF m 46 #[.val (.int p1), .val (.long p2), .second, .val (.int p3), .val (.int (p1 &&& (3 : Int32))), .unset, .unset, .unset, .unset, .unset, .unset, .unset] [(.int (p1 &&& (3 : Int32)))])) _
        refine XS.iconst X0.here hx rfl (hb hby at_46) ?_
        show Steps p.tables e below (s₁.setTop (mkF m 47 #[.val (.int p1), .val (.long p2), .second, .val (.int p3), .val (.int (p1 &&& (3 : Int32))), .unset, .unset, .unset, .unset, .unset, .unset, .unset] [(.int (1 : Int32)), (.int (p1 &&& (3 : Int32)))])) _
        refine XS.icmpNo X0.here hx rfl (hb hby at_47) rfl (teq c1).2 ?_
        show Steps p.tables e below (s₁.setTop (mkF m 50 #[.val (.int p1), .val (.long p2), .second, .val (.int p3), .val (.int (p1 &&& (3 : Int32))), .unset, .unset, .unset, .unset, .unset, .unset, .unset] [])) _
        refine XT.lloadN X0.here hx rfl (hb hby at_50) rfl ?_
        show Steps p.tables e below (s₁.setTop (mkF m 51 #[.val (.int p1), .val (.long p2), .second, .val (.int p3), .val (.int (p1 &&& (3 : Int32))), .unset, .unset, .unset, .unset, .unset, .unset, .unset] [(.long p2)])) _
        refine XS.bipush X0.here hx rfl (hb hby at_51) ?_
        show Steps p.tables e below (s₁.setTop (mkF m 53 #[.val (.int p1), .val (.long p2), .second, .val (.int p3), .val (.int (p1 &&& (3 : Int32))), .unset, .unset, .unset, .unset, .unset, .unset, .unset] [(.int (14 : Int32)), (.long p2)])) _
        refine XT.lshr X0.here hx rfl (hb hby at_53) rfl ?_
        show Steps p.tables e below (s₁.setTop (mkF m 54 #[.val (.int p1), .val (.long p2), .second, .val (.int p3), .val (.int (p1 &&& (3 : Int32))), .unset, .unset, .unset, .unset, .unset, .unset, .unset] [(.long (p2 >>> ((14 : Int32).toInt64 &&& 63)))])) _
        refine XT.lstore X0.here hx rfl (hb hby at_54) rfl (l' := #[.val (.int p1), .val (.long p2), .second, .val (.int p3), .val (.int (p1 &&& (3 : Int32))), .unset, .unset, .unset, .unset, .val (.long (p2 >>> ((14 : Int32).toInt64 &&& 63))), .second, .unset]) rfl ?_
        show Steps p.tables e below (s₁.setTop (mkF m 56 #[.val (.int p1), .val (.long p2), .second, .val (.int p3), .val (.int (p1 &&& (3 : Int32))), .unset, .unset, .unset, .unset, .val (.long (p2 >>> ((14 : Int32).toInt64 &&& 63))), .second, .unset] [])) _
        refine XS.iloadN X0.here hx rfl (hb hby at_56) rfl ?_
        show Steps p.tables e below (s₁.setTop (mkF m 57 #[.val (.int p1), .val (.long p2), .second, .val (.int p3), .val (.int (p1 &&& (3 : Int32))), .unset, .unset, .unset, .unset, .val (.long (p2 >>> ((14 : Int32).toInt64 &&& 63))), .second, .unset] [(.int p3)])) _
        refine XS.iconst X0.here hx rfl (hb hby at_57) ?_
        show Steps p.tables e below (s₁.setTop (mkF m 58 #[.val (.int p1), .val (.long p2), .second, .val (.int p3), .val (.int (p1 &&& (3 : Int32))), .unset, .unset, .unset, .unset, .val (.long (p2 >>> ((14 : Int32).toInt64 &&& 63))), .second, .unset] [(.int (3 : Int32)), (.int p3)])) _
        refine XS.iand X0.here hx rfl (hb hby at_58) rfl ?_
        show Steps p.tables e below (s₁.setTop (mkF m 59 #[.val (.int p1), .val (.long p2), .second, .val (.int p3), .val (.int (p1 &&& (3 : Int32))), .unset, .unset, .unset, .unset, .val (.long (p2 >>> ((14 : Int32).toInt64 &&& 63))), .second, .unset] [(.int (p3 &&& (3 : Int32)))])) _
        refine XS.istore X0.here hx rfl (hb hby at_59) rfl (l' := #[.val (.int p1), .val (.long p2), .second, .val (.int p3), .val (.int (p1 &&& (3 : Int32))), .unset, .unset, .unset, .unset, .val (.long (p2 >>> ((14 : Int32).toInt64 &&& 63))), .second, .val (.int (p3 &&& (3 : Int32)))]) rfl ?_
        show Steps p.tables e below (s₁.setTop (mkF m 61 #[.val (.int p1), .val (.long p2), .second, .val (.int p3), .val (.int (p1 &&& (3 : Int32))), .unset, .unset, .unset, .unset, .val (.long (p2 >>> ((14 : Int32).toInt64 &&& 63))), .second, .val (.int (p3 &&& (3 : Int32)))] [])) _
        refine XT.lload X0.here hx rfl (hb hby at_61) rfl ?_
        show Steps p.tables e below (s₁.setTop (mkF m 63 #[.val (.int p1), .val (.long p2), .second, .val (.int p3), .val (.int (p1 &&& (3 : Int32))), .unset, .unset, .unset, .unset, .val (.long (p2 >>> ((14 : Int32).toInt64 &&& 63))), .second, .val (.int (p3 &&& (3 : Int32)))] [(.long (p2 >>> ((14 : Int32).toInt64 &&& 63)))])) _
        refine XS.l2dS X0.here hx rfl (hb hby at_63) rfl rfl ?_
        show Steps p.tables e below (s₁.setTop (mkF m 64 #[.val (.int p1), .val (.long p2), .second, .val (.int p3), .val (.int (p1 &&& (3 : Int32))), .unset, .unset, .unset, .unset, .val (.long (p2 >>> ((14 : Int32).toInt64 &&& 63))), .second, .val (.int (p3 &&& (3 : Int32)))] [(.double (FP.l2d (p2 >>> ((14 : Int32).toInt64 &&& 63))))])) _
        refine XS.iload X0.here hx rfl (hb hby at_64) rfl ?_
        show Steps p.tables e below (s₁.setTop (mkF m 66 #[.val (.int p1), .val (.long p2), .second, .val (.int p3), .val (.int (p1 &&& (3 : Int32))), .unset, .unset, .unset, .unset, .val (.long (p2 >>> ((14 : Int32).toInt64 &&& 63))), .second, .val (.int (p3 &&& (3 : Int32)))] [(.int (p3 &&& (3 : Int32))), (.double (FP.l2d (p2 >>> ((14 : Int32).toInt64 &&& 63))))])) _
        refine XS.i2dS X0.here hx rfl (hb hby at_66) rfl rfl ?_
        show Steps p.tables e below (s₁.setTop (mkF m 67 #[.val (.int p1), .val (.long p2), .second, .val (.int p3), .val (.int (p1 &&& (3 : Int32))), .unset, .unset, .unset, .unset, .val (.long (p2 >>> ((14 : Int32).toInt64 &&& 63))), .second, .val (.int (p3 &&& (3 : Int32)))] [(.double (FP.i2d (p3 &&& (3 : Int32)))), (.double (FP.l2d (p2 >>> ((14 : Int32).toInt64 &&& 63))))])) _
        refine X0.ldc2DoubleC hx hown (mvT hZ (hw _ (List.mem_of_getElem? (i := 15) rfl))) (g := (mkF m 67 #[.val (.int p1), .val (.long p2), .second, .val (.int p3), .val (.int (p1 &&& (3 : Int32))), .unset, .unset, .unset, .unset, .val (.long (p2 >>> ((14 : Int32).toInt64 &&& 63))), .second, .val (.int (p3 &&& (3 : Int32)))] [(.double (FP.i2d (p3 &&& (3 : Int32)))), (.double (FP.l2d (p2 >>> ((14 : Int32).toInt64 &&& 63))))])) rfl (hb hby at_67) _ ?_
        show Steps p.tables e below (s₁.setTop (mkF m 70 #[.val (.int p1), .val (.long p2), .second, .val (.int p3), .val (.int (p1 &&& (3 : Int32))), .unset, .unset, .unset, .unset, .val (.long (p2 >>> ((14 : Int32).toInt64 &&& 63))), .second, .val (.int (p3 &&& (3 : Int32)))] [(.double (4616189618054758400 : UInt64)), (.double (FP.i2d (p3 &&& (3 : Int32)))), (.double (FP.l2d (p2 >>> ((14 : Int32).toInt64 &&& 63))))])) _
        refine XS.ddivS X0.here hx rfl (hb hby at_70) rfl (own_Dy_nn (own_quart p2 p3).1) rfl ?_
        show Steps p.tables e below (s₁.setTop (mkF m 71 #[.val (.int p1), .val (.long p2), .second, .val (.int p3), .val (.int (p1 &&& (3 : Int32))), .unset, .unset, .unset, .unset, .val (.long (p2 >>> ((14 : Int32).toInt64 &&& 63))), .second, .val (.int (p3 &&& (3 : Int32)))] [(.double (FP.ddiv (FP.i2d (p3 &&& (3 : Int32))) (4616189618054758400 : UInt64))), (.double (FP.l2d (p2 >>> ((14 : Int32).toInt64 &&& 63))))])) _
        refine XS.daddS X0.here hx rfl (hb hby at_71) rfl (own_Dy_nn (own_quart p2 p3).2) rfl ?_
        show Steps p.tables e below (s₁.setTop (mkF m 72 #[.val (.int p1), .val (.long p2), .second, .val (.int p3), .val (.int (p1 &&& (3 : Int32))), .unset, .unset, .unset, .unset, .val (.long (p2 >>> ((14 : Int32).toInt64 &&& 63))), .second, .val (.int (p3 &&& (3 : Int32)))] [(.double (FP.dadd (FP.l2d (p2 >>> ((14 : Int32).toInt64 &&& 63))) (FP.ddiv (FP.i2d (p3 &&& (3 : Int32))) (4616189618054758400 : UInt64))))])) _
        refine XS.dstore X0.here hx rfl (hb hby at_72) rfl (l' := #[.val (.int p1), .val (.long p2), .second, .val (.int p3), .val (.int (p1 &&& (3 : Int32))), .val (.double (FP.dadd (FP.l2d (p2 >>> ((14 : Int32).toInt64 &&& 63))) (FP.ddiv (FP.i2d (p3 &&& (3 : Int32))) (4616189618054758400 : UInt64)))), .second, .unset, .unset, .val (.long (p2 >>> ((14 : Int32).toInt64 &&& 63))), .second, .val (.int (p3 &&& (3 : Int32)))]) rfl ?_
        show Steps p.tables e below (s₁.setTop (mkF m 74 #[.val (.int p1), .val (.long p2), .second, .val (.int p3), .val (.int (p1 &&& (3 : Int32))), .val (.double (FP.dadd (FP.l2d (p2 >>> ((14 : Int32).toInt64 &&& 63))) (FP.ddiv (FP.i2d (p3 &&& (3 : Int32))) (4616189618054758400 : UInt64)))), .second, .unset, .unset, .val (.long (p2 >>> ((14 : Int32).toInt64 &&& 63))), .second, .val (.int (p3 &&& (3 : Int32)))] [])) _
        refine XT.lload X0.here hx rfl (hb hby at_74) rfl ?_
        show Steps p.tables e below (s₁.setTop (mkF m 76 #[.val (.int p1), .val (.long p2), .second, .val (.int p3), .val (.int (p1 &&& (3 : Int32))), .val (.double (FP.dadd (FP.l2d (p2 >>> ((14 : Int32).toInt64 &&& 63))) (FP.ddiv (FP.i2d (p3 &&& (3 : Int32))) (4616189618054758400 : UInt64)))), .second, .unset, .unset, .val (.long (p2 >>> ((14 : Int32).toInt64 &&& 63))), .second, .val (.int (p3 &&& (3 : Int32)))] [(.long (p2 >>> ((14 : Int32).toInt64 &&& 63)))])) _
        refine XT.lconst X0.here hx rfl (hb hby at_76) ?_
        show Steps p.tables e below (s₁.setTop (mkF m 77 #[.val (.int p1), .val (.long p2), .second, .val (.int p3), .val (.int (p1 &&& (3 : Int32))), .val (.double (FP.dadd (FP.l2d (p2 >>> ((14 : Int32).toInt64 &&& 63))) (FP.ddiv (FP.i2d (p3 &&& (3 : Int32))) (4616189618054758400 : UInt64)))), .second, .unset, .unset, .val (.long (p2 >>> ((14 : Int32).toInt64 &&& 63))), .second, .val (.int (p3 &&& (3 : Int32)))] [(.long (0 : Int64)), (.long (p2 >>> ((14 : Int32).toInt64 &&& 63)))])) _
        refine XT.lcmp X0.here hx rfl (hb hby at_77) rfl ?_
        show Steps p.tables e below (s₁.setTop (mkF m 78 #[.val (.int p1), .val (.long p2), .second, .val (.int p3), .val (.int (p1 &&& (3 : Int32))), .val (.double (FP.dadd (FP.l2d (p2 >>> ((14 : Int32).toInt64 &&& 63))) (FP.ddiv (FP.i2d (p3 &&& (3 : Int32))) (4616189618054758400 : UInt64)))), .second, .unset, .unset, .val (.long (p2 >>> ((14 : Int32).toInt64 &&& 63))), .second, .val (.int (p3 &&& (3 : Int32)))] [(.int (XT.cmpL (p2 >>> ((14 : Int32).toInt64 &&& 63)) (0 : Int64)))])) _
        refine XS.ifNo X0.here hx rfl (hb hby at_78) rfl ((if0 _ _).trans (tlt (own_gt g)).2.2.2) ?_
        show Steps p.tables e below (s₁.setTop (mkF m 81 #[.val (.int p1), .val (.long p2), .second, .val (.int p3), .val (.int (p1 &&& (3 : Int32))), .val (.double (FP.dadd (FP.l2d (p2 >>> ((14 : Int32).toInt64 &&& 63))) (FP.ddiv (FP.i2d (p3 &&& (3 : Int32))) (4616189618054758400 : UInt64)))), .second, .unset, .unset, .val (.long (p2 >>> ((14 : Int32).toInt64 &&& 63))), .second, .val (.int (p3 &&& (3 : Int32)))] [])) _
        refine XT.lload X0.here hx rfl (hb hby at_81) rfl ?_
        show Steps p.tables e below (s₁.setTop (mkF m 83 #[.val (.int p1), .val (.long p2), .second, .val (.int p3), .val (.int (p1 &&& (3 : Int32))), .val (.double (FP.dadd (FP.l2d (p2 >>> ((14 : Int32).toInt64 &&& 63))) (FP.ddiv (FP.i2d (p3 &&& (3 : Int32))) (4616189618054758400 : UInt64)))), .second, .unset, .unset, .val (.long (p2 >>> ((14 : Int32).toInt64 &&& 63))), .second, .val (.int (p3 &&& (3 : Int32)))] [(.long (p2 >>> ((14 : Int32).toInt64 &&& 63)))])) _
        refine XS.goto X0.here hx rfl (pc0 := 83) (pc' := 87) rfl (hb hby at_83) (by decide) (by decide) ?_
        show Steps p.tables e below (s₁.setTop (mkF m 87 #[.val (.int p1), .val (.long p2), .second, .val (.int p3), .val (.int (p1 &&& (3 : Int32))), .val (.double (FP.dadd (FP.l2d (p2 >>> ((14 : Int32).toInt64 &&& 63))) (FP.ddiv (FP.i2d (p3 &&& (3 : Int32))) (4616189618054758400 : UInt64)))), .second, .unset, .unset, .val (.long (p2 >>> ((14 : Int32).toInt64 &&& 63))), .second, .val (.int (p3 &&& (3 : Int32)))] [(.long (p2 >>> ((14 : Int32).toInt64 &&& 63)))])) _
        refine XT.lstore X0.here hx rfl (hb hby at_87) rfl (l' := #[.val (.int p1), .val (.long p2), .second, .val (.int p3), .val (.int (p1 &&& (3 : Int32))), .val (.double (FP.dadd (FP.l2d (p2 >>> ((14 : Int32).toInt64 &&& 63))) (FP.ddiv (FP.i2d (p3 &&& (3 : Int32))) (4616189618054758400 : UInt64)))), .second, .val (.long (p2 >>> ((14 : Int32).toInt64 &&& 63))), .second, .val (.long (p2 >>> ((14 : Int32).toInt64 &&& 63))), .second, .val (.int (p3 &&& (3 : Int32)))]) rfl ?_
        show Steps p.tables e below (s₁.setTop (mkF m 89 #[.val (.int p1), .val (.long p2), .second, .val (.int p3), .val (.int (p1 &&& (3 : Int32))), .val (.double (FP.dadd (FP.l2d (p2 >>> ((14 : Int32).toInt64 &&& 63))) (FP.ddiv (FP.i2d (p3 &&& (3 : Int32))) (4616189618054758400 : UInt64)))), .second, .val (.long (p2 >>> ((14 : Int32).toInt64 &&& 63))), .second, .val (.long (p2 >>> ((14 : Int32).toInt64 &&& 63))), .second, .val (.int (p3 &&& (3 : Int32)))] [])) _
        refine XS.goto X0.here hx rfl (pc0 := 89) (pc' := 148) rfl (hb hby at_89) (by decide) (by decide) ?_
        show Steps p.tables e below (s₁.setTop (mkF m 148 #[.val (.int p1), .val (.long p2), .second, .val (.int p3), .val (.int (p1 &&& (3 : Int32))), .val (.double (FP.dadd (FP.l2d (p2 >>> ((14 : Int32).toInt64 &&& 63))) (FP.ddiv (FP.i2d (p3 &&& (3 : Int32))) (4616189618054758400 : UInt64)))), .second, .val (.long (p2 >>> ((14 : Int32).toInt64 &&& 63))), .second, .val (.long (p2 >>> ((14 : Int32).toInt64 &&& 63))), .second, .val (.int (p3 &&& (3 : Int32)))] [])) _
        refine XS.dload X0.here hx rfl (hb hby at_148) rfl ?_
        show Steps p.tables e below (s₁.setTop (mkF m 150 #[.val (.int p1), .val (.long p2), .second, .val (.int p3), .val (.int (p1 &&& (3 : Int32))), .val (.double (FP.dadd (FP.l2d (p2 >>> ((14 : Int32).toInt64 &&& 63))) (FP.ddiv (FP.i2d (p3 &&& (3 : Int32))) (4616189618054758400 : UInt64)))), .second, .val (.long (p2 >>> ((14 : Int32).toInt64 &&& 63))), .second, .val (.long (p2 >>> ((14 : Int32).toInt64 &&& 63))), .second, .val (.int (p3 &&& (3 : Int32)))] [(.double (FP.dadd (FP.l2d (p2 >>> ((14 : Int32).toInt64 &&& 63))) (FP.ddiv (FP.i2d (p3 &&& (3 : Int32))) (4616189618054758400 : UInt64))))])) _
        refine st1 _ ?_
        show Steps p.tables e below (T1.setTop (mkF m 153 #[.val (.int p1), .val (.long p2), .second, .val (.int p3), .val (.int (p1 &&& (3 : Int32))), .val (.double (FP.dadd (FP.l2d (p2 >>> ((14 : Int32).toInt64 &&& 63))) (FP.ddiv (FP.i2d (p3 &&& (3 : Int32))) (4616189618054758400 : UInt64)))), .second, .val (.long (p2 >>> ((14 : Int32).toInt64 &&& 63))), .second, .val (.long (p2 >>> ((14 : Int32).toInt64 &&& 63))), .second, .val (.int (p3 &&& (3 : Int32)))] [(.long (p2 >>> ((14 : Int32).toInt64 &&& 63)))])) _
        refine XT.lload X1.here hx rfl (hb hby at_153) rfl ?_
        show Steps p.tables e below (T1.setTop (mkF m 155 #[.val (.int p1), .val (.long p2), .second, .val (.int p3), .val (.int (p1 &&& (3 : Int32))), .val (.double (FP.dadd (FP.l2d (p2 >>> ((14 : Int32).toInt64 &&& 63))) (FP.ddiv (FP.i2d (p3 &&& (3 : Int32))) (4616189618054758400 : UInt64)))), .second, .val (.long (p2 >>> ((14 : Int32).toInt64 &&& 63))), .second, .val (.long (p2 >>> ((14 : Int32).toInt64 &&& 63))), .second, .val (.int (p3 &&& (3 : Int32)))] [(.long (p2 >>> ((14 : Int32).toInt64 &&& 63))), (.long (p2 >>> ((14 : Int32).toInt64 &&& 63)))])) _
        refine XT.lcmp X1.here hx rfl (hb hby at_155) rfl ?_
        show Steps p.tables e below (T1.setTop (mkF m 156 #[.val (.int p1), .val (.long p2), .second, .val (.int p3), .val (.int (p1 &&& (3 : Int32))), .val (.double (FP.dadd (FP.l2d (p2 >>> ((14 : Int32).toInt64 &&& 63))) (FP.ddiv (FP.i2d (p3 &&& (3 : Int32))) (4616189618054758400 : UInt64)))), .second, .val (.long (p2 >>> ((14 : Int32).toInt64 &&& 63))), .second, .val (.long (p2 >>> ((14 : Int32).toInt64 &&& 63))), .second, .val (.int (p3 &&& (3 : Int32)))] [(.int (XT.cmpL (p2 >>> ((14 : Int32).toInt64 &&& 63)) (p2 >>> ((14 : Int32).toInt64 &&& 63))))])) _
        refine XS.ifNo X1.here hx rfl (hb hby at_156) rfl ((if0 _ _).trans (teq (own_eqr rfl)).2) ?_
        show Steps p.tables e below (T1.setTop (mkF m 159 #[.val (.int p1), .val (.long p2), .second, .val (.int p3), .val (.int (p1 &&& (3 : Int32))), .val (.double (FP.dadd (FP.l2d (p2 >>> ((14 : Int32).toInt64 &&& 63))) (FP.ddiv (FP.i2d (p3 &&& (3 : Int32))) (4616189618054758400 : UInt64)))), .second, .val (.long (p2 >>> ((14 : Int32).toInt64 &&& 63))), .second, .val (.long (p2 >>> ((14 : Int32).toInt64 &&& 63))), .second, .val (.int (p3 &&& (3 : Int32)))] [])) _
        refine XS.iconst X1.here hx rfl (hb hby at_159) ?_
        show Steps p.tables e below (T1.setTop (mkF m 160 #[.val (.int p1), .val (.long p2), .second, .val (.int p3), .val (.int (p1 &&& (3 : Int32))), .val (.double (FP.dadd (FP.l2d (p2 >>> ((14 : Int32).toInt64 &&& 63))) (FP.ddiv (FP.i2d (p3 &&& (3 : Int32))) (4616189618054758400 : UInt64)))), .second, .val (.long (p2 >>> ((14 : Int32).toInt64 &&& 63))), .second, .val (.long (p2 >>> ((14 : Int32).toInt64 &&& 63))), .second, .val (.int (p3 &&& (3 : Int32)))] [(.int (1 : Int32))])) _
        refine XS.goto X1.here hx rfl (pc0 := 160) (pc' := 164) rfl (hb hby at_160) (by decide) (by decide) ?_
        show Steps p.tables e below (T1.setTop (mkF m 164 #[.val (.int p1), .val (.long p2), .second, .val (.int p3), .val (.int (p1 &&& (3 : Int32))), .val (.double (FP.dadd (FP.l2d (p2 >>> ((14 : Int32).toInt64 &&& 63))) (FP.ddiv (FP.i2d (p3 &&& (3 : Int32))) (4616189618054758400 : UInt64)))), .second, .val (.long (p2 >>> ((14 : Int32).toInt64 &&& 63))), .second, .val (.long (p2 >>> ((14 : Int32).toInt64 &&& 63))), .second, .val (.int (p3 &&& (3 : Int32)))] [(.int (1 : Int32))])) _
        exact retN X1 hx (t := .boolean) Bd.returns (by simp) (hb hby at_164) hr
      · show Q0 Z p1 p2 p3 h0 n0 _ T1.heap _
        exact ⟨rfl, M1⟩
    · rw [if_neg g] at hm
      obtain ⟨_, _, ⟨T1, L1, k1, n1⟩, -, X1, ⟨Lc1, hQ1, l1, y1, z1⟩, st1⟩ := Jvm.LawKit.callS X0 hx (y := (⟨"com/example/tapir/tapir/runtime/Conversions", "toLength", "(D)J"⟩ : MethodName)) hown (mvT hZ (hw _ (List.mem_of_getElem? (i := 1) rfl))) (mvT hZ (hw _ (List.mem_of_getElem? (i := 2) rfl))) (mvT hZ (hw _ (List.mem_of_getElem? (i := 3) rfl))) (mvT hZ (hw _ (List.mem_of_getElem? (i := 4) rfl))) (by decide) (backOf (W := 0) (rm1 l Z a0 hw [] (FP.dadd (FP.l2d (p2 >>> ((14 : Int32).toInt64 &&& 63))) (FP.ddiv (FP.i2d (p3 &&& (3 : Int32))) (4616189618054758400 : UInt64))) (0 : Int64) h0 n0 Z0 hm) hZ (hw _ (List.mem_of_getElem? (i := 4) rfl)) (hw _ (List.mem_of_getElem? (i := 3) rfl)) (by decide) (by decide)) (g := (mkF m 150 #[.val (.int p1), .val (.long p2), .second, .val (.int p3), .val (.int (p1 &&& (3 : Int32))), .val (.double (FP.dadd (FP.l2d (p2 >>> ((14 : Int32).toInt64 &&& 63))) (FP.ddiv (FP.i2d (p3 &&& (3 : Int32))) (4616189618054758400 : UInt64)))), .second, .val (.long (0 : Int64)), .second, .val (.long (p2 >>> ((14 : Int32).toInt64 &&& 63))), .second, .val (.int (p3 &&& (3 : Int32)))] [(.double (FP.dadd (FP.l2d (p2 >>> ((14 : Int32).toInt64 &&& 63))) (FP.ddiv (FP.i2d (p3 &&& (3 : Int32))) (4616189618054758400 : UInt64))))])) rfl (by rw [hml]; rfl) (argsL := [(.double (FP.dadd (FP.l2d (p2 >>> ((14 : Int32).toInt64 &&& 63))) (FP.ddiv (FP.i2d (p3 &&& (3 : Int32))) (4616189618054758400 : UInt64))))]) (rest := []) (lenOf pd1 rfl) rfl (by show 2 * 0 + _ ≤ _; exact Nat.le_of_eq rfl) (hb hby at_150) (fun _ _ => ⟨rfl, e0, (by decide : 0 + 0 ≤ _), (by decide : 0 + 0 ≤ _)⟩)
      dsimp only [Pt.U, Pt.locs, Pt.cells, Pt.slots] at X1 l1 y1 z1 st1 hQ1
      subst l1 y1 z1
      obtain ⟨rfl, N1, e1⟩ := hQ1
      have M1 := Fr.app N0 N1
      obtain ⟨fs, hr, hrun, hended, hW, hsame⟩ := X1.leave (v := some (.int (1 : Int32))) (fun h => by rw [Bd.returns] at h; cases h)
      refine ⟨_, _, pre0 _ ?_, hrun, hended, _, _, rfl, ?_, ⟨_, rfl⟩, hW, hsame.mono (by decide) (by decide)⟩
      · show Steps p.tables e below (s₁.setTop (mkF m 0 #[.val (.int p1), .val (.long p2), .second, .val (.int p3), .unset, .unset, .unset, .unset, .unset, .unset, .unset, .unset] [])) _
        refine XS.iloadN X0.here hx rfl (hb hby at_0) rfl ?_
        show Steps p.tables e below (s₁.setTop (mkF m 1 #[.val (.int p1), .val (.long p2), .second, .val (.int p3), .unset, .unset, .unset, .unset, .unset, .unset, .unset, .unset] [(.int p1)])) _
        refine XS.iconst X0.here hx rfl (hb hby at_1) ?_
        show Steps p.tables e below (s₁.setTop (mkF m 2 #[.val (.int p1), .val (.long p2), .second, .val (.int p3), .unset, .unset, .unset, .unset, .unset, .unset, .unset, .unset] [(.int (3 : Int32)), (.int p1)])) _
        refine XS.iand X0.here hx rfl (hb hby at_2) rfl ?_
        show Steps p.tables e below (s₁.setTop (mkF m 3 #[.val (.int p1), .val (.long p2), .second, .val (.int p3), .unset, .unset, .unset, .unset, .unset, .unset, .unset, .unset] [(.int (p1 &&& (3 : Int32)))])) _
        refine XS.istore X0.here hx rfl (hb hby at_3) rfl (l' := #[.val (.int p1), .val (.long p2), .second, .val (.int p3), .val (.int (p1 &&& (3 : Int32))), .unset, .unset, .unset, .unset, .unset, .unset, .unset]) rfl ?_
        show Steps p.tables e below (s₁.setTop (mkF m 5 #[.val (.int p1), .val (.long p2), .second, .val (.int p3), .val (.int (p1 &&& (3 : Int32))), .unset, .unset, .unset, .unset, .unset, .unset, .unset] [])) _
        refine XS.iload X0.here hx rfl (hb hby at_5) rfl ?_
        show Steps p.tables e below (s₁.setTop (mkF m 7 #[.val (.int p1), .val (.long p2), .second, .val (.int p3), .val (.int (p1 &&& (3 : Int32))), .unset, .unset, .unset, .unset, .unset, .unset, .unset] [(.int (p1 &&& (3 : Int32)))])) _
        refine XS.ifYes X0.here hx rfl (pc0 := 7) (pc' := 44) rfl (hb hby at_7) rfl ((if0 _ _).trans (feq c0).2) (by decide) (by decide) ?_
        show Steps p.tables e below (s₁.setTop (mkF m 44 #[.val (.int p1), .val (.long p2), .second, .val (.int p3), .val (.int (p1 &&& (3 : Int32))), .unset, .unset, .unset, .unset, .unset, .unset, .unset] [])) _
        refine XS.iload X0.here hx rfl (hb hby at_44) rfl ?_
        show Steps p.tables e below (s₁.setTop (mkF m 46 #[.val (.int p1), .val (.long p2), .second, .val (.int p3), .val (.int (p1 &&& (3 : Int32))), .unset, .unset, .unset, .unset, .unset, .unset, .unset] [(.int (p1 &&& (3 : Int32)))])) _
        refine XS.iconst X0.here hx rfl (hb hby at_46) ?_
        show Steps p.tables e below (s₁.setTop (mkF m 47 #[.val (.int p1), .val (.long p2), .second, .val (.int p3), .val (.int (p1 &&& (3 : Int32))), .unset, .unset, .unset, .unset, .unset, .unset, .unset] [(.int (1 : Int32)), (.int (p1 &&& (3 : Int32)))])) _
        refine XS.icmpNo X0.here hx rfl (hb hby at_47) rfl (teq c1).2 ?_
        show Steps p.tables e below (s₁.setTop (mkF m 50 #[.val (.int p1), .val (.long p2), .second, .val (.int p3), .val (.int (p1 &&& (3 : Int32))), .unset, .unset, .unset, .unset, .unset, .unset, .unset] [])) _
        refine XT.lloadN X0.here hx rfl (hb hby at_50) rfl ?_
        show Steps p.tables e below (s₁.setTop (mkF m 51 #[.val (.int p1), .val (.long p2), .second, .val (.int p3), .val (.int (p1 &&& (3 : Int32))), .unset, .unset, .unset, .unset, .unset, .unset, .unset] [(.long p2)])) _
        refine XS.bipush X0.here hx rfl (hb hby at_51) ?_
        show Steps p.tables e below (s₁.setTop (mkF m 53 #[.val (.int p1), .val (.long p2), .second, .val (.int p3), .val (.int (p1 &&& (3 : Int32))), .unset, .unset, .unset, .unset, .unset, .unset, .unset] [(.int (14 : Int32)), (.long p2)])) _
        refine XT.lshr X0.here hx rfl (hb hby at_53) rfl ?_
        show Steps p.tables e below (s₁.setTop (mkF m 54 #[.val (.int p1), .val (.long p2), .second, .val (.int p3), .val (.int (p1 &&& (3 : Int32))), .unset, .unset, .unset, .unset, .unset, .unset, .unset] [(.long (p2 >>> ((14 : Int32).toInt64 &&& 63)))])) _
        refine XT.lstore X0.here hx rfl (hb hby at_54) rfl (l' := #[.val (.int p1), .val (.long p2), .second, .val (.int p3), .val (.int (p1 &&& (3 : Int32))), .unset, .unset, .unset, .unset, .val (.long (p2 >>> ((14 : Int32).toInt64 &&& 63))), .second, .unset]) rfl ?_
        show Steps p.tables e below (s₁.setTop (mkF m 56 #[.val (.int p1), .val (.long p2), .second, .val (.int p3), .val (.int (p1 &&& (3 : Int32))), .unset, .unset, .unset, .unset, .val (.long (p2 >>> ((14 : Int32).toInt64 &&& 63))), .second, .unset] [])) _
        refine XS.iloadN X0.here hx rfl (hb hby at_56) rfl ?_
        show Steps p.tables e below (s₁.setTop (mkF m 57 #[.val (.int p1), .val (.long p2), .second, .val (.int p3), .val (.int (p1 &&& (3 : Int32))), .unset, .unset, .unset, .unset, .val (.long (p2 >>> ((14 : Int32).toInt64 &&& 63))), .second, .unset] [(.int p3)])) _
        refine XS.iconst X0.here hx rfl (hb hby at_57) ?_
        show Steps p.tables e below (s₁.setTop (mkF m 58 #[.val (.int p1), .val (.long p2), .second, .val (.int p3), .val (.int (p1 &&& (3 : Int32))), .unset, .unset, .unset, .unset, .val (.long (p2 >>> ((14 : Int32).toInt64 &&& 63))), .second, .unset] [(.int (3 : Int32)), (.int p3)])) _
        refine XS.iand X0.here hx rfl (hb hby at_58) rfl ?_
        show Steps p.tables e below (s₁.setTop (mkF m 59 #[.val (.int p1), .val (.long p2), .second, .val (.int p3), .val (.int (p1 &&& (3 : Int32))), .unset, .unset, .unset, .unset, .val (.long (p2 >>> ((14 : Int32).toInt64 &&& 63))), .second, .unset] [(.int (p3 &&& (3 : Int32)))])) _
        refine XS.istore X0.here hx rfl (hb hby at_59) rfl (l' := #[.val (.int p1), .val (.long p2), .second, .val (.int p3), .val (.int (p1 &&& (3 : Int32))), .unset, .unset, .unset, .unset, .val (.long (p2 >>> ((14 : Int32).toInt64 &&& 63))), .second, .val (.int (p3 &&& (3 : Int32)))]) rfl ?_
        show Steps p.tables e below (s₁.setTop (mkF m 61 #[.val (.int p1), .val (.long p2), .second, .val (.int p3), .val (.int (p1 &&& (3 : Int32))), .unset, .unset, .unset, .unset, .val (.long (p2 >>> ((14 : Int32).toInt64 &&& 63))), .second, .val (.int (p3 &&& (3 : Int32)))] [])) _
        refine XT.lload X0.here hx rfl (hb hby at_61) rfl ?_
        show Steps p.tables e below (s₁.setTop (mkF m 63 #[.val (.int p1), .val (.long p2), .second, .val (.int p3), .val (.int (p1 &&& (3 : Int32))), .unset, .unset, .unset, .unset, .val (.long (p2 >>> ((14 : Int32).toInt64 &&& 63))), .second, .val (.int (p3 &&& (3 : Int32)))] [(.long (p2 >>> ((14 : Int32).toInt64 &&& 63)))])) _
        refine XS.l2dS X0.here hx rfl (hb hby at_63) rfl rfl ?_
        show Steps p.tables e below (s₁.setTop (mkF m 64 #[.val (.int p1), .val (.long p2), .second, .val (.int p3), .val (.int (p1 &&& (3 : Int32))), .unset, .unset, .unset, .unset, .val (.long (p2 >>> ((14 : Int32).toInt64 &&& 63))), .second, .val (.int (p3 &&& (3 : Int32)))] [(.double (FP.l2d (p2 >>> ((14 : Int32).toInt64 &&& 63))))])) _
        refine XS.iload X0.here hx rfl (hb hby at_64) rfl ?_
        show Steps p.tables e below (s₁.setTop (mkF m 66 #[.val (.int p1), .val (.long p2), .second, .val (.int p3), .val (.int (p1 &&& (3 : Int32))), .unset, .unset, .unset, .unset, .val (.long (p2 >>> ((14 : Int32).toInt64 &&& 63))), .second, .val (.int (p3 &&& (3 : Int32)))] [(.int (p3 &&& (3 : Int32))), (.double (FP.l2d (p2 >>> ((14 : Int32).toInt64 &&& 63))))])) _
        refine XS.i2dS X0.here hx rfl (hb hby at_66) rfl rfl ?_
        show Steps p.tables e below (s₁.setTop (mkF m 67 #[.val (.int p1), .val (.long p2), .second, .val (.int p3), .val (.int (p1 &&& (3 : Int32))), .unset, .unset, .unset, .unset, .val (.long (p2 >>> ((14 : Int32).toInt64 &&& 63))), .second, .val (.int (p3 &&& (3 : Int32)))] [(.double (FP.i2d (p3 &&& (3 : Int32)))), (.double (FP.l2d (p2 >>> ((14 : Int32).toInt64 &&& 63))))])) _
        refine X0.ldc2DoubleC hx hown (mvT hZ (hw _ (List.mem_of_getElem? (i := 15) rfl))) (g := (mkF m 67 #[.val (.int p1), .val (.long p2), .second, .val (.int p3), .val (.int (p1 &&& (3 : Int32))), .unset, .unset, .unset, .unset, .val (.long (p2 >>> ((14 : Int32).toInt64 &&& 63))), .second, .val (.int (p3 &&& (3 : Int32)))] [(.double (FP.i2d (p3 &&& (3 : Int32)))), (.double (FP.l2d (p2 >>> ((14 : Int32).toInt64 &&& 63))))])) rfl (hb hby at_67) _ ?_
        show Steps p.tables e below (s₁.setTop (mkF m 70 #[.val (.int p1), .val (.long p2), .second, .val (.int p3), .val (.int (p1 &&& (3 : Int32))), .unset, .unset, .unset, .unset, .val (.long (p2 >>> ((14 : Int32).toInt64 &&& 63))), .second, .val (.int (p3 &&& (3 : Int32)))] [(.double (4616189618054758400 : UInt64)), (.double (FP.i2d (p3 &&& (3 : Int32)))), (.double (FP.l2d (p2 >>> ((14 : Int32).toInt64 &&& 63))))])) _
        refine XS.ddivS X0.here hx rfl (hb hby at_70) rfl (own_Dy_nn (own_quart p2 p3).1) rfl ?_
        show Steps p.tables e below (s₁.setTop (mkF m 71 #[.val (.int p1), .val (.long p2), .second, .val (.int p3), .val (.int (p1 &&& (3 : Int32))), .unset, .unset, .unset, .unset, .val (.long (p2 >>> ((14 : Int32).toInt64 &&& 63))), .second, .val (.int (p3 &&& (3 : Int32)))] [(.double (FP.ddiv (FP.i2d (p3 &&& (3 : Int32))) (4616189618054758400 : UInt64))), (.double (FP.l2d (p2 >>> ((14 : Int32).toInt64 &&& 63))))])) _
        refine XS.daddS X0.here hx rfl (hb hby at_71) rfl (own_Dy_nn (own_quart p2 p3).2) rfl ?_
        show Steps p.tables e below (s₁.setTop (mkF m 72 #[.val (.int p1), .val (.long p2), .second, .val (.int p3), .val (.int (p1 &&& (3 : Int32))), .unset, .unset, .unset, .unset, .val (.long (p2 >>> ((14 : Int32).toInt64 &&& 63))), .second, .val (.int (p3 &&& (3 : Int32)))] [(.double (FP.dadd (FP.l2d (p2 >>> ((14 : Int32).toInt64 &&& 63))) (FP.ddiv (FP.i2d (p3 &&& (3 : Int32))) (4616189618054758400 : UInt64))))])) _
        refine XS.dstore X0.here hx rfl (hb hby at_72) rfl (l' := #[.val (.int p1), .val (.long p2), .second, .val (.int p3), .val (.int (p1 &&& (3 : Int32))), .val (.double (FP.dadd (FP.l2d (p2 >>> ((14 : Int32).toInt64 &&& 63))) (FP.ddiv (FP.i2d (p3 &&& (3 : Int32))) (4616189618054758400 : UInt64)))), .second, .unset, .unset, .val (.long (p2 >>> ((14 : Int32).toInt64 &&& 63))), .second, .val (.int (p3 &&& (3 : Int32)))]) rfl ?_
        show Steps p.tables e below (s₁.setTop (mkF m 74 #[.val (.int p1), .val (.long p2), .second, .val (.int p3), .val (.int (p1 &&& (3 : Int32))), .val (.double (FP.dadd (FP.l2d (p2 >>> ((14 : Int32).toInt64 &&& 63))) (FP.ddiv (FP.i2d (p3 &&& (3 : Int32))) (4616189618054758400 : UInt64)))), .second, .unset, .unset, .val (.long (p2 >>> ((14 : Int32).toInt64 &&& 63))), .second, .val (.int (p3 &&& (3 : Int32)))] [])) _
        refine XT.lload X0.here hx rfl (hb hby at_74) rfl ?_
        show Steps p.tables e below (s₁.setTop (mkF m 76 #[.val (.int p1), .val (.long p2), .second, .val (.int p3), .val (.int (p1 &&& (3 : Int32))), .val (.double (FP.dadd (FP.l2d (p2 >>> ((14 : Int32).toInt64 &&& 63))) (FP.ddiv (FP.i2d (p3 &&& (3 : Int32))) (4616189618054758400 : UInt64)))), .second, .unset, .unset, .val (.long (p2 >>> ((14 : Int32).toInt64 &&& 63))), .second, .val (.int (p3 &&& (3 : Int32)))] [(.long (p2 >>> ((14 : Int32).toInt64 &&& 63)))])) _
        refine XT.lconst X0.here hx rfl (hb hby at_76) ?_
        show Steps p.tables e below (s₁.setTop (mkF m 77 #[.val (.int p1), .val (.long p2), .second, .val (.int p3), .val (.int (p1 &&& (3 : Int32))), .val (.double (FP.dadd (FP.l2d (p2 >>> ((14 : Int32).toInt64 &&& 63))) (FP.ddiv (FP.i2d (p3 &&& (3 : Int32))) (4616189618054758400 : UInt64)))), .second, .unset, .unset, .val (.long (p2 >>> ((14 : Int32).toInt64 &&& 63))), .second, .val (.int (p3 &&& (3 : Int32)))] [(.long (0 : Int64)), (.long (p2 >>> ((14 : Int32).toInt64 &&& 63)))])) _
        refine XT.lcmp X0.here hx rfl (hb hby at_77) rfl ?_
        show Steps p.tables e below (s₁.setTop (mkF m 78 #[.val (.int p1), .val (.long p2), .second, .val (.int p3), .val (.int (p1 &&& (3 : Int32))), .val (.double (FP.dadd (FP.l2d (p2 >>> ((14 : Int32).toInt64 &&& 63))) (FP.ddiv (FP.i2d (p3 &&& (3 : Int32))) (4616189618054758400 : UInt64)))), .second, .unset, .unset, .val (.long (p2 >>> ((14 : Int32).toInt64 &&& 63))), .second, .val (.int (p3 &&& (3 : Int32)))] [(.int (XT.cmpL (p2 >>> ((14 : Int32).toInt64 &&& 63)) (0 : Int64)))])) _
        refine XS.ifYes X0.here hx rfl (pc0 := 78) (pc' := 86) rfl (hb hby at_78) rfl ((if0 _ _).trans (flt (own_ngt g)).2.2.2) (by decide) (by decide) ?_
        show Steps p.tables e below (s₁.setTop (mkF m 86 #[.val (.int p1), .val (.long p2), .second, .val (.int p3), .val (.int (p1 &&& (3 : Int32))), .val (.double (FP.dadd (FP.l2d (p2 >>> ((14 : Int32).toInt64 &&& 63))) (FP.ddiv (FP.i2d (p3 &&& (3 : Int32))) (4616189618054758400 : UInt64)))), .second, .unset, .unset, .val (.long (p2 >>> ((14 : Int32).toInt64 &&& 63))), .second, .val (.int (p3 &&& (3 : Int32)))] [])) _
        refine XT.lconst X0.here hx rfl (hb hby at_86) ?_
        show Steps p.tables e below (s₁.setTop (mkF m 87 #[.val (.int p1), .val (.long p2), .second, .val (.int p3), .val (.int (p1 &&& (3 : Int32))), .val (.double (FP.dadd (FP.l2d (p2 >>> ((14 : Int32).toInt64 &&& 63))) (FP.ddiv (FP.i2d (p3 &&& (3 : Int32))) (4616189618054758400 : UInt64)))), .second, .unset, .unset, .val (.long (p2 >>> ((14 : Int32).toInt64 &&& 63))), .second, .val (.int (p3 &&& (3 : Int32)))] [(.long (0 : Int64))])) _
        refine XT.lstore X0.here hx rfl (hb hby at_87) rfl (l' := #[.val (.int p1), .val (.long p2), .second, .val (.int p3), .val (.int (p1 &&& (3 : Int32))), .val (.double (FP.dadd (FP.l2d (p2 >>> ((14 : Int32).toInt64 &&& 63))) (FP.ddiv (FP.i2d (p3 &&& (3 : Int32))) (4616189618054758400 : UInt64)))), .second, .val (.long (0 : Int64)), .second, .val (.long (p2 >>> ((14 : Int32).toInt64 &&& 63))), .second, .val (.int (p3 &&& (3 : Int32)))]) rfl ?_
        show Steps p.tables e below (s₁.setTop (mkF m 89 #[.val (.int p1), .val (.long p2), .second, .val (.int p3), .val (.int (p1 &&& (3 : Int32))), .val (.double (FP.dadd (FP.l2d (p2 >>> ((14 : Int32).toInt64 &&& 63))) (FP.ddiv (FP.i2d (p3 &&& (3 : Int32))) (4616189618054758400 : UInt64)))), .second, .val (.long (0 : Int64)), .second, .val (.long (p2 >>> ((14 : Int32).toInt64 &&& 63))), .second, .val (.int (p3 &&& (3 : Int32)))] [])) _
        refine XS.goto X0.here hx rfl (pc0 := 89) (pc' := 148) rfl (hb hby at_89) (by decide) (by decide) ?_
        show Steps p.tables e below (s₁.setTop (mkF m 148 #[.val (.int p1), .val (.long p2), .second, .val (.int p3), .val (.int (p1 &&& (3 : Int32))), .val (.double (FP.dadd (FP.l2d (p2 >>> ((14 : Int32).toInt64 &&& 63))) (FP.ddiv (FP.i2d (p3 &&& (3 : Int32))) (4616189618054758400 : UInt64)))), .second, .val (.long (0 : Int64)), .second, .val (.long (p2 >>> ((14 : Int32).toInt64 &&& 63))), .second, .val (.int (p3 &&& (3 : Int32)))] [])) _
        refine XS.dload X0.here hx rfl (hb hby at_148) rfl ?_
        show Steps p.tables e below (s₁.setTop (mkF m 150 #[.val (.int p1), .val (.long p2), .second, .val (.int p3), .val (.int (p1 &&& (3 : Int32))), .val (.double (FP.dadd (FP.l2d (p2 >>> ((14 : Int32).toInt64 &&& 63))) (FP.ddiv (FP.i2d (p3 &&& (3 : Int32))) (4616189618054758400 : UInt64)))), .second, .val (.long (0 : Int64)), .second, .val (.long (p2 >>> ((14 : Int32).toInt64 &&& 63))), .second, .val (.int (p3 &&& (3 : Int32)))] [(.double (FP.dadd (FP.l2d (p2 >>> ((14 : Int32).toInt64 &&& 63))) (FP.ddiv (FP.i2d (p3 &&& (3 : Int32))) (4616189618054758400 : UInt64))))])) _
        refine st1 _ ?_
        show Steps p.tables e below (T1.setTop (mkF m 153 #[.val (.int p1), .val (.long p2), .second, .val (.int p3), .val (.int (p1 &&& (3 : Int32))), .val (.double (FP.dadd (FP.l2d (p2 >>> ((14 : Int32).toInt64 &&& 63))) (FP.ddiv (FP.i2d (p3 &&& (3 : Int32))) (4616189618054758400 : UInt64)))), .second, .val (.long (0 : Int64)), .second, .val (.long (p2 >>> ((14 : Int32).toInt64 &&& 63))), .second, .val (.int (p3 &&& (3 : Int32)))] [(.long (0 : Int64))])) _
        refine XT.lload X1.here hx rfl (hb hby at_153) rfl ?_
        show Steps p.tables e below (T1.setTop (mkF m 155 #[.val (.int p1), .val (.long p2), .second, .val (.int p3), .val (.int (p1 &&& (3 : Int32))), .val (.double (FP.dadd (FP.l2d (p2 >>> ((14 : Int32).toInt64 &&& 63))) (FP.ddiv (FP.i2d (p3 &&& (3 : Int32))) (4616189618054758400 : UInt64)))), .second, .val (.long (0 : Int64)), .second, .val (.long (p2 >>> ((14 : Int32).toInt64 &&& 63))), .second, .val (.int (p3 &&& (3 : Int32)))] [(.long (0 : Int64)), (.long (0 : Int64))])) _
        refine XT.lcmp X1.here hx rfl (hb hby at_155) rfl ?_
        show Steps p.tables e below (T1.setTop (mkF m 156 #[.val (.int p1), .val (.long p2), .second, .val (.int p3), .val (.int (p1 &&& (3 : Int32))), .val (.double (FP.dadd (FP.l2d (p2 >>> ((14 : Int32).toInt64 &&& 63))) (FP.ddiv (FP.i2d (p3 &&& (3 : Int32))) (4616189618054758400 : UInt64)))), .second, .val (.long (0 : Int64)), .second, .val (.long (p2 >>> ((14 : Int32).toInt64 &&& 63))), .second, .val (.int (p3 &&& (3 : Int32)))] [(.int (XT.cmpL (0 : Int64) (0 : Int64)))])) _
        refine XS.ifNo X1.here hx rfl (hb hby at_156) rfl ((if0 _ _).trans (teq (own_eqr rfl)).2) ?_
        show Steps p.tables e below (T1.setTop (mkF m 159 #[.val (.int p1), .val (.long p2), .second, .val (.int p3), .val (.int (p1 &&& (3 : Int32))), .val (.double (FP.dadd (FP.l2d (p2 >>> ((14 : Int32).toInt64 &&& 63))) (FP.ddiv (FP.i2d (p3 &&& (3 : Int32))) (4616189618054758400 : UInt64)))), .second, .val (.long (0 : Int64)), .second, .val (.long (p2 >>> ((14 : Int32).toInt64 &&& 63))), .second, .val (.int (p3 &&& (3 : Int32)))] [])) _
        refine XS.iconst X1.here hx rfl (hb hby at_159) ?_
        show Steps p.tables e below (T1.setTop (mkF m 160 #[.val (.int p1), .val (.long p2), .second, .val (.int p3), .val (.int (p1 &&& (3 : Int32))), .val (.double (FP.dadd (FP.l2d (p2 >>> ((14 : Int32).toInt64 &&& 63))) (FP.ddiv (FP.i2d (p3 &&& (3 : Int32))) (4616189618054758400 : UInt64)))), .second, .val (.long (0 : Int64)), .second, .val (.long (p2 >>> ((14 : Int32).toInt64 &&& 63))), .second, .val (.int (p3 &&& (3 : Int32)))] [(.int (1 : Int32))])) _
        refine XS.goto X1.here hx rfl (pc0 := 160) (pc' := 164) rfl (hb hby at_160) (by decide) (by decide) ?_
        show Steps p.tables e below (T1.setTop (mkF m 164 #[.val (.int p1), .val (.long p2), .second, .val (.int p3), .val (.int (p1 &&& (3 : Int32))), .val (.double (FP.dadd (FP.l2d (p2 >>> ((14 : Int32).toInt64 &&& 63))) (FP.ddiv (FP.i2d (p3 &&& (3 : Int32))) (4616189618054758400 : UInt64)))), .second, .val (.long (0 : Int64)), .second, .val (.long (p2 >>> ((14 : Int32).toInt64 &&& 63))), .second, .val (.int (p3 &&& (3 : Int32)))] [(.int (1 : Int32))])) _
        exact retN X1 hx (t := .boolean) Bd.returns (by simp) (hb hby at_164) hr
      · show Q0 Z p1 p2 p3 h0 n0 _ T1.heap _
        exact ⟨rfl, M1⟩
  by_cases c2 : (p1 &&& (3 : Int32)) = 2
  · by_cases g : 0 < p2
    · obtain ⟨_, _, ⟨T1, L1, k1, n1⟩, -, X1, ⟨Lc1, hQ1, l1, y1, z1⟩, st1⟩ := Jvm.LawKit.callS X0 hx (y := (⟨"com/example/tapir/tapir/runtime/Conversions", "toLength", "(D)J"⟩ : MethodName)) hown (mvT hZ (hw _ (List.mem_of_getElem? (i := 1) rfl))) (mvT hZ (hw _ (List.mem_of_getElem? (i := 2) rfl))) (mvT hZ (hw _ (List.mem_of_getElem? (i := 3) rfl))) (mvT hZ (hw _ (List.mem_of_getElem? (i := 4) rfl))) (by decide) (backOf (W := 0) (rm1 l Z a0 hw [] (FP.dmul (FP.dmul (FP.l2d p2) (4751297606875873280 : UInt64)) (4751297606875873280 : UInt64)) (9007199254740991 : Int64) h0 n0 Z0 (own_m2a g)) hZ (hw _ (List.mem_of_getElem? (i := 4) rfl)) (hw _ (List.mem_of_getElem? (i := 3) rfl)) (by decide) (by decide)) (g := (mkF m 150 #[.val (.int p1), .val (.long p2), .second, .val (.int p3), .val (.int (p1 &&& (3 : Int32))), .val (.double (FP.dmul (FP.dmul (FP.l2d p2) (4751297606875873280 : UInt64)) (4751297606875873280 : UInt64))), .second, .val (.long (9007199254740991 : Int64)), .second, .unset, .unset, .unset] [(.double (FP.dmul (FP.dmul (FP.l2d p2) (4751297606875873280 : UInt64)) (4751297606875873280 : UInt64)))])) rfl (by rw [hml]; rfl) (argsL := [(.double (FP.dmul (FP.dmul (FP.l2d p2) (4751297606875873280 : UInt64)) (4751297606875873280 : UInt64)))]) (rest := []) (lenOf pd1 rfl) rfl (by show 2 * 0 + _ ≤ _; exact Nat.le_of_eq rfl) (hb hby at_150) (fun _ _ => ⟨rfl, e0, (by decide : 0 + 0 ≤ _), (by decide : 0 + 0 ≤ _)⟩)
      dsimp only [Pt.U, Pt.locs, Pt.cells, Pt.slots] at X1 l1 y1 z1 st1 hQ1
      subst l1 y1 z1
      obtain ⟨rfl, N1, e1⟩ := hQ1
      have M1 := Fr.app N0 N1
      obtain ⟨fs, hr, hrun, hended, hW, hsame⟩ := X1.leave (v := some (.int (1 : Int32))) (fun h => by rw [Bd.returns] at h; cases h)
      refine ⟨_, _, pre0 _ ?_, hrun, hended, _, _, rfl, ?_, ⟨_, rfl⟩, hW, hsame.mono (by decide) (by decide)⟩
      · show Steps p.tables e below (s₁.setTop (mkF m 0 #[.val (.int p1), .val (.long p2), .second, .val (.int p3), .unset, .unset, .unset, .unset, .unset, .unset, .unset, .unset] [])) _
        refine XS.iloadN X0.here hx rfl (hb hby at_0) rfl ?_
        show Steps p.tables e below (s₁.setTop (mkF m 1 #[.val (.int p1), .val (.long p2), .second, .val (.int p3), .unset, .unset, .unset, .unset, .unset, .unset, .unset, .unset] [(.int p1)])) _
        refine XS.iconst X0.here hx rfl (hb hby at_1) ?_
        show Steps p.tables e below (s₁.setTop (mkF m 2 #[.val (.int p1), .val (.long p2), .second, .val (.int p3), .unset, .unset, .unset, .unset, .unset, .unset, .unset, .unset] [(.int (3 : Int32)), (.int p1)])) _
        refine XS.iand X0.here hx rfl (hb hby at_2) rfl ?_
        show Steps p.tables e below (s₁.setTop (mkF m 3 #[.val (.int p1), .val (.long p2), .second, .val (.int p3), .unset, .unset, .unset, .unset, .unset, .unset, .unset, .unset] [(.int (p1 &&& (3 : Int32)))])) _
        refine XS.istore X0.here hx rfl (hb hby at_3) rfl (l' := #[.val (.int p1), .val (.long p2), .second, .val (.int p3), .val (.int (p1 &&& (3 : Int32))), .unset, .unset, .unset, .unset, .unset, .unset, .unset]) rfl ?_
        show Steps p.tables e below (s₁.setTop (mkF m 5 #[.val (.int p1), .val (.long p2), .second, .val (.int p3), .val (.int (p1 &&& (3 : Int32))), .unset, .unset, .unset, .unset, .unset, .unset, .unset] [])) _
        refine XS.iload X0.here hx rfl (hb hby at_5) rfl ?_
        show Steps p.tables e below (s₁.setTop (mkF m 7 #[.val (.int p1), .val (.long p2), .second, .val (.int p3), .val (.int (p1 &&& (3 : Int32))), .unset, .unset, .unset, .unset, .unset, .unset, .unset] [(.int (p1 &&& (3 : Int32)))])) _
        refine XS.ifYes X0.here hx rfl (pc0 := 7) (pc' := 44) rfl (hb hby at_7) rfl ((if0 _ _).trans (feq c0).2) (by decide) (by decide) ?_
        show Steps p.tables e below (s₁.setTop (mkF m 44 #[.val (.int p1), .val (.long p2), .second, .val (.int p3), .val (.int (p1 &&& (3 : Int32))), .unset, .unset, .unset, .unset, .unset, .unset, .unset] [])) _
        refine XS.iload X0.here hx rfl (hb hby at_44) rfl ?_
        show Steps p.tables e below (s₁.setTop (mkF m 46 #[.val (.int p1), .val (.long p2), .second, .val (.int p3), .val (.int (p1 &&& (3 : Int32))), .unset, .unset, .unset, .unset, .unset, .unset, .unset] [(.int (p1 &&& (3 : Int32)))])) _
        refine XS.iconst X0.here hx rfl (hb hby at_46) ?_
        show Steps p.tables e below (s₁.setTop (mkF m 47 #[.val (.int p1), .val (.long p2), .second, .val (.int p3), .val (.int (p1 &&& (3 : Int32))), .unset, .unset, .unset, .unset, .unset, .unset, .unset] [(.int (1 : Int32)), (.int (p1 &&& (3 : Int32)))])) _
        refine XS.icmpYes X0.here hx rfl (pc0 := 47) (pc' := 92) rfl (hb hby at_47) rfl (feq c1).2 (by decide) (by decide) ?_
        show Steps p.tables e below (s₁.setTop (mkF m 92 #[.val (.int p1), .val (.long p2), .second, .val (.int p3), .val (.int (p1 &&& (3 : Int32))), .unset, .unset, .unset, .unset, .unset, .unset, .unset] [])) _
        refine XS.iload X0.here hx rfl (hb hby at_92) rfl ?_
        show Steps p.tables e below (s₁.setTop (mkF m 94 #[.val (.int p1), .val (.long p2), .second, .val (.int p3), .val (.int (p1 &&& (3 : Int32))), .unset, .unset, .unset, .unset, .unset, .unset, .unset] [(.int (p1 &&& (3 : Int32)))])) _
        refine XS.iconst X0.here hx rfl (hb hby at_94) ?_
        show Steps p.tables e below (s₁.setTop (mkF m 95 #[.val (.int p1), .val (.long p2), .second, .val (.int p3), .val (.int (p1 &&& (3 : Int32))), .unset, .unset, .unset, .unset, .unset, .unset, .unset] [(.int (2 : Int32)), (.int (p1 &&& (3 : Int32)))])) _
        refine XS.icmpNo X0.here hx rfl (hb hby at_95) rfl (teq c2).2 ?_
        show Steps p.tables e below (s₁.setTop (mkF m 98 #[.val (.int p1), .val (.long p2), .second, .val (.int p3), .val (.int (p1 &&& (3 : Int32))), .unset, .unset, .unset, .unset, .unset, .unset, .unset] [])) _
        refine XT.lloadN X0.here hx rfl (hb hby at_98) rfl ?_
        show Steps p.tables e below (s₁.setTop (mkF m 99 #[.val (.int p1), .val (.long p2), .second, .val (.int p3), .val (.int (p1 &&& (3 : Int32))), .unset, .unset, .unset, .unset, .unset, .unset, .unset] [(.long p2)])) _
        refine XS.l2dS X0.here hx rfl (hb hby at_99) rfl rfl ?_
        show Steps p.tables e below (s₁.setTop (mkF m 100 #[.val (.int p1), .val (.long p2), .second, .val (.int p3), .val (.int (p1 &&& (3 : Int32))), .unset, .unset, .unset, .unset, .unset, .unset, .unset] [(.double (FP.l2d p2))])) _
        refine X0.ldc2DoubleC hx hown (mvT hZ (hw _ (List.mem_of_getElem? (i := 14) rfl))) (g := (mkF m 100 #[.val (.int p1), .val (.long p2), .second, .val (.int p3), .val (.int (p1 &&& (3 : Int32))), .unset, .unset, .unset, .unset, .unset, .unset, .unset] [(.double (FP.l2d p2))])) rfl (hb hby at_100) _ ?_
        show Steps p.tables e below (s₁.setTop (mkF m 103 #[.val (.int p1), .val (.long p2), .second, .val (.int p3), .val (.int (p1 &&& (3 : Int32))), .unset, .unset, .unset, .unset, .unset, .unset, .unset] [(.double (4751297606875873280 : UInt64)), (.double (FP.l2d p2))])) _
        refine XS.dmulS X0.here hx rfl (hb hby at_103) rfl (own_nnm1 p2) rfl ?_
        show Steps p.tables e below (s₁.setTop (mkF m 104 #[.val (.int p1), .val (.long p2), .second, .val (.int p3), .val (.int (p1 &&& (3 : Int32))), .unset, .unset, .unset, .unset, .unset, .unset, .unset] [(.double (FP.dmul (FP.l2d p2) (4751297606875873280 : UInt64)))])) _
        refine X0.ldc2DoubleC hx hown (mvT hZ (hw _ (List.mem_of_getElem? (i := 14) rfl))) (g := (mkF m 104 #[.val (.int p1), .val (.long p2), .second, .val (.int p3), .val (.int (p1 &&& (3 : Int32))), .unset, .unset, .unset, .unset, .unset, .unset, .unset] [(.double (FP.dmul (FP.l2d p2) (4751297606875873280 : UInt64)))])) rfl (hb hby at_104) _ ?_
        show Steps p.tables e below (s₁.setTop (mkF m 107 #[.val (.int p1), .val (.long p2), .second, .val (.int p3), .val (.int (p1 &&& (3 : Int32))), .unset, .unset, .unset, .unset, .unset, .unset, .unset] [(.double (4751297606875873280 : UInt64)), (.double (FP.dmul (FP.l2d p2) (4751297606875873280 : UInt64)))])) _
        refine XS.dmulS X0.here hx rfl (hb hby at_107) rfl (own_nnm2 p2) rfl ?_
        show Steps p.tables e below (s₁.setTop (mkF m 108 #[.val (.int p1), .val (.long p2), .second, .val (.int p3), .val (.int (p1 &&& (3 : Int32))), .unset, .unset, .unset, .unset, .unset, .unset, .unset] [(.double (FP.dmul (FP.dmul (FP.l2d p2) (4751297606875873280 : UInt64)) (4751297606875873280 : UInt64)))])) _
        refine XS.dstore X0.here hx rfl (hb hby at_108) rfl (l' := #[.val (.int p1), .val (.long p2), .second, .val (.int p3), .val (.int (p1 &&& (3 : Int32))), .val (.double (FP.dmul (FP.dmul (FP.l2d p2) (4751297606875873280 : UInt64)) (4751297606875873280 : UInt64))), .second, .unset, .unset, .unset, .unset, .unset]) rfl ?_
        show Steps p.tables e below (s₁.setTop (mkF m 110 #[.val (.int p1), .val (.long p2), .second, .val (.int p3), .val (.int (p1 &&& (3 : Int32))), .val (.double (FP.dmul (FP.dmul (FP.l2d p2) (4751297606875873280 : UInt64)) (4751297606875873280 : UInt64))), .second, .unset, .unset, .unset, .unset, .unset] [])) _
        refine XT.lloadN X0.here hx rfl (hb hby at_110) rfl ?_
        show Steps p.tables e below (s₁.setTop (mkF m 111 #[.val (.int p1), .val (.long p2), .second, .val (.int p3), .val (.int (p1 &&& (3 : Int32))), .val (.double (FP.dmul (FP.dmul (FP.l2d p2) (4751297606875873280 : UInt64)) (4751297606875873280 : UInt64))), .second, .unset, .unset, .unset, .unset, .unset] [(.long p2)])) _
        refine XT.lconst X0.here hx rfl (hb hby at_111) ?_
        show Steps p.tables e below (s₁.setTop (mkF m 112 #[.val (.int p1), .val (.long p2), .second, .val (.int p3), .val (.int (p1 &&& (3 : Int32))), .val (.double (FP.dmul (FP.dmul (FP.l2d p2) (4751297606875873280 : UInt64)) (4751297606875873280 : UInt64))), .second, .unset, .unset, .unset, .unset, .unset] [(.long (0 : Int64)), (.long p2)])) _
        refine XT.lcmp X0.here hx rfl (hb hby at_112) rfl ?_
        show Steps p.tables e below (s₁.setTop (mkF m 113 #[.val (.int p1), .val (.long p2), .second, .val (.int p3), .val (.int (p1 &&& (3 : Int32))), .val (.double (FP.dmul (FP.dmul (FP.l2d p2) (4751297606875873280 : UInt64)) (4751297606875873280 : UInt64))), .second, .unset, .unset, .unset, .unset, .unset] [(.int (XT.cmpL p2 (0 : Int64)))])) _
        refine XS.ifNo X0.here hx rfl (hb hby at_113) rfl ((if0 _ _).trans (tlt (own_gt g)).2.2.2) ?_
        show Steps p.tables e below (s₁.setTop (mkF m 116 #[.val (.int p1), .val (.long p2), .second, .val (.int p3), .val (.int (p1 &&& (3 : Int32))), .val (.double (FP.dmul (FP.dmul (FP.l2d p2) (4751297606875873280 : UInt64)) (4751297606875873280 : UInt64))), .second, .unset, .unset, .unset, .unset, .unset] [])) _
        refine X0.ldc2Long hx hown (mvT hZ (hw _ (List.mem_of_getElem? (i := 0) rfl))) (g := (mkF m 116 #[.val (.int p1), .val (.long p2), .second, .val (.int p3), .val (.int (p1 &&& (3 : Int32))), .val (.double (FP.dmul (FP.dmul (FP.l2d p2) (4751297606875873280 : UInt64)) (4751297606875873280 : UInt64))), .second, .unset, .unset, .unset, .unset, .unset] [])) rfl (hb hby at_116) _ ?_
        show Steps p.tables e below (s₁.setTop (mkF m 119 #[.val (.int p1), .val (.long p2), .second, .val (.int p3), .val (.int (p1 &&& (3 : Int32))), .val (.double (FP.dmul (FP.dmul (FP.l2d p2) (4751297606875873280 : UInt64)) (4751297606875873280 : UInt64))), .second, .unset, .unset, .unset, .unset, .unset] [(.long (9007199254740991 : Int64))])) _
        refine XS.goto X0.here hx rfl (pc0 := 119) (pc' := 123) rfl (hb hby at_119) (by decide) (by decide) ?_
        show Steps p.tables e below (s₁.setTop (mkF m 123 #[.val (.int p1), .val (.long p2), .second, .val (.int p3), .val (.int (p1 &&& (3 : Int32))), .val (.double (FP.dmul (FP.dmul (FP.l2d p2) (4751297606875873280 : UInt64)) (4751297606875873280 : UInt64))), .second, .unset, .unset, .unset, .unset, .unset] [(.long (9007199254740991 : Int64))])) _
        refine XT.lstore X0.here hx rfl (hb hby at_123) rfl (l' := #[.val (.int p1), .val (.long p2), .second, .val (.int p3), .val (.int (p1 &&& (3 : Int32))), .val (.double (FP.dmul (FP.dmul (FP.l2d p2) (4751297606875873280 : UInt64)) (4751297606875873280 : UInt64))), .second, .val (.long (9007199254740991 : Int64)), .second, .unset, .unset, .unset]) rfl ?_
        show Steps p.tables e below (s₁.setTop (mkF m 125 #[.val (.int p1), .val (.long p2), .second, .val (.int p3), .val (.int (p1 &&& (3 : Int32))), .val (.double (FP.dmul (FP.dmul (FP.l2d p2) (4751297606875873280 : UInt64)) (4751297606875873280 : UInt64))), .second, .val (.long (9007199254740991 : Int64)), .second, .unset, .unset, .unset] [])) _
        refine XS.goto X0.here hx rfl (pc0 := 125) (pc' := 148) rfl (hb hby at_125) (by decide) (by decide) ?_
        show Steps p.tables e below (s₁.setTop (mkF m 148 #[.val (.int p1), .val (.long p2), .second, .val (.int p3), .val (.int (p1 &&& (3 : Int32))), .val (.double (FP.dmul (FP.dmul (FP.l2d p2) (4751297606875873280 : UInt64)) (4751297606875873280 : UInt64))), .second, .val (.long (9007199254740991 : Int64)), .second, .unset, .unset, .unset] [])) _
        refine XS.dload X0.here hx rfl (hb hby at_148) rfl ?_
        show Steps p.tables e below (s₁.setTop (mkF m 150 #[.val (.int p1), .val (.long p2), .second, .val (.int p3), .val (.int (p1 &&& (3 : Int32))), .val (.double (FP.dmul (FP.dmul (FP.l2d p2) (4751297606875873280 : UInt64)) (4751297606875873280 : UInt64))), .second, .val (.long (9007199254740991 : Int64)), .second, .unset, .unset, .unset] [(.double (FP.dmul (FP.dmul (FP.l2d p2) (4751297606875873280 : UInt64)) (4751297606875873280 : UInt64)))])) _
        refine st1 _ ?_
        show Steps p.tables e below (T1.setTop (mkF m 153 #[.val (.int p1), .val (.long p2), .second, .val (.int p3), .val (.int (p1 &&& (3 : Int32))), .val (.double (FP.dmul (FP.dmul (FP.l2d p2) (4751297606875873280 : UInt64)) (4751297606875873280 : UInt64))), .second, .val (.long (9007199254740991 : Int64)), .second, .unset, .unset, .unset] [(.long (9007199254740991 : Int64))])) _
        refine XT.lload X1.here hx rfl (hb hby at_153) rfl ?_
        show Steps p.tables e below (T1.setTop (mkF m 155 #[.val (.int p1), .val (.long p2), .second, .val (.int p3), .val (.int (p1 &&& (3 : Int32))), .val (.double (FP.dmul (FP.dmul (FP.l2d p2) (4751297606875873280 : UInt64)) (4751297606875873280 : UInt64))), .second, .val (.long (9007199254740991 : Int64)), .second, .unset, .unset, .unset] [(.long (9007199254740991 : Int64)), (.long (9007199254740991 : Int64))])) _
        refine XT.lcmp X1.here hx rfl (hb hby at_155) rfl ?_
        show Steps p.tables e below (T1.setTop (mkF m 156 #[.val (.int p1), .val (.long p2), .second, .val (.int p3), .val (.int (p1 &&& (3 : Int32))), .val (.double (FP.dmul (FP.dmul (FP.l2d p2) (4751297606875873280 : UInt64)) (4751297606875873280 : UInt64))), .second, .val (.long (9007199254740991 : Int64)), .second, .unset, .unset, .unset] [(.int (XT.cmpL (9007199254740991 : Int64) (9007199254740991 : Int64)))])) _
        refine XS.ifNo X1.here hx rfl (hb hby at_156) rfl ((if0 _ _).trans (teq (own_eqr rfl)).2) ?_
        show Steps p.tables e below (T1.setTop (mkF m 159 #[.val (.int p1), .val (.long p2), .second, .val (.int p3), .val (.int (p1 &&& (3 : Int32))), .val (.double (FP.dmul (FP.dmul (FP.l2d p2) (4751297606875873280 : UInt64)) (4751297606875873280 : UInt64))), .second, .val (.long (9007199254740991 : Int64)), .second, .unset, .unset, .unset] [])) _
        refine XS.iconst X1.here hx rfl (hb hby at_159) ?_
        show Steps p.tables e below (T1.setTop (mkF m 160 #[.val (.int p1), .val (.long p2), .second, .val (.int p3), .val (.int (p1 &&& (3 : Int32))), .val (.double (FP.dmul (FP.dmul (FP.l2d p2) (4751297606875873280 : UInt64)) (4751297606875873280 : UInt64))), .second, .val (.long (9007199254740991 : Int64)), .second, .unset, .unset, .unset] [(.int (1 : Int32))])) _
        refine XS.goto X1.here hx rfl (pc0 := 160) (pc' := 164) rfl (hb hby at_160) (by decide) (by decide) ?_
        show Steps p.tables e below (T1.setTop (mkF m 164 #[.val (.int p1), .val (.long p2), .second, .val (.int p3), .val (.int (p1 &&& (3 : Int32))), .val (.double (FP.dmul (FP.dmul (FP.l2d p2) (4751297606875873280 : UInt64)) (4751297606875873280 : UInt64))), .second, .val (.long (9007199254740991 : Int64)), .second, .unset, .unset, .unset] [(.int (1 : Int32))])) _
        exact retN X1 hx (t := .boolean) Bd.returns (by simp) (hb hby at_164) hr
      · show Q0 Z p1 p2 p3 h0 n0 _ T1.heap _
        exact ⟨rfl, M1⟩
    · obtain ⟨_, _, ⟨T1, L1, k1, n1⟩, -, X1, ⟨Lc1, hQ1, l1, y1, z1⟩, st1⟩ := Jvm.LawKit.callS X0 hx (y := (⟨"com/example/tapir/tapir/runtime/Conversions", "toLength", "(D)J"⟩ : MethodName)) hown (mvT hZ (hw _ (List.mem_of_getElem? (i := 1) rfl))) (mvT hZ (hw _ (List.mem_of_getElem? (i := 2) rfl))) (mvT hZ (hw _ (List.mem_of_getElem? (i := 3) rfl))) (mvT hZ (hw _ (List.mem_of_getElem? (i := 4) rfl))) (by decide) (backOf (W := 0) (rm1 l Z a0 hw [] (FP.dmul (FP.dmul (FP.l2d p2) (4751297606875873280 : UInt64)) (4751297606875873280 : UInt64)) (0 : Int64) h0 n0 Z0 (own_m2b g)) hZ (hw _ (List.mem_of_getElem? (i := 4) rfl)) (hw _ (List.mem_of_getElem? (i := 3) rfl)) (by decide) (by decide)) (g := (mkF m 150 #[.val (.int p1), .val (.long p2), .second, .val (.int p3), .val (.int (p1 &&& (3 : Int32))), .val (.double (FP.dmul (FP.dmul (FP.l2d p2) (4751297606875873280 : UInt64)) (4751297606875873280 : UInt64))), .second, .val (.long (0 : Int64)), .second, .unset, .unset, .unset] [(.double (FP.dmul (FP.dmul (FP.l2d p2) (4751297606875873280 : UInt64)) (4751297606875873280 : UInt64)))])) rfl (by rw [hml]; rfl) (argsL := [(.double (FP.dmul (FP.dmul (FP.l2d p2) (4751297606875873280 : UInt64)) (4751297606875873280 : UInt64)))]) (rest := []) (lenOf pd1 rfl) rfl (by show 2 * 0 + _ ≤ _; exact Nat.le_of_eq rfl) (hb hby at_150) (fun _ _ => ⟨rfl, e0, (by decide : 0 + 0 ≤ _), (by decide : 0 + 0 ≤ _)⟩)
      dsimp only [Pt.U, Pt.locs, Pt.cells, Pt.slots] at X1 l1 y1 z1 st1 hQ1
      subst l1 y1 z1
      obtain ⟨rfl, N1, e1⟩ := hQ1
      have M1 := Fr.app N0 N1
      obtain ⟨fs, hr, hrun, hended, hW, hsame⟩ := X1.leave (v := some (.int (1 : Int32))) (fun h => by rw [Bd.returns] at h; cases h)
      refine ⟨_, _, pre0 _ ?_, hrun, hended, _, _, rfl, ?_, ⟨_, rfl⟩, hW, hsame.mono (by decide) (by decide)⟩
      · show Steps p.tables e below (s₁.setTop (mkF m 0 #[.val (.int p1), .val (.long p2), .second, .val (.int p3), .unset, .unset, .unset, .unset, .unset, .unset, .unset, .unset] [])) _
        refine XS.iloadN X0.here hx rfl (hb hby at_0) rfl ?_
        show Steps p.tables e below (s₁.setTop (mkF m 1 #[.val (.int p1), .val (.long p2), .second, .val (.int p3), .unset, .unset, .unset, .unset, .unset, .unset, .unset, .unset] [(.int p1)])) _
        refine XS.iconst X0.here hx rfl (hb hby at_1) ?_
        show Steps p.tables e below (s₁.setTop (mkF m 2 #[.val (.int p1), .val (.long p2), .second, .val (.int p3), .unset, .unset, .unset, .unset, .unset, .unset, .unset, .unset] [(.int (3 : Int32)), (.int p1)])) _
        refine XS.iand X0.here hx rfl (hb hby at_2) rfl ?_
        show Steps p.tables e below (s₁.setTop (mkF m 3 #[.val (.int p1), .val (.long p2), .second, .val (.int p3), .unset, .unset, .unset, .unset, .unset, .unset, .unset, .unset] [(.int (p1 &&& (3 : Int32)))])) _
        refine XS.istore X0.here hx rfl (hb hby at_3) rfl (l' := #[.val (.int p1), .val (.long p2), .second, .val (.int p3), .val (.int (p1 &&& (3 : Int32))), .unset, .unset, .unset, .unset, .unset, .unset, .unset]) rfl ?_
        show Steps p.tables e below (s₁.setTop (mkF m 5 #[.val (.int p1), .val (.long p2), .second, .val (.int p3), .val (.int (p1 &&& (3 : Int32))), .unset, .unset, .unset, .unset, .unset, .unset, .unset] [])) _
        refine XS.iload X0.here hx rfl (hb hby at_5) rfl ?_
        show Steps p.tables e below (s₁.setTop (mkF m 7 #[.val (.int p1), .val (.long p2), .second, .val (.int p3), .val (.int (p1 &&& (3 : Int32))), .unset, .unset, .unset, .unset, .unset, .unset, .unset] [(.int (p1 &&& (3 : Int32)))])) _
        refine XS.ifYes X0.here hx rfl (pc0 := 7) (pc' := 44) rfl (hb hby at_7) rfl ((if0 _ _).trans (feq c0).2) (by decide) (by decide) ?_
        show Steps p.tables e below (s₁.setTop (mkF m 44 #[.val (.int p1), .val (.long p2), .second, .val (.int p3), .val (.int (p1 &&& (3 : Int32))), .unset, .unset, .unset, .unset, .unset, .unset, .unset] [])) _
        refine XS.iload X0.here hx rfl (hb hby at_44) rfl ?_
        show Steps p.tables e below (s₁.setTop (mkF m 46 #[.val (.int p1), .val (.long p2), .second, .val (.int p3), .val (.int (p1 &&& (3 : Int32))), .unset, .unset, .unset, .unset, .unset, .unset, .unset] [(.int (p1 &&& (3 : Int32)))])) _
        refine XS.iconst X0.here hx rfl (hb hby at_46) ?_
        show Steps p.tables e below (s₁.setTop (mkF m 47 #[.val (.int p1), .val (.long p2), .second, .val (.int p3), .val (.int (p1 &&& (3 : Int32))), .unset, .unset, .unset, .unset, .unset, .unset, .unset] [(.int (1 : Int32)), (.int (p1 &&& (3 : Int32)))])) _
        refine XS.icmpYes X0.here hx rfl (pc0 := 47) (pc' := 92) rfl (hb hby at_47) rfl (feq c1).2 (by decide) (by decide) ?_
        show Steps p.tables e below (s₁.setTop (mkF m 92 #[.val (.int p1), .val (.long p2), .second, .val (.int p3), .val (.int (p1 &&& (3 : Int32))), .unset, .unset, .unset, .unset, .unset, .unset, .unset] [])) _
        refine XS.iload X0.here hx rfl (hb hby at_92) rfl ?_
        show Steps p.tables e below (s₁.setTop (mkF m 94 #[.val (.int p1), .val (.long p2), .second, .val (.int p3), .val (.int (p1 &&& (3 : Int32))), .unset, .unset, .unset, .unset, .unset, .unset, .unset] [(.int (p1 &&& (3 : Int32)))])) _
        refine XS.iconst X0.here hx rfl (hb hby at_94) ?_
        show Steps p.tables e below (s₁.setTop (mkF m 95 #[.val (.int p1), .val (.long p2), .second, .val (.int p3), .val (.int (p1 &&& (3 : Int32))), .unset, .unset, .unset, .unset, .unset, .unset, .unset] [(.int (2 : Int32)), (.int (p1 &&& (3 : Int32)))])) _
        refine XS.icmpNo X0.here hx rfl (hb hby at_95) rfl (teq c2).2 ?_
        show Steps p.tables e below (s₁.setTop (mkF m 98 #[.val (.int p1), .val (.long p2), .second, .val (.int p3), .val (.int (p1 &&& (3 : Int32))), .unset, .unset, .unset, .unset, .unset, .unset, .unset] [])) _
        refine XT.lloadN X0.here hx rfl (hb hby at_98) rfl ?_
        show Steps p.tables e below (s₁.setTop (mkF m 99 #[.val (.int p1), .val (.long p2), .second, .val (.int p3), .val (.int (p1 &&& (3 : Int32))), .unset, .unset, .unset, .unset, .unset, .unset, .unset] [(.long p2)])) _
        refine XS.l2dS X0.here hx rfl (hb hby at_99) rfl rfl ?_
        show Steps p.tables e below (s₁.setTop (mkF m 100 #[.val (.int p1), .val (.long p2), .second, .val (.int p3), .val (.int (p1 &&& (3 : Int32))), .unset, .unset, .unset, .unset, .unset, .unset, .unset] [(.double (FP.l2d p2))])) _
        refine X0.ldc2DoubleC hx hown (mvT hZ (hw _ (List.mem_of_getElem? (i := 14) rfl))) (g := (mkF m 100 #[.val (.int p1), .val (.long p2), .second, .val (.int p3), .val (.int (p1 &&& (3 : Int32))), .unset, .unset, .unset, .unset, .unset, .unset, .unset] [(.double (FP.l2d p2))])) rfl (hb hby at_100) _ ?_
        show Steps p.tables e below (s₁.setTop (mkF m 103 #[.val (.int p1), .val (.long p2), .second, .val (.int p3), .val (.int (p1 &&& (3 : Int32))), .unset, .unset, .unset, .unset, .unset, .unset, .unset] [(.double (4751297606875873280 : UInt64)), (.double (FP.l2d p2))])) _
        refine XS.dmulS X0.here hx rfl (hb hby at_103) rfl (own_nnm1 p2) rfl ?_
        show Steps p.tables e below (s₁.setTop (mkF m 104 #[.val (.int p1), .val (.long p2), .second, .val (.int p3), .val (.int (p1 &&& (3 : Int32))), .unset, .unset, .unset, .unset, .unset, .unset, .unset] [(.double (FP.dmul (FP.l2d p2) (4751297606875873280 : UInt64)))])) _
        refine X0.ldc2DoubleC hx hown (mvT hZ (hw _ (List.mem_of_getElem? (i := 14) rfl))) (g := (mkF m 104 #[.val (.int p1), .val (.long p2), .second, .val (.int p3), .val (.int (p1 &&& (3 : Int32))), .unset, .unset, .unset, .unset, .unset, .unset, .unset] [(.double (FP.dmul (FP.l2d p2) (4751297606875873280 : UInt64)))])) rfl (hb hby at_104) _ ?_
        show Steps p.tables e below (s₁.setTop (mkF m 107 #[.val (.int p1), .val (.long p2), .second, .val (.int p3), .val (.int (p1 &&& (3 : Int32))), .unset, .unset, .unset, .unset, .unset, .unset, .unset] [(.double (4751297606875873280 : UInt64)), (.double (FP.dmul (FP.l2d p2) (4751297606875873280 : UInt64)))])) _
        refine XS.dmulS X0.here hx rfl (hb hby at_107) rfl (own_nnm2 p2) rfl ?_
        show Steps p.tables e below (s₁.setTop (mkF m 108 #[.val (.int p1), .val (.long p2), .second, .val (.int p3), .val (.int (p1 &&& (3 : Int32))), .unset, .unset, .unset, .unset, .unset, .unset, .unset] [(.double (FP.dmul (FP.dmul (FP.l2d p2) (4751297606875873280 : UInt64)) (4751297606875873280 : UInt64)))])) _
        refine XS.dstore X0.here hx rfl (hb hby at_108) rfl (l' := #[.val (.int p1), .val (.long p2), .second, .val (.int p3), .val (.int (p1 &&& (3 : Int32))), .val (.double (FP.dmul (FP.dmul (FP.l2d p2) (4751297606875873280 : UInt64)) (4751297606875873280 : UInt64))), .second, .unset, .unset, .unset, .unset, .unset]) rfl ?_
        show Steps p.tables e below (s₁.setTop (mkF m 110 #[.val (.int p1), .val (.long p2), .second, .val (.int p3), .val (.int (p1 &&& (3 : Int32))), .val (.double (FP.dmul (FP.dmul (FP.l2d p2) (4751297606875873280 : UInt64)) (4751297606875873280 : UInt64))), .second, .unset, .unset, .unset, .unset, .unset] [])) _
        refine XT.lloadN X0.here hx rfl (hb hby at_110) rfl ?_
        show Steps p.tables e below (s₁.setTop (mkF m 111 #[.val (.int p1), .val (.long p2), .second, .val (.int p3), .val (.int (p1 &&& (3 : Int32))), .val (.double (FP.dmul (FP.dmul (FP.l2d p2) (4751297606875873280 : UInt64)) (4751297606875873280 : UInt64))), .second, .unset, .unset, .unset, .unset, .unset] [(.long p2)])) _
        refine XT.lconst X0.here hx rfl (hb hby at_111) ?_
        show Steps p.tables e below (s₁.setTop (mkF m 112 #[.val (.int p1), .val (.long p2), .second, .val (.int p3), .val (.int (p1 &&& (3 : Int32))), .val (.double (FP.dmul (FP.dmul (FP.l2d p2) (4751297606875873280 : UInt64)) (4751297606875873280 : UInt64))), .second, .unset, .unset, .unset, .unset, .unset] [(.long (0 : Int64)), (.long p2)])) _
        refine XT.lcmp X0.here hx rfl (hb hby at_112) rfl ?_
        show Steps p.tables e below (s₁.setTop (mkF m 113 #[.val (.int p1), .val (.long p2), .second, .val (.int p3), .val (.int (p1 &&& (3 : Int32))), .val (.double (FP.dmul (FP.dmul (FP.l2d p2) (4751297606875873280 : UInt64)) (4751297606875873280 : UInt64))), .second, .unset, .unset, .unset, .unset, .unset] [(.int (XT.cmpL p2 (0 : Int64)))])) _
        refine XS.ifYes X0.here hx rfl (pc0 := 113) (pc' := 122) rfl (hb hby at_113) rfl ((if0 _ _).trans (flt (own_ngt g)).2.2.2) (by decide) (by decide) ?_
        show Steps p.tables e below (s₁.setTop (mkF m 122 #[.val (.int p1), .val (.long p2), .second, .val (.int p3), .val (.int (p1 &&& (3 : Int32))), .val (.double (FP.dmul (FP.dmul (FP.l2d p2) (4751297606875873280 : UInt64)) (4751297606875873280 : UInt64))), .second, .unset, .unset, .unset, .unset, .unset] [])) _
        refine XT.lconst X0.here hx rfl (hb hby at_122) ?_
        show Steps p.tables e below (s₁.setTop (mkF m 123 #[.val (.int p1), .val (.long p2), .second, .val (.int p3), .val (.int (p1 &&& (3 : Int32))), .val (.double (FP.dmul (FP.dmul (FP.l2d p2) (4751297606875873280 : UInt64)) (4751297606875873280 : UInt64))), .second, .unset, .unset, .unset, .unset, .unset] [(.long (0 : Int64))])) _
        refine XT.lstore X0.here hx rfl (hb hby at_123) rfl (l' := #[.val (.int p1), .val (.long p2), .second, .val (.int p3), .val (.int (p1 &&& (3 : Int32))), .val (.double (FP.dmul (FP.dmul (FP.l2d p2) (4751297606875873280 : UInt64)) (4751297606875873280 : UInt64))), .second, .val (.long (0 : Int64)), .second, .unset, .unset, .unset]) rfl ?_
        show Steps p.tables e below (s₁.setTop (mkF m 125 #[.val (.int p1), .val (.long p2), .second, .val (.int p3), .val (.int (p1 &&& (3 : Int32))), .val (.double (FP.dmul (FP.dmul (FP.l2d p2) (4751297606875873280 : UInt64)) (4751297606875873280 : UInt64))), .second, .val (.long (0 : Int64)), .second, .unset, .unset, .unset] [])) _
        refine XS.goto X0.here hx rfl (pc0 := 125) (pc' := 148) rfl (hb hby at_125) (by decide) (by decide) ?_
        show Steps p.tables e below (s₁.setTop (mkF m 148 #[.val (.int p1), .val (.long p2), .second, .val (.int p3), .val (.int (p1 &&& (3 : Int32))), .val (.double (FP.dmul (FP.dmul (FP.l2d p2) (4751297606875873280 : UInt64)) (4751297606875873280 : UInt64))), .second, .val (.long (0 : Int64)), .second, .unset, .unset, .unset] [])) _
        refine XS.dload X0.here hx rfl (hb hby at_148) rfl ?_
        show Steps p.tables e below (s₁.setTop (mkF m 150 #[.val (.int p1), .val (.long p2), .second, .val (.int p3), .val (.int (p1 &&& (3 : Int32))), .val (.double (FP.dmul (FP.dmul (FP.l2d p2) (4751297606875873280 : UInt64)) (4751297606875873280 : UInt64))), .second, .val (.long (0 : Int64)), .second, .unset, .unset, .unset] [(.double (FP.dmul (FP.dmul (FP.l2d p2) (4751297606875873280 : UInt64)) (4751297606875873280 : UInt64)))])) _
        refine st1 _ ?_
        show Steps p.tables e below (T1.setTop (mkF m 153 #[.val (.int p1), .val (.long p2), .second, .val (.int p3), .val (.int (p1 &&& (3 : Int32))), .val (.double (FP.dmul (FP.dmul (FP.l2d p2) (4751297606875873280 : UInt64)) (4751297606875873280 : UInt64))), .second, .val (.long (0 : Int64)), .second, .unset, .unset, .unset] [(.long (0 : Int64))])) _
        refine XT.lload X1.here hx rfl (hb hby at_153) rfl ?_
        show Steps p.tables e below (T1.setTop (mkF m 155 #[.val (.int p1), .val (.long p2), .second, .val (.int p3), .val (.int (p1 &&& (3 : Int32))), .val (.double (FP.dmul (FP.dmul (FP.l2d p2) (4751297606875873280 : UInt64)) (4751297606875873280 : UInt64))), .second, .val (.long (0 : Int64)), .second, .unset, .unset, .unset] [(.long (0 : Int64)), (.long (0 : Int64))])) _
        refine XT.lcmp X1.here hx rfl (hb hby at_155) rfl ?_
        show Steps p.tables e below (T1.setTop (mkF m 156 #[.val (.int p1), .val (.long p2), .second, .val (.int p3), .val (.int (p1 &&& (3 : Int32))), .val (.double (FP.dmul (FP.dmul (FP.l2d p2) (4751297606875873280 : UInt64)) (4751297606875873280 : UInt64))), .second, .val (.long (0 : Int64)), .second, .unset, .unset, .unset] [(.int (XT.cmpL (0 : Int64) (0 : Int64)))])) _
        refine XS.ifNo X1.here hx rfl (hb hby at_156) rfl ((if0 _ _).trans (teq (own_eqr rfl)).2) ?_
        show Steps p.tables e below (T1.setTop (mkF m 159 #[.val (.int p1), .val (.long p2), .second, .val (.int p3), .val (.int (p1 &&& (3 : Int32))), .val (.double (FP.dmul (FP.dmul (FP.l2d p2) (4751297606875873280 : UInt64)) (4751297606875873280 : UInt64))), .second, .val (.long (0 : Int64)), .second, .unset, .unset, .unset] [])) _
        refine XS.iconst X1.here hx rfl (hb hby at_159) ?_
        show Steps p.tables e below (T1.setTop (mkF m 160 #[.val (.int p1), .val (.long p2), .second, .val (.int p3), .val (.int (p1 &&& (3 : Int32))), .val (.double (FP.dmul (FP.dmul (FP.l2d p2) (4751297606875873280 : UInt64)) (4751297606875873280 : UInt64))), .second, .val (.long (0 : Int64)), .second, .unset, .unset, .unset] [(.int (1 : Int32))])) _
        refine XS.goto X1.here hx rfl (pc0 := 160) (pc' := 164) rfl (hb hby at_160) (by decide) (by decide) ?_
        show Steps p.tables e below (T1.setTop (mkF m 164 #[.val (.int p1), .val (.long p2), .second, .val (.int p3), .val (.int (p1 &&& (3 : Int32))), .val (.double (FP.dmul (FP.dmul (FP.l2d p2) (4751297606875873280 : UInt64)) (4751297606875873280 : UInt64))), .second, .val (.long (0 : Int64)), .second, .unset, .unset, .unset] [(.int (1 : Int32))])) _
        exact retN X1 hx (t := .boolean) Bd.returns (by simp) (hb hby at_164) hr
      · show Q0 Z p1 p2 p3 h0 n0 _ T1.heap _
        exact ⟨rfl, M1⟩
  · obtain ⟨d, r, hsp, hse, hlen⟩ := own_m3 p3
    obtain ⟨_, _, ⟨T2, L2, k2, n2⟩, -, X2, ⟨Lc2, hQ2, l2, y2, z2⟩, st2⟩ := Jvm.LawKit.callS X0 hx (y := (⟨"com/example/tapir/tapir/runtime/ConversionsToLengthPinLaw", "special", "(I)D"⟩ : MethodName)) hown (mvT hZ (hw _ (List.mem_of_getElem? (i := 6) rfl))) (mvT hZ (hw _ (List.mem_of_getElem? (i := 7) rfl))) (mvT hZ (hw _ (List.mem_of_getElem? (i := 8) rfl))) (mvT hZ (hw _ (List.mem_of_getElem? (i := 9) rfl))) (by decide) (backOf (W := 0) (rm2 l Z a0 hw [] (p3 &&& (7 : Int32)) d h0 n0 Z0 hsp) hZ (hw _ (List.mem_of_getElem? (i := 9) rfl)) (hw _ (List.mem_of_getElem? (i := 8) rfl)) (by decide) (by decide)) (g := (mkF m 136 #[.val (.int p1), .val (.long p2), .second, .val (.int p3), .val (.int (p1 &&& (3 : Int32))), .unset, .unset, .unset, .unset, .val (.int (p3 &&& (7 : Int32))), .unset, .unset] [(.int (p3 &&& (7 : Int32)))])) rfl (by rw [hml]; rfl) (argsL := [(.int (p3 &&& (7 : Int32)))]) (rest := []) (lenOf pd2 rfl) rfl (by show 2 * 0 + _ ≤ _; exact Nat.le_of_eq rfl) (hb hby at_136) (fun _ _ => ⟨rfl, e0, (by decide : 0 + 0 ≤ _), (by decide : 0 + 0 ≤ _)⟩)
    dsimp only [Pt.U, Pt.locs, Pt.cells, Pt.slots] at X2 l2 y2 z2 st2 hQ2
    subst l2 y2 z2
    obtain ⟨rfl, N2, e2⟩ := hQ2
    have M2 := Fr.app N0 N2
    obtain ⟨_, _, ⟨T3, L3, k3, n3⟩, -, X3, ⟨Lc3, hQ3, l3, y3, z3⟩, st3⟩ := Jvm.LawKit.callS X2 hx (y := (⟨"com/example/tapir/tapir/runtime/ConversionsToLengthPinLaw", "specialExpected", "(I)J"⟩ : MethodName)) hown (mvT hZ (hw _ (List.mem_of_getElem? (i := 11) rfl))) (mvT hZ (hw _ (List.mem_of_getElem? (i := 12) rfl))) (mvT hZ (hw _ (List.mem_of_getElem? (i := 8) rfl))) (mvT hZ (hw _ (List.mem_of_getElem? (i := 13) rfl))) (by decide) (backOf (W := 0) (rm3 l Z a0 hw [] (p3 &&& (7 : Int32)) r h0 n0 Z0 hse) hZ (hw _ (List.mem_of_getElem? (i := 13) rfl)) (hw _ (List.mem_of_getElem? (i := 8) rfl)) (by decide) (by decide)) (g := (mkF m 143 #[.val (.int p1), .val (.long p2), .second, .val (.int p3), .val (.int (p1 &&& (3 : Int32))), .val (.double d), .second, .unset, .unset, .val (.int (p3 &&& (7 : Int32))), .unset, .unset] [(.int (p3 &&& (7 : Int32)))])) rfl (by rw [hml]; rfl) (argsL := [(.int (p3 &&& (7 : Int32)))]) (rest := []) (lenOf pd3 rfl) rfl (by show 2 * 0 + _ ≤ _; exact Nat.le_of_eq rfl) (hb hby at_143) (fun _ _ => ⟨rfl, e2, (by decide : 0 + 0 ≤ _), (by decide : 0 + 0 ≤ _)⟩)
    dsimp only [Pt.U, Pt.locs, Pt.cells, Pt.slots] at X3 l3 y3 z3 st3 hQ3
    subst l3 y3 z3
    obtain ⟨rfl, N3, e3⟩ := hQ3
    have M3 := Fr.app M2 N3
    obtain ⟨_, _, ⟨T1, L1, k1, n1⟩, -, X1, ⟨Lc1, hQ1, l1, y1, z1⟩, st1⟩ := Jvm.LawKit.callS X3 hx (y := (⟨"com/example/tapir/tapir/runtime/Conversions", "toLength", "(D)J"⟩ : MethodName)) hown (mvT hZ (hw _ (List.mem_of_getElem? (i := 1) rfl))) (mvT hZ (hw _ (List.mem_of_getElem? (i := 2) rfl))) (mvT hZ (hw _ (List.mem_of_getElem? (i := 3) rfl))) (mvT hZ (hw _ (List.mem_of_getElem? (i := 4) rfl))) (by decide) (backOf (W := 0) (rm1 l Z a0 hw [] d r h0 n0 Z0 hlen) hZ (hw _ (List.mem_of_getElem? (i := 4) rfl)) (hw _ (List.mem_of_getElem? (i := 3) rfl)) (by decide) (by decide)) (g := (mkF m 150 #[.val (.int p1), .val (.long p2), .second, .val (.int p3), .val (.int (p1 &&& (3 : Int32))), .val (.double d), .second, .val (.long r), .second, .val (.int (p3 &&& (7 : Int32))), .unset, .unset] [(.double d)])) rfl (by rw [hml]; rfl) (argsL := [(.double d)]) (rest := []) (lenOf pd1 rfl) rfl (by show 2 * 0 + _ ≤ _; exact Nat.le_of_eq rfl) (hb hby at_150) (fun _ _ => ⟨rfl, e3, (by decide : 0 + 0 ≤ _), (by decide : 0 + 0 ≤ _)⟩)
    dsimp only [Pt.U, Pt.locs, Pt.cells, Pt.slots] at X1 l1 y1 z1 st1 hQ1
    subst l1 y1 z1
    obtain ⟨rfl, N1, e1⟩ := hQ1
    have M1 := Fr.app M3 N1
    obtain ⟨fs, hr, hrun, hended, hW, hsame⟩ := X1.leave (v := some (.int (1 : Int32))) (fun h => by rw [Bd.returns] at h; cases h)
    refine ⟨_, _, pre0 _ ?_, hrun, hended, _, _, rfl, ?_, ⟨_, rfl⟩, hW, hsame.mono (by decide) (by decide)⟩
    · show Steps p.tables e below (s₁.setTop (mkF m 0 #[.val (.int p1), .val (.long p2), .second, .val (.int p3), .unset, .unset, .unset, .unset, .unset, .unset, .unset, .unset] [])) _
      refine XS.iloadN X0.here hx rfl (hb hby at_0) rfl ?_
      show Steps p.tables e below (s₁.setTop (mkF m 1 #[.val (.int p1), .val (.long p2), .second, .val (.int p3), .unset, .unset, .unset, .unset, .unset, .unset, .unset, .unset] [(.int p1)])) _
      refine XS.iconst X0.here hx rfl (hb hby at_1) ?_
      show Steps p.tables e below (s₁.setTop (mkF m 2 #[.val (.int p1), .val (.long p2), .second, .val (.int p3), .unset, .unset, .unset, .unset, .unset, .unset, .unset, .unset] [(.int (3 : Int32)), (.int p1)])) _
      refine XS.iand X0.here hx rfl (hb hby at_2) rfl ?_
      show Steps p.tables e below (s₁.setTop (mkF m 3 #[.val (.int p1), .val (.long p2), .second, .val (.int p3), .unset, .unset, .unset, .unset, .unset, .unset, .unset, .unset] [(.int (p1 &&& (3 : Int32)))])) _
      refine XS.istore X0.here hx rfl (hb hby at_3) rfl (l' := #[.val (.int p1), .val (.long p2), .second, .val (.int p3), .val (.int (p1 &&& (3 : Int32))), .unset, .unset, .unset, .unset, .unset, .unset, .unset]) rfl ?_
      show Steps p.tables e below (s₁.setTop (mkF m 5 #[.val (.int p1), .val (.long p2), .second, .val (.int p3), .val (.int (p1 &&& (3 : Int32))), .unset, .unset, .unset, .unset, .unset, .unset, .unset] [])) _
      refine XS.iload X0.here hx rfl (hb hby at_5) rfl ?_
      show Steps p.tables e below (s₁.setTop (mkF m 7 #[.val (.int p1), .val (.long p2), .second, .val (.int p3), .val (.int (p1 &&& (3 : Int32))), .unset, .unset, .unset, .unset, .unset, .unset, .unset] [(.int (p1 &&& (3 : Int32)))])) _
      refine XS.ifYes X0.here hx rfl (pc0 := 7) (pc' := 44) rfl (hb hby at_7) rfl ((if0 _ _).trans (feq c0).2) (by decide) (by decide) ?_
      show Steps p.tables e below (s₁.setTop (mkF m 44 #[.val (.int p1), .val (.long p2), .second, .val (.int p3), .val (.int (p1 &&& (3 : Int32))), .unset, .unset, .unset, .unset, .unset, .unset, .unset] [])) _
      refine XS.iload X0.here hx rfl (hb hby at_44) rfl ?_
      show Steps p.tables e below (s₁.setTop (mkF m 46 #[.val (.int p1), .val (.long p2), .second, .val (.int p3), .val (.int (p1 &&& (3 : Int32))), .unset, .unset, .unset, .unset, .unset, .unset, .unset] [(.int (p1 &&& (3 : Int32)))])) _
      refine XS.iconst X0.here hx rfl (hb hby at_46) ?_
      show Steps p.tables e below (s₁.setTop (mkF m 47 #[.val (.int p1), .val (.long p2), .second, .val (.int p3), .val (.int (p1 &&& (3 : Int32))), .unset, .unset, .unset, .unset, .unset, .unset, .unset] [(.int (1 : Int32)), (.int (p1 &&& (3 : Int32)))])) _
      refine XS.icmpYes X0.here hx rfl (pc0 := 47) (pc' := 92) rfl (hb hby at_47) rfl (feq c1).2 (by decide) (by decide) ?_
      show Steps p.tables e below (s₁.setTop (mkF m 92 #[.val (.int p1), .val (.long p2), .second, .val (.int p3), .val (.int (p1 &&& (3 : Int32))), .unset, .unset, .unset, .unset, .unset, .unset, .unset] [])) _
      refine XS.iload X0.here hx rfl (hb hby at_92) rfl ?_
      show Steps p.tables e below (s₁.setTop (mkF m 94 #[.val (.int p1), .val (.long p2), .second, .val (.int p3), .val (.int (p1 &&& (3 : Int32))), .unset, .unset, .unset, .unset, .unset, .unset, .unset] [(.int (p1 &&& (3 : Int32)))])) _
      refine XS.iconst X0.here hx rfl (hb hby at_94) ?_
      show Steps p.tables e below (s₁.setTop (mkF m 95 #[.val (.int p1), .val (.long p2), .second, .val (.int p3), .val (.int (p1 &&& (3 : Int32))), .unset, .unset, .unset, .unset, .unset, .unset, .unset] [(.int (2 : Int32)), (.int (p1 &&& (3 : Int32)))])) _
      refine XS.icmpYes X0.here hx rfl (pc0 := 95) (pc' := 128) rfl (hb hby at_95) rfl (feq c2).2 (by decide) (by decide) ?_
      show Steps p.tables e below (s₁.setTop (mkF m 128 #[.val (.int p1), .val (.long p2), .second, .val (.int p3), .val (.int (p1 &&& (3 : Int32))), .unset, .unset, .unset, .unset, .unset, .unset, .unset] [])) _
      refine XS.iloadN X0.here hx rfl (hb hby at_128) rfl ?_
      show Steps p.tables e below (s₁.setTop (mkF m 129 #[.val (.int p1), .val (.long p2), .second, .val (.int p3), .val (.int (p1 &&& (3 : Int32))), .unset, .unset, .unset, .unset, .unset, .unset, .unset] [(.int p3)])) _
      refine XS.bipush X0.here hx rfl (hb hby at_129) ?_
      show Steps p.tables e below (s₁.setTop (mkF m 131 #[.val (.int p1), .val (.long p2), .second, .val (.int p3), .val (.int (p1 &&& (3 : Int32))), .unset, .unset, .unset, .unset, .unset, .unset, .unset] [(.int (7 : Int32)), (.int p3)])) _
      refine XS.iand X0.here hx rfl (hb hby at_131) rfl ?_
      show Steps p.tables e below (s₁.setTop (mkF m 132 #[.val (.int p1), .val (.long p2), .second, .val (.int p3), .val (.int (p1 &&& (3 : Int32))), .unset, .unset, .unset, .unset, .unset, .unset, .unset] [(.int (p3 &&& (7 : Int32)))])) _
      refine XS.istore X0.here hx rfl (hb hby at_132) rfl (l' := #[.val (.int p1), .val (.long p2), .second, .val (.int p3), .val (.int (p1 &&& (3 : Int32))), .unset, .unset, .unset, .unset, .val (.int (p3 &&& (7 : Int32))), .unset, .unset]) rfl ?_
      show Steps p.tables e below (s₁.setTop (mkF m 134 #[.val (.int p1), .val (.long p2), .second, .val (.int p3), .val (.int (p1 &&& (3 : Int32))), .unset, .unset, .unset, .unset, .val (.int (p3 &&& (7 : Int32))), .unset, .unset] [])) _
      refine XS.iload X0.here hx rfl (hb hby at_134) rfl ?_
      show Steps p.tables e below (s₁.setTop (mkF m 136 #[.val (.int p1), .val (.long p2), .second, .val (.int p3), .val (.int (p1 &&& (3 : Int32))), .unset, .unset, .unset, .unset, .val (.int (p3 &&& (7 : Int32))), .unset, .unset] [(.int (p3 &&& (7 : Int32)))])) _
      refine st2 _ ?_
      show Steps p.tables e below (T2.setTop (mkF m 139 #[.val (.int p1), .val (.long p2), .second, .val (.int p3), .val (.int (p1 &&& (3 : Int32))), .unset, .unset, .unset, .unset, .val (.int (p3 &&& (7 : Int32))), .unset, .unset] [(.double d)])) _
      refine XS.dstore X2.here hx rfl (hb hby at_139) rfl (l' := #[.val (.int p1), .val (.long p2), .second, .val (.int p3), .val (.int (p1 &&& (3 : Int32))), .val (.double d), .second, .unset, .unset, .val (.int (p3 &&& (7 : Int32))), .unset, .unset]) rfl ?_
      show Steps p.tables e below (T2.setTop (mkF m 141 #[.val (.int p1), .val (.long p2), .second, .val (.int p3), .val (.int (p1 &&& (3 : Int32))), .val (.double d), .second, .unset, .unset, .val (.int (p3 &&& (7 : Int32))), .unset, .unset] [])) _
      refine XS.iload X2.here hx rfl (hb hby at_141) rfl ?_
      show Steps p.tables e below (T2.setTop (mkF m 143 #[.val (.int p1), .val (.long p2), .second, .val (.int p3), .val (.int (p1 &&& (3 : Int32))), .val (.double d), .second, .unset, .unset, .val (.int (p3 &&& (7 : Int32))), .unset, .unset] [(.int (p3 &&& (7 : Int32)))])) _
      refine st3 _ ?_
      show Steps p.tables e below (T3.setTop (mkF m 146 #[.val (.int p1), .val (.long p2), .second, .val (.int p3), .val (.int (p1 &&& (3 : Int32))), .val (.double d), .second, .unset, .unset, .val (.int (p3 &&& (7 : Int32))), .unset, .unset] [(.long r)])) _
      refine XT.lstore X3.here hx rfl (hb hby at_146) rfl (l' := #[.val (.int p1), .val (.long p2), .second, .val (.int p3), .val (.int (p1 &&& (3 : Int32))), .val (.double d), .second, .val (.long r), .second, .val (.int (p3 &&& (7 : Int32))), .unset, .unset]) rfl ?_
      show Steps p.tables e below (T3.setTop (mkF m 148 #[.val (.int p1), .val (.long p2), .second, .val (.int p3), .val (.int (p1 &&& (3 : Int32))), .val (.double d), .second, .val (.long r), .second, .val (.int (p3 &&& (7 : Int32))), .unset, .unset] [])) _
      refine XS.dload X3.here hx rfl (hb hby at_148) rfl ?_
      show Steps p.tables e below (T3.setTop (mkF m 150 #[.val (.int p1), .val (.long p2), .second, .val (.int p3), .val (.int (p1 &&& (3 : Int32))), .val (.double d), .second, .val (.long r), .second, .val (.int (p3 &&& (7 : Int32))), .unset, .unset] [(.double d)])) _
      refine st1 _ ?_
      show Steps p.tables e below (T1.setTop (mkF m 153 #[.val (.int p1), .val (.long p2), .second, .val (.int p3), .val (.int (p1 &&& (3 : Int32))), .val (.double d), .second, .val (.long r), .second, .val (.int (p3 &&& (7 : Int32))), .unset, .unset] [(.long r)])) _
      refine XT.lload X1.here hx rfl (hb hby at_153) rfl ?_
      show Steps p.tables e below (T1.setTop (mkF m 155 #[.val (.int p1), .val (.long p2), .second, .val (.int p3), .val (.int (p1 &&& (3 : Int32))), .val (.double d), .second, .val (.long r), .second, .val (.int (p3 &&& (7 : Int32))), .unset, .unset] [(.long r), (.long r)])) _
      refine XT.lcmp X1.here hx rfl (hb hby at_155) rfl ?_
      show Steps p.tables e below (T1.setTop (mkF m 156 #[.val (.int p1), .val (.long p2), .second, .val (.int p3), .val (.int (p1 &&& (3 : Int32))), .val (.double d), .second, .val (.long r), .second, .val (.int (p3 &&& (7 : Int32))), .unset, .unset] [(.int (XT.cmpL r r))])) _
      refine XS.ifNo X1.here hx rfl (hb hby at_156) rfl ((if0 _ _).trans (teq (own_eqr rfl)).2) ?_
      show Steps p.tables e below (T1.setTop (mkF m 159 #[.val (.int p1), .val (.long p2), .second, .val (.int p3), .val (.int (p1 &&& (3 : Int32))), .val (.double d), .second, .val (.long r), .second, .val (.int (p3 &&& (7 : Int32))), .unset, .unset] [])) _
      refine XS.iconst X1.here hx rfl (hb hby at_159) ?_
      show Steps p.tables e below (T1.setTop (mkF m 160 #[.val (.int p1), .val (.long p2), .second, .val (.int p3), .val (.int (p1 &&& (3 : Int32))), .val (.double d), .second, .val (.long r), .second, .val (.int (p3 &&& (7 : Int32))), .unset, .unset] [(.int (1 : Int32))])) _
      refine XS.goto X1.here hx rfl (pc0 := 160) (pc' := 164) rfl (hb hby at_160) (by decide) (by decide) ?_
      show Steps p.tables e below (T1.setTop (mkF m 164 #[.val (.int p1), .val (.long p2), .second, .val (.int p3), .val (.int (p1 &&& (3 : Int32))), .val (.double d), .second, .val (.long r), .second, .val (.int (p3 &&& (7 : Int32))), .unset, .unset] [(.int (1 : Int32))])) _
      exact retN X1 hx (t := .boolean) Bd.returns (by simp) (hb hby at_164) hr
    · show Q0 Z p1 p2 p3 h0 n0 _ T1.heap _
      exact ⟨rfl, M1⟩
set_option maxRecDepth 65536 in
set_option maxHeartbeats 40000000 in
theorem comes_1 {Post : Tables → Env → Array Value → State → Outcome → State → Prop} (hpost : ∀ tb e args s v u, (limb_1_1.after args s (.returned v) u = true ∧ limb_1_2.after args s (.returned v) u = true ∧ True) → FrameEnd s (.returned v) u (Jvm.fieldLocs frame_1_writes args s ++ Jvm.arrayLocs frame_1_arrays args s ++ Jvm.staticLocs frame_1_statics s) 0 0 → Post tb e args s (.returned v) u) :
    ArmFor flags0 classFile x code maxLocals ret World_1 tables_1 room_1 Calls_1 rest_1 Pre_1 Post := by
  intro l hfl _ _ p e ha hc hk s m args below hf hA hF happ hP
  obtain ⟨hcalls, hrest, hpre⟩ := hP
  obtain ⟨-, -, -, hnamed, -, -, -, hat⟩ := (Spec.applies_iff hf).mp happ
  obtain ⟨hg, hn⟩ := and_e (Cond.before_iff.mp (show (Jvm.Cond.and given_1 narrow_1).before args s = true from hpre))
  obtain ⟨h1, g0⟩ := and_e hg
  obtain ⟨q0, g1⟩ := and_e g0
  obtain ⟨q1, g2⟩ := and_e g1
  have q2 := g2
  obtain ⟨w0, w1, w2, rfl⟩ : ∃ w0 w1 w2 : Value, args = #[w0, w1, w2] := by
    have hs : args.size = 3 := by simpa [Cond.value, given_1] using h1
    obtain ⟨L⟩ := args
    match L, hs with
    | [w0, w1, w2], _ => exact ⟨w0, w1, w2, rfl⟩
  have hw := fun d (hd : d ∈ tables_1) => atoms_spec (ws := Jvm.Cond.code x code maxLocals ret :: tables_1) hat d (List.mem_cons_of_mem _ hd)
  obtain ⟨i0, v0⟩ := is_v q0
  obtain rfl : w0 = (.int i0) := Option.some.inj v0
  obtain ⟨i1, v1⟩ := isL_v q1
  obtain rfl : w1 = (.long i1) := Option.some.inj v1
  obtain ⟨i2, v2⟩ := is_v q2
  obtain rfl : w2 = (.int i2) := Option.some.inj v2
  obtain ⟨n, o, h1, h2, h3, _, L, rfl, ⟨rfl, N⟩, hq⟩ := rm0 l s _ hw tables_1 i0 i1 i2 s.heap s.heap.size (Nat.le_refl _) p e ha hc hk s m _ below hf ((Spec.applies_iff_loose hf).mp happ).1 ⟨rfl, State.Warmed39.refl s, rfl⟩ trivial
  refine ⟨n, _, h1, h2, h3, hpost _ _ _ _ _ _ ⟨Cond.after_iff.mpr rfl, Cond.after_iff.mpr (eq_i res_at (Term.int_eval (1)) rfl), trivial⟩ ⟨hq.1, hq.2.1, (hq.2.2.sift fun y hy => Or.inr (N y hy)).mono (by decide) (by decide)⟩⟩
theorem main_1_1 : Claimed_1_1 := comes_1 fun _ _ _ _ _ _ h hF => ⟨h.1, hF⟩
theorem main_1_2 : Claimed_1_2 := comes_1 fun _ _ _ _ _ _ h hF => ⟨h.2.1, hF⟩
end Jvm.Pilot.@@N@@
namespace Jvm.Pilot.@@N@@
open Jvm Jvm.ClassFile Sem Op Lib Jvm.Free Jvm.Stand Jvm.Pilot.@@N@@.Jvm.D
/-! MADE BY PROGRAM (witnessworld.py) out of the Statement's table words and the real class files: 9 classes; the members and pool entries that the words name. The judged class is class 1, her method 3. -/
namespace start1
open Jvm.ClassFile
def u (s : String) : CpInfo := .utf8 (stringToUtf16 s)
/-- a pool by its gaps: so many unusable entries, then the entry; so many at the end -/
def gap : Nat → List CpInfo → List CpInfo
  | 0, r => r
  | n + 1, r => .unusable :: gap n r
def poolList (es : List (Nat × CpInfo)) (last : Nat) : List CpInfo := es.foldr (fun e r => gap e.1 (e.2 :: r)) (gap last [])
def pool (es : List (Nat × CpInfo)) (last : Nat) : Array CpInfo := ⟨poolList es last⟩
def fileOf (pool : Array CpInfo) (this : Nat) (attrs : Array Attribute := #[]) (ms : Array MethodInfo := #[]) (fl : Nat := 33) (sup : Nat := 0) (ifs : Array Nat := #[]) (fds : Array FieldInfo := #[]) : ClassFile where
  minorVersion := 0
  majorVersion := 65
  constantPool := pool
  accessFlags := fl
  thisClass := this
  superClass := sup
  interfaces := ifs
  fields := fds
  methods := ms
  attributes := attrs
def plain (name : String) (sup : Option ClassId) : Class where
  name := name
  kind := .ordinary
  loader := none
  accessFlags := 33
  super := sup
  interfaces := #[]
  cf := none
  fields := #[]
  methods := #[]
  instanceTypes := #[]
  staticTypes := #[]
  resolved := #[]
  callSites := []
  init := .initialized
  statics := none
  mirror := none

def pool0 : Array CpInfo := pool [(5, u "<init>"), (0, u "()V"), (1, .class_ 10), (1, u "java/lang/Object")] 113

def k0m0 : Method := { name := "<init>", desc := "()V", sig := { parameters := [], returnType := none }, accessFlags := 1, code := none }
/-- java/lang/Object -/
def k0 : Class := { plain "java/lang/Object" none with
  accessFlags := 33
  interfaces := #[]
  cf := some (fileOf pool0 8 #[] #[{ accessFlags := 1, nameIndex := 5, descriptorIndex := 6, attributes := #[] }] 33 0 #[] #[])
  fields := #[]
  methods := #[k0m0]
  instanceTypes := #[]
  staticTypes := #[]
  resolved := Array.replicate 124 none
  statics := none }

def pool1 : Array CpInfo := pool [(2, .class_ 4), (1, u "java/lang/Object"), (0, u "<init>"), (0, u "()V"), (0, .double 9218868437227405312), (1, .double 18442240474082181120), (1, .double 9223372036854775808), (1, .double 1), (1, .double 9218868437227405311), (1, .double 4845873199050653695), (1, .double 4841369599423283199), (1, .double 4845873199050653694), (1, .class_ 24), (0, u "com/example/tapir/tapir/runtime/ConversionsToLengthPinLaw"), (0, .long 9007199254740991), (1, .long 4503599627370495), (1, .long 9007199254740990), (1, .double 4616189618054758400), (1, .double 4751297606875873280), (1, .methodref 23 36), (0, .nameAndType 37 38), (0, u "special"), (0, u "(I)D"), (0, .methodref 23 40), (0, .nameAndType 41 42), (0, u "specialExpected"), (0, u "(I)J"), (0, .methodref 44 45), (0, .class_ 46), (0, .nameAndType 47 48), (0, u "com/example/tapir/tapir/runtime/Conversions"), (0, u "toLength"), (0, u "(D)J"), (0, u "MAX"), (0, u "J"), (4, u "law"), (0, u "(IJI)Z")] 2

def k1m0 : Method := { name := "<init>", desc := "()V", sig := { parameters := [], returnType := none }, accessFlags := 1, code := none }
def k1c1 : Code := { maxStack := 2, maxLocals := 1, code := method_2_code, exceptionTable := #[], attributes := #[] }
def k1m1 : Method := { name := "special", desc := "(I)D", sig := { parameters := [.int], returnType := some .double }, accessFlags := 10, code := some k1c1 }
def k1c2 : Code := { maxStack := 2, maxLocals := 1, code := method_3_code, exceptionTable := #[], attributes := #[] }
def k1m2 : Method := { name := "specialExpected", desc := "(I)J", sig := { parameters := [.int], returnType := some .long }, accessFlags := 10, code := some k1c2 }
def k1c3 : Code := { maxStack := 6, maxLocals := 12, code := code, exceptionTable := #[], attributes := #[] }
def k1m3 : Method := { name := "law", desc := "(IJI)Z", sig := { parameters := [.int, .long, .int], returnType := some .boolean }, accessFlags := 9, code := some k1c3 }
/-- com/example/tapir/tapir/runtime/ConversionsToLengthPinLaw -/
def k1 : Class := { plain "com/example/tapir/tapir/runtime/ConversionsToLengthPinLaw" (some 0) with
  accessFlags := 49
  interfaces := #[]
  cf := some (fileOf pool1 23 #[] #[{ accessFlags := 1, nameIndex := 5, descriptorIndex := 6, attributes := #[] }, { accessFlags := 10, nameIndex := 37, descriptorIndex := 38, attributes := #[] }, { accessFlags := 10, nameIndex := 41, descriptorIndex := 42, attributes := #[] }, { accessFlags := 9, nameIndex := 55, descriptorIndex := 56, attributes := #[] }] 49 2 #[] #[{ accessFlags := 26, nameIndex := 49, descriptorIndex := 50, attributes := #[] }])
  fields := #[{ name := "MAX", type := .long, accessFlags := 26, slot := 0, constantValue := 0 }]
  methods := #[k1m0, k1m1, k1m2, k1m3]
  instanceTypes := #[]
  staticTypes := #[.long]
  resolved := Array.replicate 59 none
  statics := none }

def pool2 : Array CpInfo := pool [(2, .class_ 4), (1, u "java/lang/Object"), (0, u "<init>"), (0, u "()V"), (30, .class_ 39), (1, u "com/example/tapir/tapir/runtime/Conversions"), (50, .class_ 91), (0, u "com/example/tapir/tapir/runtime/Conversions$JavaConversion"), (35, .double 4845873199050653695), (1, .long 9007199254740991), (60, u "TWO_TO_32"), (0, u "D"), (1, u "MAX_SAFE_INTEGER"), (0, u "J"), (0, u "LONG_RANGE"), (12, u "toLength"), (0, u "(D)J")] 27

def k2m0 : Method := { name := "<init>", desc := "()V", sig := { parameters := [], returnType := none }, accessFlags := 2, code := none }
def k2c1 : Code := { maxStack := 4, maxLocals := 2, code := prog_119_method_11_code, exceptionTable := #[], attributes := #[] }
def k2m1 : Method := { name := "toLength", desc := "(D)J", sig := { parameters := [.double], returnType := some .long }, accessFlags := 9, code := some k2c1 }
/-- com/example/tapir/tapir/runtime/Conversions -/
def k2 : Class := { plain "com/example/tapir/tapir/runtime/Conversions" (some 0) with
  accessFlags := 49
  interfaces := #[]
  cf := some (fileOf pool2 37 #[.nestMembers #[90]] #[{ accessFlags := 2, nameIndex := 5, descriptorIndex := 6, attributes := #[] }, { accessFlags := 9, nameIndex := 208, descriptorIndex := 209, attributes := #[] }] 49 2 #[] #[{ accessFlags := 26, nameIndex := 190, descriptorIndex := 191, attributes := #[] }, { accessFlags := 25, nameIndex := 193, descriptorIndex := 194, attributes := #[] }, { accessFlags := 26, nameIndex := 195, descriptorIndex := 191, attributes := #[] }])
  fields := #[{ name := "TWO_TO_32", type := .double, accessFlags := 26, slot := 0, constantValue := 0 }, { name := "MAX_SAFE_INTEGER", type := .long, accessFlags := 25, slot := 1, constantValue := 0 }, { name := "LONG_RANGE", type := .double, accessFlags := 26, slot := 2, constantValue := 0 }]
  methods := #[k2m0, k2m1]
  instanceTypes := #[]
  staticTypes := #[.double, .long, .double]
  resolved := Array.replicate 237 none
  statics := none }

def pool3 : Array CpInfo := pool [(1, u "java/lang/Cloneable"), (0, .class_ 1), (0, u "java/lang/Object"), (0, .class_ 3)] 3

/-- java/lang/Cloneable -/
def k3 : Class := { plain "java/lang/Cloneable" (some 0) with
  accessFlags := 1537
  interfaces := #[]
  cf := some (fileOf pool3 2 #[] #[] 1537 4 #[] #[])
  fields := #[]
  methods := #[]
  instanceTypes := #[]
  staticTypes := #[]
  resolved := Array.replicate 8 none
  statics := none }

def pool4 : Array CpInfo := pool [(1, u "java/io/Serializable"), (0, .class_ 1), (0, u "java/lang/Object"), (0, .class_ 3)] 3

/-- java/io/Serializable -/
def k4 : Class := { plain "java/io/Serializable" (some 0) with
  accessFlags := 1537
  interfaces := #[]
  cf := some (fileOf pool4 2 #[] #[] 1537 4 #[] #[])
  fields := #[]
  methods := #[]
  instanceTypes := #[]
  staticTypes := #[]
  resolved := Array.replicate 8 none
  statics := none }

/-- the primitive byte -/
def k5 : Class := { plain "byte" none with kind := .primitive 'B', accessFlags := 0x411 }
/-- [B -/
def k6 : Class := { plain "[B" (some 0) with kind := .array 5 .byte, interfaces := #[3, 4], accessFlags := 1041 }

/-- the primitive int -/
def k7 : Class := { plain "int" none with kind := .primitive 'I', accessFlags := 0x411 }
/-- [I -/
def k8 : Class := { plain "[I" (some 0) with kind := .array 7 .int, interfaces := #[3, 4], accessFlags := 1041 }

def heap : Heap := #[]
def classes : Array Class := #[k0, k1, k2, k3, k4, k5, k6, k7, k8]
def interned : List (Array UInt16 × Addr) := []
def slotsUsed : Nat := 0
def theMethod : MethodId := ⟨1, 3⟩
def args0 : Array Value := #[.int 0, .long 7, .int 3]
def aboutOver (below : List Frame) : State where
  vm := { classes := classes, interned := interned.toArray }
  heap := heap
  slotsUsed := slotsUsed
  threads := #[{ frames := .invoking theMethod args0 :: below }]
def below0 : List Frame := [.native { method := ⟨0, 0⟩, args := #[] }]
def about1 : State := aboutOver below0
def p0 : Program := .bare "" "" ""
def e0 : Env := launch0.env 0 0 0
theorem w_frames : about1.frames = Frame.invoking theMethod args0 :: below0 := rfl
set_option maxRecDepth 65536 in
theorem w_args : argsFit about1.vm theMethod args0 = true := by decide +kernel
set_option maxRecDepth 65536 in
theorem w_heap : heapFits about1 = true := by decide +kernel
set_option maxRecDepth 65536 in
theorem w_runnable : about1.curStatus? = some .runnable := by decide +kernel
set_option maxRecDepth 65536 in
theorem w_alone : about1.alone = true := by decide +kernel
set_option maxRecDepth 65536 in
theorem w_named : about1.methodNamed? x = some theMethod := by decide +kernel
set_option maxRecDepth 65536 in
theorem w_hears : about1.hears theMethod below0 = true := by decide +kernel
set_option maxRecDepth 65536 in
theorem w_ripe : about1.ripe theMethod args0 below0 = true := by decide +kernel
theorem w_running : about1.status = .running := rfl
set_option maxRecDepth 65536 in
theorem w_room : about1.hasRoom e0.platform room_1 = true :=
  launch0.hasRoom_least _ room_1 (by decide +kernel) (by decide +kernel) (by decide +kernel) (by decide +kernel) (by decide +kernel) (by decide +kernel)
theorem allAtoms_all (ts : List Jvm.Cond) (a : Array Jvm.Value) (st : Jvm.State) : (allAtoms ts).before a st = ts.all (fun c => c.before a st) := by
  induction ts with
  | nil => rfl
  | cons c t ih =>
    show (Jvm.Cond.and c (allAtoms t)).before a st = _
    rw [Jvm.Cond.before_and, ih, List.all_cons]
def words1 : List Jvm.Cond := Jvm.Cond.code x code maxLocals ret :: tables_1
/-- a 'code' word, met by the world's own term for the bytes: nothing is compared byte by byte -/
theorem code_word {y : MethodName} {bytes : ByteArray} {mx : Nat} {rt : Option FieldType} {a : Array Value} {s : State} {m : MethodId} {meth : Method} {c : Code} (h1 : s.methodNamed? y = some m) (h2 : s.vm.method? m = some meth) (h3 : meth.code = some c) (h4 : c.code = bytes)
    (h5 : (c.maxLocals == mx && c.exceptionTable.isEmpty && decide (c.maxStack ≤ mostOperands) && decide (meth.sig.returnType = rt) && !meth.locks && decide (parseMethodDescriptor y.desc = some meth.sig)) = true) : (Jvm.Cond.code y bytes mx rt).before a s = true := by
  simp only [Bool.and_eq_true, beq_iff_eq, Bool.not_eq_true', decide_eq_true_eq] at h5
  obtain ⟨⟨⟨⟨⟨g1, g2⟩, g3⟩, g4⟩, g5⟩, g6⟩ := h5
  simp [Cond.before, Cond.holds, Cond.value, h1, h2, h3, h4, g1, g2, g3, g4, g5, g6]
def isCode : Jvm.Cond → Bool
  | .code _ _ _ _ => true
  | _ => false
theorem all_split {L : List Jvm.Cond} {P : Jvm.Cond → Bool} (h1 : L.all (fun c => isCode c || P c) = true) (h2 : ∀ c ∈ L.filter isCode, P c = true) : L.all P = true := by
  refine List.all_eq_true.mpr fun c hc => ?_
  have h := List.all_eq_true.mp h1 c hc
  rcases Bool.eq_false_or_eq_true (isCode c) with hi | hi
  · exact h2 c (List.mem_filter.mpr ⟨hc, hi⟩)
  · simpa [hi] using h
set_option maxRecDepth 65536 in
theorem w_c0 : (Jvm.Cond.code x code maxLocals ret).before args0 about1 = true := code_word (m := ⟨1, 3⟩) (meth := k1m3) (c := k1c3) (by decide +kernel) rfl rfl rfl (by decide +kernel)
set_option maxRecDepth 65536 in
theorem w_c1 : (Jvm.Cond.code ({ cls := "com/example/tapir/tapir/runtime/Conversions", name := "toLength", desc := "(D)J" } : Jvm.MethodName) prog_119_method_11_code (2 : Nat) (Option.some Jvm.ClassFile.FieldType.long)).before args0 about1 = true := code_word (m := ⟨2, 1⟩) (meth := k2m1) (c := k2c1) (by decide +kernel) rfl rfl rfl (by decide +kernel)
set_option maxRecDepth 65536 in
theorem w_c2 : (Jvm.Cond.code ({ cls := "com/example/tapir/tapir/runtime/ConversionsToLengthPinLaw", name := "special", desc := "(I)D" } : Jvm.MethodName) method_2_code (1 : Nat) (Option.some Jvm.ClassFile.FieldType.double)).before args0 about1 = true := code_word (m := ⟨1, 1⟩) (meth := k1m1) (c := k1c1) (by decide +kernel) rfl rfl rfl (by decide +kernel)
set_option maxRecDepth 65536 in
theorem w_c3 : (Jvm.Cond.code ({ cls := "com/example/tapir/tapir/runtime/ConversionsToLengthPinLaw", name := "specialExpected", desc := "(I)J" } : Jvm.MethodName) method_3_code (1 : Nat) (Option.some Jvm.ClassFile.FieldType.long)).before args0 about1 = true := code_word (m := ⟨1, 2⟩) (meth := k1m2) (c := k1c2) (by decide +kernel) rfl rfl rfl (by decide +kernel)
def codes1 : List Jvm.Cond := [Jvm.Cond.code x code maxLocals ret, Jvm.Cond.code ({ cls := "com/example/tapir/tapir/runtime/Conversions", name := "toLength", desc := "(D)J" } : Jvm.MethodName) prog_119_method_11_code (2 : Nat) (Option.some Jvm.ClassFile.FieldType.long), Jvm.Cond.code ({ cls := "com/example/tapir/tapir/runtime/ConversionsToLengthPinLaw", name := "special", desc := "(I)D" } : Jvm.MethodName) method_2_code (1 : Nat) (Option.some Jvm.ClassFile.FieldType.double), Jvm.Cond.code ({ cls := "com/example/tapir/tapir/runtime/ConversionsToLengthPinLaw", name := "specialExpected", desc := "(I)J" } : Jvm.MethodName) method_3_code (1 : Nat) (Option.some Jvm.ClassFile.FieldType.long)]
set_option maxRecDepth 65536 in
theorem codes_eq : words1.filter isCode = codes1 := rfl
theorem w_codes : ∀ c ∈ words1.filter isCode, c.before args0 about1 = true := by
  rw [codes_eq]
  intro c hc
  simp only [codes1, List.mem_cons, List.not_mem_nil, or_false] at hc
  rcases hc with rfl | rfl | rfl | rfl
  · exact w_c0
  · exact w_c1
  · exact w_c2
  · exact w_c3
set_option maxRecDepth 65536 in
theorem w_t1 : (words1.take 24).all (fun c => isCode c || c.before args0 about1) = true := by decide +kernel
set_option maxRecDepth 65536 in
theorem w_t2 : (words1.drop 24).all (fun c => isCode c || c.before args0 about1) = true := by decide +kernel
theorem w_tables : (allAtoms (Jvm.Cond.code x code maxLocals ret :: tables_1)).before args0 about1 = true := by
  rw [allAtoms_all]
  show words1.all (fun c => c.before args0 about1) = true
  refine all_split ?_ w_codes
  rw [← List.take_append_drop 24 words1, List.all_append, w_t1, w_t2]
  rfl
set_option maxRecDepth 65536 in
theorem w_case : (Jvm.Cond.and given_1 narrow_1).before args0 about1 = true := by decide +kernel
theorem w_applies : (headSpec (Jvm.Cond.code x code maxLocals ret :: tables_1) room_1).applies x e0.platform about1 = true :=
  (Spec.applies_iff w_frames).mpr ⟨w_running, w_runnable, w_alone, w_named, w_hears, w_ripe, w_room, w_tables⟩
theorem atStart : AtStart classFile x code maxLocals ret World_1 tables_1 room_1 Calls_1 rest_1 Pre_1 launch0 p0 e0 about1 theMethod args0 below0 :=
  ⟨lists_1, trivial, launch0.admits_env _ _ _, launch0.least_env, fairChoices_fair.cas, fairChoices_fair.clock, w_frames, w_args, w_heap, w_applies, trivial, trivial, w_case⟩
end start1
theorem witness_1 : WitnessClaimed_1 := ⟨start1.p0, start1.e0, start1.about1, start1.theMethod, start1.args0, start1.below0, start1.atStart⟩
end Jvm.Pilot.@@N@@
