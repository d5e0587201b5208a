import JvmDerived
import JvmDerived.Pilot.@@N@@Statement
import JvmDerived.Pilot.@@N@@Code
set_option linter.unusedVariables false
set_option linter.unusedSimpArgs false
namespace Jvm.RoadKit
open Sem ClassFile Op Lib Jvm.Stand Jvm.Free Jvm.LawKit
section New
variable {p : Program} {l : Launch} {e : Env} {R : Room} {s : State} {m : MethodId} {args : Array Value} {below : List Frame} {meth : Method} {c : Code} {T : State} {locs : List Loc} {cells slots : Nat}
theorem retI (X : Stand p l e R s m args below meth c T locs cells slots) (hx : p.tables.exec = Jvm.exec) {pc : Nat} {Ls : Array Slot} {z : Int32} {rest : List Value} (hret : meth.sig.returnType = some .int) (hd : decode c.code pc = .ok (.ireturn, 1)) {fs : List Frame}
    (hl : ∀ (f : JFrame) (acts : List Action), f.method = m → f.locked = none → f.entered = [] → (doReturn e (T.setTop f) acts (some (.int z))).1 = T.setFrames fs) : Steps p.tables e below (T.setTop (mkF m pc Ls (.int z :: rest))) (T.setFrames fs) := by
  have hm' : T.vm.method? m = some meth := X.method'
  have hn : narrow .int (.int z) = .int z := rfl
  show Steps p.tables e below (T.setTop { method := m, pc := pc, locals := Ls, stack := _ :: rest, locked := none }) _
  jvm_step X.here [X.here.top, hx, hd, hm', hret, hn]
  first | (intro acts; rw [hl _ acts rfl rfl rfl]) | rw [hl _ _ rfl rfl rfl]
  exact Steps.refl _
end New
end Jvm.RoadKit
namespace Jvm.Pilot.@@N@@
open Jvm Jvm.ClassFile Sem Op Lib Jvm.Free Jvm.Stand Jvm.LawKit Jvm.RoadKit Bundle Jvm.Pilot.@@N@@.Jvm.D
/-! ## the plain law: doubles that are whole numbers of halves, of quarters .. -/
/-- the datum times 2 ^ k -/
def own_shift (k : Int) : FP.Core.Datum → FP.Core.Datum
  | .fin s c q => .fin s c (q + k)
  | .inf s => .inf s
  | .nan => .nan
/-- `x` is `i / 2 ^ k` exactly -/
def own_Dy (k : Nat) (i : Int) (x : UInt64) : Prop := FP.Core.Whole i (own_shift k (FP.Core.val64 x))
theorem own_Dy_shape {k : Nat} {i : Int} {x : UInt64} (h : own_Dy k i x) : ∃ s c q, FP.Core.val64 x = .fin s c q ∧ FP.Core.Whole i (.fin s c (q + k)) := by
  unfold own_Dy at h
  cases hv : FP.Core.val64 x with
  | nan => rw [hv] at h; exact h.elim
  | inf s => rw [hv] at h; exact h.elim
  | fin s c q => rw [hv] at h; exact ⟨s, c, q, rfl, h⟩
theorem own_Dy_intro {k : Nat} {i : Int} {x : UInt64} {s : Bool} {c : Nat} {q : Int} (hv : FP.Core.val64 x = .fin s c q) (h : FP.Core.Whole i (.fin s c (q + k))) : own_Dy k i x := by
  unfold own_Dy; rw [hv]; exact h
theorem own_Dy_fin {k : Nat} {i : Int} {x : UInt64} (h : own_Dy k i x) : Fl.Fin64 x := by
  obtain ⟨s, c, q, hv, -⟩ := own_Dy_shape h
  exact Fl.fin64_core.mpr ⟨s, c, q, hv⟩
theorem own_Dy_nn {k : Nat} {i : Int} {x : UInt64} (h : own_Dy k i x) : Fl.NoNaN64 x := (own_Dy_fin h).noNaN
theorem own_Dy_int {i : Int} {x : UInt64} (h : FP.Core.DInt i x) : own_Dy 0 i x := by
  unfold FP.Core.DInt at h
  cases hv : FP.Core.val64 x with
  | nan => rw [hv] at h; exact h.elim
  | inf s => rw [hv] at h; exact h.elim
  | fin s c q =>
    rw [hv] at h
    refine own_Dy_intro hv ?_
    rw [show q + ((0 : Nat) : Int) = q by omega]; exact h
theorem own_Dy_up {k : Nat} {i : Int} {x : UInt64} (h : own_Dy k i x) : own_Dy (k + 1) (2 * i) x := by
  obtain ⟨s, c, q, hv, hw⟩ := own_Dy_shape h
  refine own_Dy_intro hv ?_
  rw [show q + ((k + 1 : Nat) : Int) = (q + k) + 1 by omega]
  generalize q + (k : Int) = r at hw ⊢
  have hw' : FP.Core.signed s (c * 2 ^ r.toNat) = i * ((2 ^ (-r).toNat : Nat) : Int) := hw
  show FP.Core.signed s (c * 2 ^ (r + 1).toNat) = 2 * i * ((2 ^ (-(r + 1)).toNat : Nat) : Int)
  by_cases hr : 0 ≤ r
  · rw [show (r + 1).toNat = r.toNat + 1 by omega, Nat.pow_succ, ← Nat.mul_assoc, FP.Core.signed_mul, hw', show (-r).toNat = 0 by omega, show (-(r + 1)).toNat = 0 by omega]
    omega
  · rw [show (-r).toNat = (-(r + 1)).toNat + 1 by omega, show r.toNat = 0 by omega, Nat.pow_succ, Int.natCast_mul] at hw'
    rw [show (r + 1).toNat = 0 by omega, hw', ← Int.mul_assoc, Int.mul_comm (i * _) _, ← Int.mul_assoc]
    rfl
theorem own_order_shift (k : Int) (a b : FP.Core.Datum) : FP.Core.order (own_shift k a) (own_shift k b) = FP.Core.order a b := by
  cases a with
  | nan => rfl
  | inf s => cases b <;> rfl
  | fin s c q =>
    cases b with
    | nan => rfl
    | inf t => rfl
    | fin t d r =>
      show some (compare (FP.Core.signed s (c * 2 ^ (q + k - min (q + k) (r + k)).toNat)) (FP.Core.signed t (d * 2 ^ (r + k - min (q + k) (r + k)).toNat))) = some (compare (FP.Core.signed s (c * 2 ^ (q - min q r).toNat)) (FP.Core.signed t (d * 2 ^ (r - min q r).toNat)))
      rw [show (q + k - min (q + k) (r + k)).toNat = (q - min q r).toNat by omega, show (r + k - min (q + k) (r + k)).toNat = (r - min q r).toNat by omega]
theorem own_Dy_cmp {k : Nat} {i j : Int} {x y : UInt64} (hx : own_Dy k i x) (hy : own_Dy k j y) : FP.dcmp x y = some (compare i j) := by
  show FP.Core.order (FP.Core.val64 x) (FP.Core.val64 y) = _
  rw [← own_order_shift k]
  exact FP.Core.order_whole hx hy
/-- what a comparison of two such doubles pushes -/
theorem own_cmp {k : Nat} {i j : Int} {x y : UInt64} (hx : own_Dy k i x) (hy : own_Dy k j y) (o : CmpOp) : cmpValue (FP.dcmp x y) o = if i < j then -1 else if i = j then 0 else 1 := by
  rw [own_Dy_cmp hx hy, FP.Core.compare_ite]
  by_cases h1 : i < j
  · rw [if_pos h1, if_pos h1]; rfl
  · rw [if_neg h1, if_neg h1]
    by_cases h2 : i = j
    · rw [if_pos h2, if_pos h2]; rfl
    · rw [if_neg h2, if_neg h2]; rfl
theorem own_sum_shift (k : Int) {s t : Bool} {c d : Nat} {q r : Int} : FP.Core.exactSum (own_shift k (.fin s c q)) (own_shift k (.fin t d r)) = own_shift k (FP.Core.exactSum (.fin s c q) (.fin t d r)) := by
  have h : FP.Core.sumUnits s c (q + k) t d (r + k) (min (q + k) (r + k)) = FP.Core.sumUnits s c q t d r (min q r) := by
    show FP.Core.signed s (c * 2 ^ (q + k - min (q + k) (r + k)).toNat) + FP.Core.signed t (d * 2 ^ (r + k - min (q + k) (r + k)).toNat) = FP.Core.signed s (c * 2 ^ (q - min q r).toNat) + FP.Core.signed t (d * 2 ^ (r - min q r).toNat)
    rw [show (q + k - min (q + k) (r + k)).toNat = (q - min q r).toNat by omega, show (r + k - min (q + k) (r + k)).toNat = (r - min q r).toNat by omega]
  show FP.Core.Datum.fin (FP.Core.sumSign s t (FP.Core.sumUnits s c (q + k) t d (r + k) (min (q + k) (r + k)))) (FP.Core.sumUnits s c (q + k) t d (r + k) (min (q + k) (r + k))).natAbs (min (q + k) (r + k)) = FP.Core.Datum.fin (FP.Core.sumSign s t (FP.Core.sumUnits s c q t d r (min q r))) (FP.Core.sumUnits s c q t d r (min q r)).natAbs (min q r + k)
  rw [h, show min (q + k) (r + k) = min q r + k by omega]
/-- rounding keeps such a number, if it has at most 53 digits -/
theorem own_round {k : Nat} (hk : k ≤ 64) {i : Int} (hi : i.natAbs ≤ 2 ^ 53) {s : Bool} {c : Nat} {q : Int} (h : FP.Core.Whole i (.fin s c (q + k))) : ∃ c' q', FP.Core.round FP.Core.b64 (.fin s c q) = .fin s c' q' ∧ FP.Core.Whole i (.fin s c' (q' + k)) := by
  by_cases h0 : i = 0
  · have hc : c = 0 := (FP.Core.whole_zero h).mpr h0
    subst hc h0
    refine ⟨0, FP.Core.b64.qmin, rfl, ?_⟩
    show FP.Core.signed s (0 * _) = 0 * _
    rw [Nat.zero_mul, Int.zero_mul]; exact FP.Core.signed_zero s
  · have hs := FP.Core.whole_sign h h0
    have hn := FP.Core.whole_natAbs h
    obtain ⟨c', q', hf, hv⟩ := FP.Core.natFit FP.Core.good_b64 FP.Core.wide_b64 s (n := i.natAbs) hi
    have e0 : FP.Core.round FP.Core.b64 (.fin s c q) = FP.Core.roundRatio FP.Core.b64 s i.natAbs 1 (-(k : Int)) := by
      refine FP.Core.roundRatio_congr (by decide) (by decide) ?_
      rw [show (q - -(k : Int)).toNat = (q + k).toNat by congr 1; omega, show (-(k : Int) - q).toNat = (-(q + k)).toNat by congr 1; omega]
      simpa using hn
    rw [show (0 - q').toNat = (-q').toNat by congr 1; omega, show (q' - 0).toNat = q'.toNat by congr 1; omega, Nat.mul_one] at hv
    obtain ⟨f1, f2, f3, f4⟩ := hf
    have f1' : c' < 2 ^ 53 := f1
    have f2' : -1074 ≤ q' := f2
    have f3' : q' ≤ 971 := f3
    have hq : -53 < q' := by
      refine Int.lt_of_not_ge fun hge => ?_
      rw [show q'.toNat = 0 by omega, Nat.pow_zero, Nat.mul_one] at hv
      have p1 : 2 ^ 53 ≤ 2 ^ (-q').toNat := Nat.pow_le_pow_right (by decide) (by omega)
      have p2 : 1 * 2 ^ (-q').toNat ≤ i.natAbs * 2 ^ (-q').toNat := Nat.mul_le_mul_right _ (by omega)
      omega
    have f4' : FP.Core.b64.tails ≤ c' := by
      rcases f4 with f4 | f4
      · have : q' = -1074 := f4
        omega
      · exact f4
    have hf' : FP.Core.fits FP.Core.b64 (.fin s c' (q' - k)) := ⟨f1, by show (-1074 : Int) ≤ q' - k; omega, by show q' - (k : Int) ≤ 971; omega, Or.inr f4'⟩
    refine ⟨c', q' - k, ?_, ?_⟩
    · rw [e0]
      refine FP.Core.roundRatio_exact FP.Core.good_b64 (by decide) hf' ?_
      rw [show (-(k : Int) - (q' - k)).toNat = (-q').toNat by congr 1; omega, show (q' - (k : Int) - -(k : Int)).toNat = q'.toNat by congr 1; omega, Nat.mul_one]
      exact hv
    · rw [show q' - (k : Int) + k = q' by omega]
      show FP.Core.signed s (c' * 2 ^ q'.toNat) = i * ((2 ^ (-q').toNat : Nat) : Int)
      rw [← hv, FP.Core.signed_mul, hs]
      congr 1
      unfold FP.Core.signed
      by_cases hneg : i < 0
      · simp [hneg]; omega
      · simp [hneg]; omega
theorem own_Dy_add {k : Nat} (hk : k ≤ 64) {i j : Int} {x y : UInt64} (hx : own_Dy k i x) (hy : own_Dy k j y) (hi : (i + j).natAbs ≤ 2 ^ 53) : own_Dy k (i + j) (FP.dadd x y) := by
  obtain ⟨s, c, q, hv, hw⟩ := own_Dy_shape hx
  obtain ⟨t, d, r, hv', hw'⟩ := own_Dy_shape hy
  have h1 := FP.Core.whole_sum hw hw'
  rw [show FP.Core.Datum.fin s c (q + k) = own_shift k (.fin s c q) from rfl, show FP.Core.Datum.fin t d (r + k) = own_shift k (.fin t d r) from rfl, own_sum_shift] at h1
  have h2 : FP.Core.val64 (FP.dadd x y) = FP.Core.round FP.Core.b64 (FP.Core.exactSum (.fin s c q) (.fin t d r)) := by
    rw [← hv, ← hv']; exact FP.Core.val64_dadd x y
  obtain ⟨c', q', e1, e2⟩ := own_round hk hi (show FP.Core.Whole (i + j) (.fin _ _ (_ + (k : Int))) from h1)
  exact own_Dy_intro (h2.trans e1) e2
/-- division by `2 ^ t`: the divisor's bits stand for `2 ^ 52 * 2 ^ (t - 52)` -/
theorem own_Dy_div {k t : Nat} (hk : k + t ≤ 64) {i : Int} {x y : UInt64} (hy : FP.Core.val64 y = .fin false (2 ^ 52) ((t : Int) - 52)) (hx : own_Dy k i x) (hi : i.natAbs ≤ 2 ^ 53) : own_Dy (k + t) i (FP.ddiv x y) := by
  obtain ⟨s, c, q, hv, hw⟩ := own_Dy_shape hx
  have h1 : FP.Core.val64 (FP.ddiv x y) = FP.Core.quotient FP.Core.b64 (.fin s c q) (.fin false (2 ^ 52) ((t : Int) - 52)) := by
    rw [← hv, ← hy]; exact FP.Core.val64_ddiv x y
  have h2 : FP.Core.quotient FP.Core.b64 (.fin s c q) (.fin false (2 ^ 52) ((t : Int) - 52)) = FP.Core.roundRatio FP.Core.b64 (s != false) c (2 ^ 52) (q - ((t : Int) - 52)) := by
    show (if (2 ^ 52 : Nat) = 0 then (if c = 0 then FP.Core.Datum.nan else .inf (s != false)) else FP.Core.roundRatio FP.Core.b64 (s != false) c (2 ^ 52) (q - ((t : Int) - 52))) = _
    exact if_neg (by decide : ¬ (2 ^ 52 : Nat) = 0)
  have h3 : FP.Core.roundRatio FP.Core.b64 (s != false) c (2 ^ 52) (q - ((t : Int) - 52)) = FP.Core.round FP.Core.b64 (.fin s c (q - t)) := by
    rw [show (s != false) = s by cases s <;> rfl]
    refine FP.Core.roundRatio_congr (by decide) (by decide) ?_
    rw [show (q - ((t : Int) - 52) - (q - t)).toNat = 52 by omega, show (q - (t : Int) - (q - ((t : Int) - 52))).toNat = 0 by omega]
    simp
  obtain ⟨c', q', e1, e2⟩ := own_round (k := k + t) hk hi (s := s) (c := c) (q := q - t) (by rw [show q - (t : Int) + ((k + t : Nat) : Int) = q + k by omega]; exact hw)
  exact own_Dy_intro (h1.trans (h2.trans (h3.trans e1))) e2
theorem own_val_two : FP.Core.val64 4611686018427387904 = .fin false (2 ^ 52) (((1 : Nat) : Int) - 52) := by decide +kernel
theorem own_val_four : FP.Core.val64 4616189618054758400 = .fin false (2 ^ 52) (((2 : Nat) : Int) - 52) := by decide +kernel
theorem own_nn_of {x : UInt64} (h : FP.Core.val64 x ≠ .nan) : Fl.NoNaN64 x := Fl.noNaN64_no.mpr ((FP.Core.notNaN_iff x).mpr h)
/-- midpoint's three roads, and what comes back -/
def own_Case (x y r : UInt64) : Prop := ((cmpValue (FP.dcmp x y) .l = 0 ∧ r = x) ∨ (¬ cmpValue (FP.dcmp x y) .l = 0 ∧ cmpValue (FP.dcmp y (9218868437227405312 : UInt64)) .l = 0 ∧ r = x) ∨ (¬ cmpValue (FP.dcmp x y) .l = 0 ∧ ¬ cmpValue (FP.dcmp y (9218868437227405312 : UInt64)) .l = 0 ∧ Fl.NoNaN64 (FP.dsub y x) ∧ Fl.NoNaN64 (FP.ddiv (FP.dsub y x) (4611686018427387904 : UInt64)) ∧ Fl.NoNaN64 (FP.dadd x (FP.ddiv (FP.dsub y x) (4611686018427387904 : UInt64))) ∧ r = FP.dadd x (FP.ddiv (FP.dsub y x) (4611686018427387904 : UInt64))))
theorem own_sum (a b : Int32) : (a.toInt64 + b.toInt64).toInt = a.toInt + b.toInt := by
  have h1 := a.toInt_lt
  have h2 := a.le_toInt
  have h3 := b.toInt_lt
  have h4 := b.le_toInt
  have e1 : a.toInt64.toInt = a.toInt := Int32.toInt_toInt64 a
  have e2 : b.toInt64.toInt = b.toInt := Int32.toInt_toInt64 b
  rw [FP.Core.int64_add (by rw [e1, e2]; omega) (by rw [e1, e2]; omega), e1, e2]
/-- the law's own half of the sum -/
theorem own_exp (a b : Int32) : own_Dy 1 (a.toInt + b.toInt) (FP.ddiv (FP.l2d (a.toInt64 + b.toInt64)) (4611686018427387904 : UInt64)) := by
  have h1 := a.toInt_lt
  have h2 := a.le_toInt
  have h3 := b.toInt_lt
  have h4 := b.le_toInt
  have q := FP.Core.l2d_int (a := a.toInt64 + b.toInt64) (by rw [own_sum]; omega)
  rw [own_sum] at q
  exact own_Dy_div (k := 0) (t := 1) (by decide) own_val_two (own_Dy_int q) (by omega)
theorem own_mid (a b : Int32) : ∃ r, own_Case (FP.i2d a) (FP.i2d b) r ∧ cmpValue (FP.dcmp r (FP.ddiv (FP.l2d (a.toInt64 + b.toInt64)) (4611686018427387904 : UInt64))) .l = 0 := by
  have h1 := a.toInt_lt
  have h2 := a.le_toInt
  have h3 := b.toInt_lt
  have h4 := b.le_toInt
  have da := own_Dy_int (FP.Core.i2d_int a)
  have db := own_Dy_int (FP.Core.i2d_int b)
  have c1 := own_cmp da db .l
  have ex := own_exp a b
  by_cases h : a.toInt = b.toInt
  · refine ⟨FP.i2d a, Or.inl ⟨?_, rfl⟩, ?_⟩
    · rw [c1, if_neg (by omega), if_pos h]
    · rw [own_cmp (own_Dy_up da) ex, if_neg (by omega), if_pos (by omega)]
  · have n1 : ¬ cmpValue (FP.dcmp (FP.i2d a) (FP.i2d b)) .l = 0 := by
      rw [c1]
      by_cases g : a.toInt < b.toInt
      · rw [if_pos g]; decide
      · rw [if_neg g, if_neg h]; decide
    have n2 : ¬ cmpValue (FP.dcmp (FP.i2d b) (9218868437227405312 : UInt64)) .l = 0 := by
      rw [dcmp_pinf (Fl.i2d_fin b)]; decide
    have s1 := FP.Core.dsub_int (FP.Core.i2d_int b) (FP.Core.i2d_int a) (by omega)
    have s2 : own_Dy 1 (b.toInt - a.toInt) _ := own_Dy_div (k := 0) (t := 1) (by decide) own_val_two (own_Dy_int s1) (by omega)
    have s3 := own_Dy_add (k := 1) (by decide) (own_Dy_up da) s2 (by omega)
    refine ⟨_, Or.inr (Or.inr ⟨n1, n2, own_Dy_nn (own_Dy_int s1), own_Dy_nn s2, own_Dy_nn s3, rfl⟩), ?_⟩
    rw [own_cmp s3 ex, if_neg (by omega), if_pos (by omega)]
/-! ## Solution.midpoint -/
theorem d1_0 : decode prog_28_method_5_code 0 = .ok (.dload_n 0, 1) := by decide +kernel
theorem d1_1 : decode prog_28_method_5_code 1 = .ok (.dload_n 2, 1) := by decide +kernel
theorem d1_2 : decode prog_28_method_5_code 2 = .ok (.dcmp .l, 1) := by decide +kernel
theorem d1_3 : decode prog_28_method_5_code 3 = .ok (.ifCond .ne 9, 3) := by decide +kernel
theorem d1_6 : decode prog_28_method_5_code 6 = .ok (.dload_n 0, 1) := by decide +kernel
theorem d1_7 : decode prog_28_method_5_code 7 = .ok (.dstore 4, 2) := by decide +kernel
theorem d1_9 : decode prog_28_method_5_code 9 = .ok (.goto 28, 3) := by decide +kernel
theorem d1_12 : decode prog_28_method_5_code 12 = .ok (.dload_n 2, 1) := by decide +kernel
theorem d1_13 : decode prog_28_method_5_code 13 = .ok (.ldc2_w 33, 3) := by decide +kernel
theorem d1_16 : decode prog_28_method_5_code 16 = .ok (.dcmp .l, 1) := by decide +kernel
theorem d1_17 : decode prog_28_method_5_code 17 = .ok (.ifCond .ne 9, 3) := by decide +kernel
theorem d1_20 : decode prog_28_method_5_code 20 = .ok (.dload_n 0, 1) := by decide +kernel
theorem d1_21 : decode prog_28_method_5_code 21 = .ok (.dstore 4, 2) := by decide +kernel
theorem d1_23 : decode prog_28_method_5_code 23 = .ok (.goto 14, 3) := by decide +kernel
theorem d1_26 : decode prog_28_method_5_code 26 = .ok (.dload_n 0, 1) := by decide +kernel
theorem d1_27 : decode prog_28_method_5_code 27 = .ok (.dload_n 2, 1) := by decide +kernel
theorem d1_28 : decode prog_28_method_5_code 28 = .ok (.dload_n 0, 1) := by decide +kernel
theorem d1_29 : decode prog_28_method_5_code 29 = .ok (.dsub, 1) := by decide +kernel
theorem d1_30 : decode prog_28_method_5_code 30 = .ok (.ldc2_w 35, 3) := by decide +kernel
theorem d1_33 : decode prog_28_method_5_code 33 = .ok (.ddiv, 1) := by decide +kernel
theorem d1_34 : decode prog_28_method_5_code 34 = .ok (.dadd, 1) := by decide +kernel
theorem d1_35 : decode prog_28_method_5_code 35 = .ok (.dstore 4, 2) := by decide +kernel
theorem d1_37 : decode prog_28_method_5_code 37 = .ok (.dload 4, 2) := by decide +kernel
theorem d1_39 : decode prog_28_method_5_code 39 = .ok (.dreturn, 1) := by decide +kernel
theorem pn1 : plainName "com/example/stochastic_model_checker/stochasticmodelchecker/checking/Solution" = true := by first | (simp [plainName, overriddenIn]; done) | decide +kernel
theorem pd1 : parseMethodDescriptor "(DD)D" = some ⟨[.double, .double], (some .double)⟩ := by decide +kernel
theorem ef1 (m : MethodId) (x : UInt64) (y : UInt64) : entryFrame m #[(.double x), (.double y)] 6 = mkF m 0 #[.val (.double x), .second, .val (.double y), .second, .unset, .unset] [] := by first | (simp [entryFrame, mkF, argsToLocals, Value.category]; done) | rfl
def Q1 (Z : State) (x y r : UInt64) (h0 : Heap) (n0 : Nat) (v : Option Value) (h : Heap) (L : List Loc) : Prop := v = some (.double r) ∧ Fr n0 L ∧ h = h0
set_option maxRecDepth 65536 in
set_option maxHeartbeats 40000000 in
theorem rm1 (l : Launch) (Z : State) (a0 : Array Value) (hw : ∀ d ∈ tables_1, d.before a0 Z = true) (ws : List Jvm.Cond) (x y r : UInt64) (h0 : Heap) (n0 : Nat) (Z0 : n0 ≤ h0.size) (h3 : own_Case x y r) :
    MetFree l (⟨"com/example/stochastic_model_checker/stochasticmodelchecker/checking/Solution", "midpoint", "(DD)D"⟩ : MethodName) (head1 (Jvm.Cond.code (⟨"com/example/stochastic_model_checker/stochasticmodelchecker/checking/Solution", "midpoint", "(DD)D"⟩ : MethodName) prog_28_method_5_code 6 (some .double) :: ws) ({ frames := 0, cells := 0, slots := 0, locals := 0 } : Room)) (fun aa U => aa = #[(.double x), (.double y)] ∧ Z.Warmed39 U.vm ∧ U.heap = h0) (fun _ _ _ _ _ => True) (fun _ U o U' => ∃ v L, o = .returned v ∧ Q1 Z x y r h0 n0 v U'.heap L ∧ FrameEnd U o U' L ({ frames := 0, cells := 0, slots := 0, locals := 0 } : Room).cells ({ frames := 0, cells := 0, slots := 0, locals := 0 } : Room).slots) := by
  refine MetFree.of_bodySF (plainFor_of_name pn1) hisR ?_
  intro p e s m args below meth c s₁ Bd hml0 hP hK
  obtain ⟨rfl, hZ, hh⟩ := hP
  have hx := Bd.exec
  have hby := Bd.bytes
  have hml : c.maxLocals = 6 := hml0
  have hown : s.vm.findClass "com/example/stochastic_model_checker/stochasticmodelchecker/checking/Solution" = some m.cls := findClass_of_methodNamed Bd.named
  have hnm := (name_of_methodNamed Bd.named Bd.method).1
  have X0 : Stand p l e ({ frames := 0, cells := 0, slots := 0, locals := 0 } : Room) s m #[(.double x), (.double y)] below meth c s₁ [] 0 0 := Stand.of_body Bd
  have e0 : s₁.heap = h0 := by rw [← hh, Bd.state]; rfl
  have N0 := Fr.nil n0
  have pre0 : ∀ t, Steps p.tables e below (s₁.setTop (mkF m 0 #[.val (.double x), .second, .val (.double y), .second, .unset, .unset] [])) t → Steps p.tables e below (s₁.setTop (entryFrame m #[(.double x), (.double y)] 6)) t := fun t k => castTop (ef1 m x y) k
  obtain ⟨fs, hr, hrun, hended, hW, hsame⟩ := X0.leave (v := some (.double r)) (fun h => by rw [Bd.returns] at h; cases h)
  refine ⟨_, _, pre0 _ ?_, hrun, hended, _, _, rfl, ?_, ⟨_, rfl⟩, hW, hsame.mono (by decide) (by decide)⟩
  · rcases h3 with ⟨c1, hrx⟩ | ⟨c1, c2, hrx⟩ | ⟨c1, c2, q1, q2, q3, hrx⟩
    · rw [hrx] at hr
      show Steps p.tables e below (s₁.setTop (mkF m 0 #[.val (.double x), .second, .val (.double y), .second, .unset, .unset] [])) _
      refine XS.dloadN X0.here hx rfl (hb hby d1_0) rfl ?_
      show Steps p.tables e below (s₁.setTop (mkF m 1 #[.val (.double x), .second, .val (.double y), .second, .unset, .unset] [(.double x)])) _
      refine XS.dloadN X0.here hx rfl (hb hby d1_1) rfl ?_
      show Steps p.tables e below (s₁.setTop (mkF m 2 #[.val (.double x), .second, .val (.double y), .second, .unset, .unset] [(.double y), (.double x)])) _
      refine XS.dcmpS X0.here hx rfl (hb hby d1_2) rfl rfl ?_
      show Steps p.tables e below (s₁.setTop (mkF m 3 #[.val (.double x), .second, .val (.double y), .second, .unset, .unset] [(.int (cmpValue (FP.dcmp x y) .l))])) _
      refine XS.ifNo X0.here hx rfl (hb hby d1_3) rfl ((if0 _ _).trans (teq c1).2) ?_
      show Steps p.tables e below (s₁.setTop (mkF m 6 #[.val (.double x), .second, .val (.double y), .second, .unset, .unset] [])) _
      refine XS.dloadN X0.here hx rfl (hb hby d1_6) rfl ?_
      show Steps p.tables e below (s₁.setTop (mkF m 7 #[.val (.double x), .second, .val (.double y), .second, .unset, .unset] [(.double x)])) _
      refine XS.dstore X0.here hx rfl (hb hby d1_7) rfl (l' := #[.val (.double x), .second, .val (.double y), .second, .val (.double x), .second]) rfl ?_
      show Steps p.tables e below (s₁.setTop (mkF m 9 #[.val (.double x), .second, .val (.double y), .second, .val (.double x), .second] [])) _
      refine XS.goto X0.here hx rfl (pc0 := 9) (pc' := 37) rfl (hb hby d1_9) (by decide) (by decide) ?_
      show Steps p.tables e below (s₁.setTop (mkF m 37 #[.val (.double x), .second, .val (.double y), .second, .val (.double x), .second] [])) _
      refine XS.dload X0.here hx rfl (hb hby d1_37) rfl ?_
      show Steps p.tables e below (s₁.setTop (mkF m 39 #[.val (.double x), .second, .val (.double y), .second, .val (.double x), .second] [(.double x)])) _
      exact retOut X0 hx Bd.returns rfl (Or.inr (Or.inr (Or.inl ⟨rfl, rfl, _, rfl⟩))) (hb hby d1_39) hr
    · rw [hrx] at hr
      show Steps p.tables e below (s₁.setTop (mkF m 0 #[.val (.double x), .second, .val (.double y), .second, .unset, .unset] [])) _
      refine XS.dloadN X0.here hx rfl (hb hby d1_0) rfl ?_
      show Steps p.tables e below (s₁.setTop (mkF m 1 #[.val (.double x), .second, .val (.double y), .second, .unset, .unset] [(.double x)])) _
      refine XS.dloadN X0.here hx rfl (hb hby d1_1) rfl ?_
      show Steps p.tables e below (s₁.setTop (mkF m 2 #[.val (.double x), .second, .val (.double y), .second, .unset, .unset] [(.double y), (.double x)])) _
      refine XS.dcmpS X0.here hx rfl (hb hby d1_2) rfl rfl ?_
      show Steps p.tables e below (s₁.setTop (mkF m 3 #[.val (.double x), .second, .val (.double y), .second, .unset, .unset] [(.int (cmpValue (FP.dcmp x y) .l))])) _
      refine XS.ifYes X0.here hx rfl (pc0 := 3) (pc' := 12) rfl (hb hby d1_3) rfl ((if0 _ _).trans (feq c1).2) (by decide) (by decide) ?_
      show Steps p.tables e below (s₁.setTop (mkF m 12 #[.val (.double x), .second, .val (.double y), .second, .unset, .unset] [])) _
      refine XS.dloadN X0.here hx rfl (hb hby d1_12) rfl ?_
      show Steps p.tables e below (s₁.setTop (mkF m 13 #[.val (.double x), .second, .val (.double y), .second, .unset, .unset] [(.double y)])) _
      refine X0.ldc2DoubleC hx hown (mvT hZ (hw _ (List.mem_of_getElem? (i := 6) rfl))) (g := (mkF m 13 #[.val (.double x), .second, .val (.double y), .second, .unset, .unset] [(.double y)])) rfl (hb hby d1_13) _ ?_
      show Steps p.tables e below (s₁.setTop (mkF m 16 #[.val (.double x), .second, .val (.double y), .second, .unset, .unset] [(.double (9218868437227405312 : UInt64)), (.double y)])) _
      refine XS.dcmpS X0.here hx rfl (hb hby d1_16) rfl rfl ?_
      show Steps p.tables e below (s₁.setTop (mkF m 17 #[.val (.double x), .second, .val (.double y), .second, .unset, .unset] [(.int (cmpValue (FP.dcmp y (9218868437227405312 : UInt64)) .l))])) _
      refine XS.ifNo X0.here hx rfl (hb hby d1_17) rfl ((if0 _ _).trans (teq c2).2) ?_
      show Steps p.tables e below (s₁.setTop (mkF m 20 #[.val (.double x), .second, .val (.double y), .second, .unset, .unset] [])) _
      refine XS.dloadN X0.here hx rfl (hb hby d1_20) rfl ?_
      show Steps p.tables e below (s₁.setTop (mkF m 21 #[.val (.double x), .second, .val (.double y), .second, .unset, .unset] [(.double x)])) _
      refine XS.dstore X0.here hx rfl (hb hby d1_21) rfl (l' := #[.val (.double x), .second, .val (.double y), .second, .val (.double x), .second]) rfl ?_
      show Steps p.tables e below (s₁.setTop (mkF m 23 #[.val (.double x), .second, .val (.double y), .second, .val (.double x), .second] [])) _
      refine XS.goto X0.here hx rfl (pc0 := 23) (pc' := 37) rfl (hb hby d1_23) (by decide) (by decide) ?_
      show Steps p.tables e below (s₁.setTop (mkF m 37 #[.val (.double x), .second, .val (.double y), .second, .val (.double x), .second] [])) _
      refine XS.dload X0.here hx rfl (hb hby d1_37) rfl ?_
      show Steps p.tables e below (s₁.setTop (mkF m 39 #[.val (.double x), .second, .val (.double y), .second, .val (.double x), .second] [(.double x)])) _
      exact retOut X0 hx Bd.returns rfl (Or.inr (Or.inr (Or.inl ⟨rfl, rfl, _, rfl⟩))) (hb hby d1_39) hr
    · rw [hrx] at hr
      show Steps p.tables e below (s₁.setTop (mkF m 0 #[.val (.double x), .second, .val (.double y), .second, .unset, .unset] [])) _
      refine XS.dloadN X0.here hx rfl (hb hby d1_0) rfl ?_
      show Steps p.tables e below (s₁.setTop (mkF m 1 #[.val (.double x), .second, .val (.double y), .second, .unset, .unset] [(.double x)])) _
      refine XS.dloadN X0.here hx rfl (hb hby d1_1) rfl ?_
      show Steps p.tables e below (s₁.setTop (mkF m 2 #[.val (.double x), .second, .val (.double y), .second, .unset, .unset] [(.double y), (.double x)])) _
      refine XS.dcmpS X0.here hx rfl (hb hby d1_2) rfl rfl ?_
      show Steps p.tables e below (s₁.setTop (mkF m 3 #[.val (.double x), .second, .val (.double y), .second, .unset, .unset] [(.int (cmpValue (FP.dcmp x y) .l))])) _
      refine XS.ifYes X0.here hx rfl (pc0 := 3) (pc' := 12) rfl (hb hby d1_3) rfl ((if0 _ _).trans (feq c1).2) (by decide) (by decide) ?_
      show Steps p.tables e below (s₁.setTop (mkF m 12 #[.val (.double x), .second, .val (.double y), .second, .unset, .unset] [])) _
      refine XS.dloadN X0.here hx rfl (hb hby d1_12) rfl ?_
      show Steps p.tables e below (s₁.setTop (mkF m 13 #[.val (.double x), .second, .val (.double y), .second, .unset, .unset] [(.double y)])) _
      refine X0.ldc2DoubleC hx hown (mvT hZ (hw _ (List.mem_of_getElem? (i := 6) rfl))) (g := (mkF m 13 #[.val (.double x), .second, .val (.double y), .second, .unset, .unset] [(.double y)])) rfl (hb hby d1_13) _ ?_
      show Steps p.tables e below (s₁.setTop (mkF m 16 #[.val (.double x), .second, .val (.double y), .second, .unset, .unset] [(.double (9218868437227405312 : UInt64)), (.double y)])) _
      refine XS.dcmpS X0.here hx rfl (hb hby d1_16) rfl rfl ?_
      show Steps p.tables e below (s₁.setTop (mkF m 17 #[.val (.double x), .second, .val (.double y), .second, .unset, .unset] [(.int (cmpValue (FP.dcmp y (9218868437227405312 : UInt64)) .l))])) _
      refine XS.ifYes X0.here hx rfl (pc0 := 17) (pc' := 26) rfl (hb hby d1_17) rfl ((if0 _ _).trans (feq c2).2) (by decide) (by decide) ?_
      show Steps p.tables e below (s₁.setTop (mkF m 26 #[.val (.double x), .second, .val (.double y), .second, .unset, .unset] [])) _
      refine XS.dloadN X0.here hx rfl (hb hby d1_26) rfl ?_
      show Steps p.tables e below (s₁.setTop (mkF m 27 #[.val (.double x), .second, .val (.double y), .second, .unset, .unset] [(.double x)])) _
      refine XS.dloadN X0.here hx rfl (hb hby d1_27) rfl ?_
      show Steps p.tables e below (s₁.setTop (mkF m 28 #[.val (.double x), .second, .val (.double y), .second, .unset, .unset] [(.double y), (.double x)])) _
      refine XS.dloadN X0.here hx rfl (hb hby d1_28) rfl ?_
      show Steps p.tables e below (s₁.setTop (mkF m 29 #[.val (.double x), .second, .val (.double y), .second, .unset, .unset] [(.double x), (.double y), (.double x)])) _
      refine XS.dsubS X0.here hx rfl (hb hby d1_29) rfl q1 rfl ?_
      show Steps p.tables e below (s₁.setTop (mkF m 30 #[.val (.double x), .second, .val (.double y), .second, .unset, .unset] [(.double (FP.dsub y x)), (.double x)])) _
      refine X0.ldc2DoubleC hx hown (mvT hZ (hw _ (List.mem_of_getElem? (i := 7) rfl))) (g := (mkF m 30 #[.val (.double x), .second, .val (.double y), .second, .unset, .unset] [(.double (FP.dsub y x)), (.double x)])) rfl (hb hby d1_30) _ ?_
      show Steps p.tables e below (s₁.setTop (mkF m 33 #[.val (.double x), .second, .val (.double y), .second, .unset, .unset] [(.double (4611686018427387904 : UInt64)), (.double (FP.dsub y x)), (.double x)])) _
      refine XS.ddivS X0.here hx rfl (hb hby d1_33) rfl q2 rfl ?_
      show Steps p.tables e below (s₁.setTop (mkF m 34 #[.val (.double x), .second, .val (.double y), .second, .unset, .unset] [(.double (FP.ddiv (FP.dsub y x) (4611686018427387904 : UInt64))), (.double x)])) _
      refine XS.daddS X0.here hx rfl (hb hby d1_34) rfl q3 rfl ?_
      show Steps p.tables e below (s₁.setTop (mkF m 35 #[.val (.double x), .second, .val (.double y), .second, .unset, .unset] [(.double (FP.dadd x (FP.ddiv (FP.dsub y x) (4611686018427387904 : UInt64))))])) _
      refine XS.dstore X0.here hx rfl (hb hby d1_35) rfl (l' := #[.val (.double x), .second, .val (.double y), .second, .val (.double (FP.dadd x (FP.ddiv (FP.dsub y x) (4611686018427387904 : UInt64)))), .second]) rfl ?_
      show Steps p.tables e below (s₁.setTop (mkF m 37 #[.val (.double x), .second, .val (.double y), .second, .val (.double (FP.dadd x (FP.ddiv (FP.dsub y x) (4611686018427387904 : UInt64)))), .second] [])) _
      refine XS.dload X0.here hx rfl (hb hby d1_37) rfl ?_
      show Steps p.tables e below (s₁.setTop (mkF m 39 #[.val (.double x), .second, .val (.double y), .second, .val (.double (FP.dadd x (FP.ddiv (FP.dsub y x) (4611686018427387904 : UInt64)))), .second] [(.double (FP.dadd x (FP.ddiv (FP.dsub y x) (4611686018427387904 : UInt64))))])) _
      exact retOut X0 hx Bd.returns rfl (Or.inr (Or.inr (Or.inl ⟨rfl, rfl, _, rfl⟩))) (hb hby d1_39) hr
  · show Q1 Z x y r h0 n0 _ s₁.heap _
    rw [e0]
    exact ⟨rfl, N0, rfl⟩
/-! ## the law -/
theorem pn0 : plainName "com/example/stochastic_model_checker/stochasticmodelchecker/checking/SolutionMidpointPinLaw" = true := by first | (simp [plainName, overriddenIn]; done) | decide +kernel
theorem ef0 (m : MethodId) (x0 : Int32) (x1 : Int32) (x2 : Int32) : entryFrame m #[(.int x0), (.int x1), (.int x2)] maxLocals = mkF m 0 #[.val (.int x0), .val (.int x1), .val (.int x2), .unset, .unset, .unset, .unset, .unset, .unset, .unset] [] := by first | (simp [entryFrame, mkF, argsToLocals, Value.category, maxLocals]; done) | rfl
def Q0 (Z : State) (p1 p2 p3 : Int32) (h0 : Heap) (n0 : Nat) (v : Option Value) (h : Heap) (L : List Loc) : Prop := v = some (.int 1) ∧ Fr n0 L
set_option maxRecDepth 65536 in
set_option maxHeartbeats 40000000 in
theorem rm0 (l : Launch) (Z : State) (a0 : Array Value) (hw : ∀ d ∈ tables_1, d.before a0 Z = true) (ws : List Jvm.Cond) (p1 p2 p3 : Int32) (h0 : Heap) (n0 : Nat) (Z0 : n0 ≤ h0.size)  :
    MetFree l x (head1 (Jvm.Cond.code x code maxLocals ret :: ws) room_1) (fun aa U => aa = #[(.int p1), (.int p2), (.int p3)] ∧ Z.Warmed39 U.vm ∧ U.heap = h0) (fun _ _ _ _ _ => True) (fun _ U o U' => ∃ v L, o = .returned v ∧ Q0 Z p1 p2 p3 h0 n0 v U'.heap L ∧ FrameEnd U o U' L room_1.cells room_1.slots) := by
  refine MetFree.of_bodySF (plainFor_of_name pn0) hisR ?_
  intro p e s m args below meth c s₁ Bd hml0 hP hK
  obtain ⟨rfl, hZ, hh⟩ := hP
  have hx := Bd.exec
  have hby := Bd.bytes
  have hml : c.maxLocals = 10 := hml0
  have hown : s.vm.findClass "com/example/stochastic_model_checker/stochasticmodelchecker/checking/SolutionMidpointPinLaw" = some m.cls := findClass_of_methodNamed Bd.named
  have hnm := (name_of_methodNamed Bd.named Bd.method).1
  have X0 : Stand p l e room_1 s m #[(.int p1), (.int p2), (.int p3)] below meth c s₁ [] 0 0 := Stand.of_body Bd
  have e0 : s₁.heap = h0 := by rw [← hh, Bd.state]; rfl
  have N0 := Fr.nil n0
  have pre0 : ∀ t, Steps p.tables e below (s₁.setTop (mkF m 0 #[.val (.int p1), .val (.int p2), .val (.int p3), .unset, .unset, .unset, .unset, .unset, .unset, .unset] [])) t → Steps p.tables e below (s₁.setTop (entryFrame m #[(.int p1), (.int p2), (.int p3)] maxLocals)) t := fun t k => castTop (ef0 m p1 p2 p3) k
  by_cases c0 : (p3 &&& (3 : Int32)) = 0
  · have hA := dcmpV_self (Fl.i2d_fin p1).noNaN .l
    obtain ⟨_, _, ⟨T1, L1, k1, n1⟩, -, X1, ⟨Lc1, hQ1, l1, y1, z1⟩, st1⟩ := Jvm.LawKit.callS X0 hx (y := (⟨"com/example/stochastic_model_checker/stochasticmodelchecker/checking/Solution", "midpoint", "(DD)D"⟩ : MethodName)) hown (mvT hZ (hw _ (List.mem_of_getElem? (i := 1) rfl))) (mvT hZ (hw _ (List.mem_of_getElem? (i := 2) rfl))) (mvT hZ (hw _ (List.mem_of_getElem? (i := 3) rfl))) (mvT hZ (hw _ (List.mem_of_getElem? (i := 4) rfl))) (by decide) (backOf (W := 0) (rm1 l Z a0 hw [] (FP.i2d p1) (FP.i2d p1) (FP.i2d p1) h0 n0 Z0 (Or.inl ⟨hA, rfl⟩)) hZ (hw _ (List.mem_of_getElem? (i := 4) rfl)) (hw _ (List.mem_of_getElem? (i := 3) rfl)) (by decide) (by decide)) (g := (mkF m 21 #[.val (.int p1), .val (.int p2), .val (.int p3), .val (.int (p3 &&& (3 : Int32))), .val (.double (9218868437227405312 : UInt64)), .second, .val (.double (FP.i2d p1)), .second, .unset, .unset] [(.double (FP.i2d p1)), (.double (FP.i2d p1))])) rfl (by rw [hml]; rfl) (argsL := [(.double (FP.i2d p1)), (.double (FP.i2d p1))]) (rest := []) (lenOf pd1 rfl) rfl (by show 2 * 0 + _ ≤ _; exact Nat.le_of_eq rfl) (hb hby at_21) (fun _ _ => ⟨rfl, e0, (by decide : 0 + 0 ≤ _), (by decide : 0 + 0 ≤ _)⟩)
    dsimp only [Pt.U, Pt.locs, Pt.cells, Pt.slots] at X1 l1 y1 z1 st1 hQ1
    subst l1 y1 z1
    obtain ⟨rfl, N1, e1⟩ := hQ1
    have M1 := Fr.app N0 N1
    obtain ⟨fs, hr, hrun, hended, hW, hsame⟩ := X1.leave (v := some (.int (1 : Int32))) (fun h => by rw [Bd.returns] at h; cases h)
    refine ⟨_, _, pre0 _ ?_, hrun, hended, _, _, rfl, ?_, ⟨_, rfl⟩, hW, hsame.mono (by decide) (by decide)⟩
    · show Steps p.tables e below (s₁.setTop (mkF m 0 #[.val (.int p1), .val (.int p2), .val (.int p3), .unset, .unset, .unset, .unset, .unset, .unset, .unset] [])) _
      refine XS.iloadN X0.here hx rfl (hb hby at_0) rfl ?_
      show Steps p.tables e below (s₁.setTop (mkF m 1 #[.val (.int p1), .val (.int p2), .val (.int p3), .unset, .unset, .unset, .unset, .unset, .unset, .unset] [(.int p3)])) _
      refine XS.iconst X0.here hx rfl (hb hby at_1) ?_
      show Steps p.tables e below (s₁.setTop (mkF m 2 #[.val (.int p1), .val (.int p2), .val (.int p3), .unset, .unset, .unset, .unset, .unset, .unset, .unset] [(.int (3 : Int32)), (.int p3)])) _
      refine XS.iand X0.here hx rfl (hb hby at_2) rfl ?_
      show Steps p.tables e below (s₁.setTop (mkF m 3 #[.val (.int p1), .val (.int p2), .val (.int p3), .unset, .unset, .unset, .unset, .unset, .unset, .unset] [(.int (p3 &&& (3 : Int32)))])) _
      refine XS.istoreN X0.here hx rfl (hb hby at_3) rfl (l' := #[.val (.int p1), .val (.int p2), .val (.int p3), .val (.int (p3 &&& (3 : Int32))), .unset, .unset, .unset, .unset, .unset, .unset]) rfl ?_
      show Steps p.tables e below (s₁.setTop (mkF m 4 #[.val (.int p1), .val (.int p2), .val (.int p3), .val (.int (p3 &&& (3 : Int32))), .unset, .unset, .unset, .unset, .unset, .unset] [])) _
      refine X0.ldc2DoubleC hx hown (mvT hZ (hw _ (List.mem_of_getElem? (i := 0) rfl))) (g := (mkF m 4 #[.val (.int p1), .val (.int p2), .val (.int p3), .val (.int (p3 &&& (3 : Int32))), .unset, .unset, .unset, .unset, .unset, .unset] [])) rfl (hb hby at_4) _ ?_
      show Steps p.tables e below (s₁.setTop (mkF m 7 #[.val (.int p1), .val (.int p2), .val (.int p3), .val (.int (p3 &&& (3 : Int32))), .unset, .unset, .unset, .unset, .unset, .unset] [(.double (9218868437227405312 : UInt64))])) _
      refine XS.dstore X0.here hx rfl (hb hby at_7) rfl (l' := #[.val (.int p1), .val (.int p2), .val (.int p3), .val (.int (p3 &&& (3 : Int32))), .val (.double (9218868437227405312 : UInt64)), .second, .unset, .unset, .unset, .unset]) rfl ?_
      show Steps p.tables e below (s₁.setTop (mkF m 9 #[.val (.int p1), .val (.int p2), .val (.int p3), .val (.int (p3 &&& (3 : Int32))), .val (.double (9218868437227405312 : UInt64)), .second, .unset, .unset, .unset, .unset] [])) _
      refine XS.iloadN X0.here hx rfl (hb hby at_9) rfl ?_
      show Steps p.tables e below (s₁.setTop (mkF m 10 #[.val (.int p1), .val (.int p2), .val (.int p3), .val (.int (p3 &&& (3 : Int32))), .val (.double (9218868437227405312 : UInt64)), .second, .unset, .unset, .unset, .unset] [(.int (p3 &&& (3 : Int32)))])) _
      refine XS.ifNo X0.here hx rfl (hb hby at_10) rfl ((if0 _ _).trans (teq c0).2) ?_
      show Steps p.tables e below (s₁.setTop (mkF m 13 #[.val (.int p1), .val (.int p2), .val (.int p3), .val (.int (p3 &&& (3 : Int32))), .val (.double (9218868437227405312 : UInt64)), .second, .unset, .unset, .unset, .unset] [])) _
      refine XS.iloadN X0.here hx rfl (hb hby at_13) rfl ?_
      show Steps p.tables e below (s₁.setTop (mkF m 14 #[.val (.int p1), .val (.int p2), .val (.int p3), .val (.int (p3 &&& (3 : Int32))), .val (.double (9218868437227405312 : UInt64)), .second, .unset, .unset, .unset, .unset] [(.int p1)])) _
      refine XS.i2dS X0.here hx rfl (hb hby at_14) rfl rfl ?_
      show Steps p.tables e below (s₁.setTop (mkF m 15 #[.val (.int p1), .val (.int p2), .val (.int p3), .val (.int (p3 &&& (3 : Int32))), .val (.double (9218868437227405312 : UInt64)), .second, .unset, .unset, .unset, .unset] [(.double (FP.i2d p1))])) _
      refine XS.dstore X0.here hx rfl (hb hby at_15) rfl (l' := #[.val (.int p1), .val (.int p2), .val (.int p3), .val (.int (p3 &&& (3 : Int32))), .val (.double (9218868437227405312 : UInt64)), .second, .val (.double (FP.i2d p1)), .second, .unset, .unset]) rfl ?_
      show Steps p.tables e below (s₁.setTop (mkF m 17 #[.val (.int p1), .val (.int p2), .val (.int p3), .val (.int (p3 &&& (3 : Int32))), .val (.double (9218868437227405312 : UInt64)), .second, .val (.double (FP.i2d p1)), .second, .unset, .unset] [])) _
      refine XS.dload X0.here hx rfl (hb hby at_17) rfl ?_
      show Steps p.tables e below (s₁.setTop (mkF m 19 #[.val (.int p1), .val (.int p2), .val (.int p3), .val (.int (p3 &&& (3 : Int32))), .val (.double (9218868437227405312 : UInt64)), .second, .val (.double (FP.i2d p1)), .second, .unset, .unset] [(.double (FP.i2d p1))])) _
      refine XS.dload X0.here hx rfl (hb hby at_19) rfl ?_
      show Steps p.tables e below (s₁.setTop (mkF m 21 #[.val (.int p1), .val (.int p2), .val (.int p3), .val (.int (p3 &&& (3 : Int32))), .val (.double (9218868437227405312 : UInt64)), .second, .val (.double (FP.i2d p1)), .second, .unset, .unset] [(.double (FP.i2d p1)), (.double (FP.i2d p1))])) _
      refine st1 _ ?_
      show Steps p.tables e below (T1.setTop (mkF m 24 #[.val (.int p1), .val (.int p2), .val (.int p3), .val (.int (p3 &&& (3 : Int32))), .val (.double (9218868437227405312 : UInt64)), .second, .val (.double (FP.i2d p1)), .second, .unset, .unset] [(.double (FP.i2d p1))])) _
      refine XS.dload X1.here hx rfl (hb hby at_24) rfl ?_
      show Steps p.tables e below (T1.setTop (mkF m 26 #[.val (.int p1), .val (.int p2), .val (.int p3), .val (.int (p3 &&& (3 : Int32))), .val (.double (9218868437227405312 : UInt64)), .second, .val (.double (FP.i2d p1)), .second, .unset, .unset] [(.double (FP.i2d p1)), (.double (FP.i2d p1))])) _
      refine XS.dcmpS X1.here hx rfl (hb hby at_26) rfl hA ?_
      show Steps p.tables e below (T1.setTop (mkF m 27 #[.val (.int p1), .val (.int p2), .val (.int p3), .val (.int (p3 &&& (3 : Int32))), .val (.double (9218868437227405312 : UInt64)), .second, .val (.double (FP.i2d p1)), .second, .unset, .unset] [(.int (0 : Int32))])) _
      refine XS.ifNo X1.here hx rfl (hb hby at_27) rfl (by decide) ?_
      show Steps p.tables e below (T1.setTop (mkF m 30 #[.val (.int p1), .val (.int p2), .val (.int p3), .val (.int (p3 &&& (3 : Int32))), .val (.double (9218868437227405312 : UInt64)), .second, .val (.double (FP.i2d p1)), .second, .unset, .unset] [])) _
      refine XS.iconst X1.here hx rfl (hb hby at_30) ?_
      show Steps p.tables e below (T1.setTop (mkF m 31 #[.val (.int p1), .val (.int p2), .val (.int p3), .val (.int (p3 &&& (3 : Int32))), .val (.double (9218868437227405312 : UInt64)), .second, .val (.double (FP.i2d p1)), .second, .unset, .unset] [(.int (1 : Int32))])) _
      refine XS.goto X1.here hx rfl (pc0 := 31) (pc' := 35) rfl (hb hby at_31) (by decide) (by decide) ?_
      show Steps p.tables e below (T1.setTop (mkF m 35 #[.val (.int p1), .val (.int p2), .val (.int p3), .val (.int (p3 &&& (3 : Int32))), .val (.double (9218868437227405312 : UInt64)), .second, .val (.double (FP.i2d p1)), .second, .unset, .unset] [(.int (1 : Int32))])) _
      exact retN X1 hx (t := .boolean) Bd.returns (by simp) (hb hby at_35) hr
    · show Q0 Z p1 p2 p3 h0 n0 _ T1.heap _
      exact ⟨rfl, M1⟩
  by_cases c1 : (p3 &&& (3 : Int32)) = 1
  · have hA := dcmpV_self (Fl.i2d_fin p1).noNaN .l
    have hB : ¬ cmpValue (FP.dcmp (FP.i2d p1) (9218868437227405312 : UInt64)) .l = 0 := by rw [dcmp_pinf (Fl.i2d_fin p1)]; decide
    have hC : cmpValue (FP.dcmp (9218868437227405312 : UInt64) (9218868437227405312 : UInt64)) .l = 0 := by decide +kernel
    obtain ⟨_, _, ⟨T1, L1, k1, n1⟩, -, X1, ⟨Lc1, hQ1, l1, y1, z1⟩, st1⟩ := Jvm.LawKit.callS X0 hx (y := (⟨"com/example/stochastic_model_checker/stochasticmodelchecker/checking/Solution", "midpoint", "(DD)D"⟩ : MethodName)) hown (mvT hZ (hw _ (List.mem_of_getElem? (i := 1) rfl))) (mvT hZ (hw _ (List.mem_of_getElem? (i := 2) rfl))) (mvT hZ (hw _ (List.mem_of_getElem? (i := 3) rfl))) (mvT hZ (hw _ (List.mem_of_getElem? (i := 4) rfl))) (by decide) (backOf (W := 0) (rm1 l Z a0 hw [] (FP.i2d p1) (9218868437227405312 : UInt64) (FP.i2d p1) h0 n0 Z0 (Or.inr (Or.inl ⟨hB, hC, rfl⟩))) hZ (hw _ (List.mem_of_getElem? (i := 4) rfl)) (hw _ (List.mem_of_getElem? (i := 3) rfl)) (by decide) (by decide)) (g := (mkF m 45 #[.val (.int p1), .val (.int p2), .val (.int p3), .val (.int (p3 &&& (3 : Int32))), .val (.double (9218868437227405312 : UInt64)), .second, .unset, .unset, .unset, .unset] [(.double (9218868437227405312 : UInt64)), (.double (FP.i2d p1))])) rfl (by rw [hml]; rfl) (argsL := [(.double (FP.i2d p1)), (.double (9218868437227405312 : UInt64))]) (rest := []) (lenOf pd1 rfl) rfl (by show 2 * 0 + _ ≤ _; exact Nat.le_of_eq rfl) (hb hby at_45) (fun _ _ => ⟨rfl, e0, (by decide : 0 + 0 ≤ _), (by decide : 0 + 0 ≤ _)⟩)
    dsimp only [Pt.U, Pt.locs, Pt.cells, Pt.slots] at X1 l1 y1 z1 st1 hQ1
    subst l1 y1 z1
    obtain ⟨rfl, N1, e1⟩ := hQ1
    have M1 := Fr.app N0 N1
    obtain ⟨fs, hr, hrun, hended, hW, hsame⟩ := X1.leave (v := some (.int (1 : Int32))) (fun h => by rw [Bd.returns] at h; cases h)
    refine ⟨_, _, pre0 _ ?_, hrun, hended, _, _, rfl, ?_, ⟨_, rfl⟩, hW, hsame.mono (by decide) (by decide)⟩
    · show Steps p.tables e below (s₁.setTop (mkF m 0 #[.val (.int p1), .val (.int p2), .val (.int p3), .unset, .unset, .unset, .unset, .unset, .unset, .unset] [])) _
      refine XS.iloadN X0.here hx rfl (hb hby at_0) rfl ?_
      show Steps p.tables e below (s₁.setTop (mkF m 1 #[.val (.int p1), .val (.int p2), .val (.int p3), .unset, .unset, .unset, .unset, .unset, .unset, .unset] [(.int p3)])) _
      refine XS.iconst X0.here hx rfl (hb hby at_1) ?_
      show Steps p.tables e below (s₁.setTop (mkF m 2 #[.val (.int p1), .val (.int p2), .val (.int p3), .unset, .unset, .unset, .unset, .unset, .unset, .unset] [(.int (3 : Int32)), (.int p3)])) _
      refine XS.iand X0.here hx rfl (hb hby at_2) rfl ?_
      show Steps p.tables e below (s₁.setTop (mkF m 3 #[.val (.int p1), .val (.int p2), .val (.int p3), .unset, .unset, .unset, .unset, .unset, .unset, .unset] [(.int (p3 &&& (3 : Int32)))])) _
      refine XS.istoreN X0.here hx rfl (hb hby at_3) rfl (l' := #[.val (.int p1), .val (.int p2), .val (.int p3), .val (.int (p3 &&& (3 : Int32))), .unset, .unset, .unset, .unset, .unset, .unset]) rfl ?_
      show Steps p.tables e below (s₁.setTop (mkF m 4 #[.val (.int p1), .val (.int p2), .val (.int p3), .val (.int (p3 &&& (3 : Int32))), .unset, .unset, .unset, .unset, .unset, .unset] [])) _
      refine X0.ldc2DoubleC hx hown (mvT hZ (hw _ (List.mem_of_getElem? (i := 0) rfl))) (g := (mkF m 4 #[.val (.int p1), .val (.int p2), .val (.int p3), .val (.int (p3 &&& (3 : Int32))), .unset, .unset, .unset, .unset, .unset, .unset] [])) rfl (hb hby at_4) _ ?_
      show Steps p.tables e below (s₁.setTop (mkF m 7 #[.val (.int p1), .val (.int p2), .val (.int p3), .val (.int (p3 &&& (3 : Int32))), .unset, .unset, .unset, .unset, .unset, .unset] [(.double (9218868437227405312 : UInt64))])) _
      refine XS.dstore X0.here hx rfl (hb hby at_7) rfl (l' := #[.val (.int p1), .val (.int p2), .val (.int p3), .val (.int (p3 &&& (3 : Int32))), .val (.double (9218868437227405312 : UInt64)), .second, .unset, .unset, .unset, .unset]) rfl ?_
      show Steps p.tables e below (s₁.setTop (mkF m 9 #[.val (.int p1), .val (.int p2), .val (.int p3), .val (.int (p3 &&& (3 : Int32))), .val (.double (9218868437227405312 : UInt64)), .second, .unset, .unset, .unset, .unset] [])) _
      refine XS.iloadN X0.here hx rfl (hb hby at_9) rfl ?_
      show Steps p.tables e below (s₁.setTop (mkF m 10 #[.val (.int p1), .val (.int p2), .val (.int p3), .val (.int (p3 &&& (3 : Int32))), .val (.double (9218868437227405312 : UInt64)), .second, .unset, .unset, .unset, .unset] [(.int (p3 &&& (3 : Int32)))])) _
      refine XS.ifYes X0.here hx rfl (pc0 := 10) (pc' := 36) rfl (hb hby at_10) rfl ((if0 _ _).trans (feq c0).2) (by decide) (by decide) ?_
      show Steps p.tables e below (s₁.setTop (mkF m 36 #[.val (.int p1), .val (.int p2), .val (.int p3), .val (.int (p3 &&& (3 : Int32))), .val (.double (9218868437227405312 : UInt64)), .second, .unset, .unset, .unset, .unset] [])) _
      refine XS.iloadN X0.here hx rfl (hb hby at_36) rfl ?_
      show Steps p.tables e below (s₁.setTop (mkF m 37 #[.val (.int p1), .val (.int p2), .val (.int p3), .val (.int (p3 &&& (3 : Int32))), .val (.double (9218868437227405312 : UInt64)), .second, .unset, .unset, .unset, .unset] [(.int (p3 &&& (3 : Int32)))])) _
      refine XS.iconst X0.here hx rfl (hb hby at_37) ?_
      show Steps p.tables e below (s₁.setTop (mkF m 38 #[.val (.int p1), .val (.int p2), .val (.int p3), .val (.int (p3 &&& (3 : Int32))), .val (.double (9218868437227405312 : UInt64)), .second, .unset, .unset, .unset, .unset] [(.int (1 : Int32)), (.int (p3 &&& (3 : Int32)))])) _
      refine XS.icmpNo X0.here hx rfl (hb hby at_38) rfl (teq c1).2 ?_
      show Steps p.tables e below (s₁.setTop (mkF m 41 #[.val (.int p1), .val (.int p2), .val (.int p3), .val (.int (p3 &&& (3 : Int32))), .val (.double (9218868437227405312 : UInt64)), .second, .unset, .unset, .unset, .unset] [])) _
      refine XS.iloadN X0.here hx rfl (hb hby at_41) rfl ?_
      show Steps p.tables e below (s₁.setTop (mkF m 42 #[.val (.int p1), .val (.int p2), .val (.int p3), .val (.int (p3 &&& (3 : Int32))), .val (.double (9218868437227405312 : UInt64)), .second, .unset, .unset, .unset, .unset] [(.int p1)])) _
      refine XS.i2dS X0.here hx rfl (hb hby at_42) rfl rfl ?_
      show Steps p.tables e below (s₁.setTop (mkF m 43 #[.val (.int p1), .val (.int p2), .val (.int p3), .val (.int (p3 &&& (3 : Int32))), .val (.double (9218868437227405312 : UInt64)), .second, .unset, .unset, .unset, .unset] [(.double (FP.i2d p1))])) _
      refine XS.dload X0.here hx rfl (hb hby at_43) rfl ?_
      show Steps p.tables e below (s₁.setTop (mkF m 45 #[.val (.int p1), .val (.int p2), .val (.int p3), .val (.int (p3 &&& (3 : Int32))), .val (.double (9218868437227405312 : UInt64)), .second, .unset, .unset, .unset, .unset] [(.double (9218868437227405312 : UInt64)), (.double (FP.i2d p1))])) _
      refine st1 _ ?_
      show Steps p.tables e below (T1.setTop (mkF m 48 #[.val (.int p1), .val (.int p2), .val (.int p3), .val (.int (p3 &&& (3 : Int32))), .val (.double (9218868437227405312 : UInt64)), .second, .unset, .unset, .unset, .unset] [(.double (FP.i2d p1))])) _
      refine XS.iloadN X1.here hx rfl (hb hby at_48) rfl ?_
      show Steps p.tables e below (T1.setTop (mkF m 49 #[.val (.int p1), .val (.int p2), .val (.int p3), .val (.int (p3 &&& (3 : Int32))), .val (.double (9218868437227405312 : UInt64)), .second, .unset, .unset, .unset, .unset] [(.int p1), (.double (FP.i2d p1))])) _
      refine XS.i2dS X1.here hx rfl (hb hby at_49) rfl rfl ?_
      show Steps p.tables e below (T1.setTop (mkF m 50 #[.val (.int p1), .val (.int p2), .val (.int p3), .val (.int (p3 &&& (3 : Int32))), .val (.double (9218868437227405312 : UInt64)), .second, .unset, .unset, .unset, .unset] [(.double (FP.i2d p1)), (.double (FP.i2d p1))])) _
      refine XS.dcmpS X1.here hx rfl (hb hby at_50) rfl hA ?_
      show Steps p.tables e below (T1.setTop (mkF m 51 #[.val (.int p1), .val (.int p2), .val (.int p3), .val (.int (p3 &&& (3 : Int32))), .val (.double (9218868437227405312 : UInt64)), .second, .unset, .unset, .unset, .unset] [(.int (0 : Int32))])) _
      refine XS.ifNo X1.here hx rfl (hb hby at_51) rfl (by decide) ?_
      show Steps p.tables e below (T1.setTop (mkF m 54 #[.val (.int p1), .val (.int p2), .val (.int p3), .val (.int (p3 &&& (3 : Int32))), .val (.double (9218868437227405312 : UInt64)), .second, .unset, .unset, .unset, .unset] [])) _
      refine XS.iconst X1.here hx rfl (hb hby at_54) ?_
      show Steps p.tables e below (T1.setTop (mkF m 55 #[.val (.int p1), .val (.int p2), .val (.int p3), .val (.int (p3 &&& (3 : Int32))), .val (.double (9218868437227405312 : UInt64)), .second, .unset, .unset, .unset, .unset] [(.int (1 : Int32))])) _
      refine XS.goto X1.here hx rfl (pc0 := 55) (pc' := 59) rfl (hb hby at_55) (by decide) (by decide) ?_
      show Steps p.tables e below (T1.setTop (mkF m 59 #[.val (.int p1), .val (.int p2), .val (.int p3), .val (.int (p3 &&& (3 : Int32))), .val (.double (9218868437227405312 : UInt64)), .second, .unset, .unset, .unset, .unset] [(.int (1 : Int32))])) _
      exact retN X1 hx (t := .boolean) Bd.returns (by simp) (hb hby at_59) hr
    · show Q0 Z p1 p2 p3 h0 n0 _ T1.heap _
      exact ⟨rfl, M1⟩
  by_cases c2 : (p3 &&& (3 : Int32)) = 2
  · have hC : cmpValue (FP.dcmp (9218868437227405312 : UInt64) (9218868437227405312 : UInt64)) .l = 0 := by decide +kernel
    obtain ⟨_, _, ⟨T1, L1, k1, n1⟩, -, X1, ⟨Lc1, hQ1, l1, y1, z1⟩, st1⟩ := Jvm.LawKit.callS X0 hx (y := (⟨"com/example/stochastic_model_checker/stochasticmodelchecker/checking/Solution", "midpoint", "(DD)D"⟩ : MethodName)) hown (mvT hZ (hw _ (List.mem_of_getElem? (i := 1) rfl))) (mvT hZ (hw _ (List.mem_of_getElem? (i := 2) rfl))) (mvT hZ (hw _ (List.mem_of_getElem? (i := 3) rfl))) (mvT hZ (hw _ (List.mem_of_getElem? (i := 4) rfl))) (by decide) (backOf (W := 0) (rm1 l Z a0 hw [] (9218868437227405312 : UInt64) (9218868437227405312 : UInt64) (9218868437227405312 : UInt64) h0 n0 Z0 (Or.inl ⟨hC, rfl⟩)) hZ (hw _ (List.mem_of_getElem? (i := 4) rfl)) (hw _ (List.mem_of_getElem? (i := 3) rfl)) (by decide) (by decide)) (g := (mkF m 69 #[.val (.int p1), .val (.int p2), .val (.int p3), .val (.int (p3 &&& (3 : Int32))), .val (.double (9218868437227405312 : UInt64)), .second, .unset, .unset, .unset, .unset] [(.double (9218868437227405312 : UInt64)), (.double (9218868437227405312 : UInt64))])) rfl (by rw [hml]; rfl) (argsL := [(.double (9218868437227405312 : UInt64)), (.double (9218868437227405312 : UInt64))]) (rest := []) (lenOf pd1 rfl) rfl (by show 2 * 0 + _ ≤ _; exact Nat.le_of_eq rfl) (hb hby at_69) (fun _ _ => ⟨rfl, e0, (by decide : 0 + 0 ≤ _), (by decide : 0 + 0 ≤ _)⟩)
    dsimp only [Pt.U, Pt.locs, Pt.cells, Pt.slots] at X1 l1 y1 z1 st1 hQ1
    subst l1 y1 z1
    obtain ⟨rfl, N1, e1⟩ := hQ1
    have M1 := Fr.app N0 N1
    obtain ⟨fs, hr, hrun, hended, hW, hsame⟩ := X1.leave (v := some (.int (1 : Int32))) (fun h => by rw [Bd.returns] at h; cases h)
    refine ⟨_, _, pre0 _ ?_, hrun, hended, _, _, rfl, ?_, ⟨_, rfl⟩, hW, hsame.mono (by decide) (by decide)⟩
    · show Steps p.tables e below (s₁.setTop (mkF m 0 #[.val (.int p1), .val (.int p2), .val (.int p3), .unset, .unset, .unset, .unset, .unset, .unset, .unset] [])) _
      refine XS.iloadN X0.here hx rfl (hb hby at_0) rfl ?_
      show Steps p.tables e below (s₁.setTop (mkF m 1 #[.val (.int p1), .val (.int p2), .val (.int p3), .unset, .unset, .unset, .unset, .unset, .unset, .unset] [(.int p3)])) _
      refine XS.iconst X0.here hx rfl (hb hby at_1) ?_
      show Steps p.tables e below (s₁.setTop (mkF m 2 #[.val (.int p1), .val (.int p2), .val (.int p3), .unset, .unset, .unset, .unset, .unset, .unset, .unset] [(.int (3 : Int32)), (.int p3)])) _
      refine XS.iand X0.here hx rfl (hb hby at_2) rfl ?_
      show Steps p.tables e below (s₁.setTop (mkF m 3 #[.val (.int p1), .val (.int p2), .val (.int p3), .unset, .unset, .unset, .unset, .unset, .unset, .unset] [(.int (p3 &&& (3 : Int32)))])) _
      refine XS.istoreN X0.here hx rfl (hb hby at_3) rfl (l' := #[.val (.int p1), .val (.int p2), .val (.int p3), .val (.int (p3 &&& (3 : Int32))), .unset, .unset, .unset, .unset, .unset, .unset]) rfl ?_
      show Steps p.tables e below (s₁.setTop (mkF m 4 #[.val (.int p1), .val (.int p2), .val (.int p3), .val (.int (p3 &&& (3 : Int32))), .unset, .unset, .unset, .unset, .unset, .unset] [])) _
      refine X0.ldc2DoubleC hx hown (mvT hZ (hw _ (List.mem_of_getElem? (i := 0) rfl))) (g := (mkF m 4 #[.val (.int p1), .val (.int p2), .val (.int p3), .val (.int (p3 &&& (3 : Int32))), .unset, .unset, .unset, .unset, .unset, .unset] [])) rfl (hb hby at_4) _ ?_
      show Steps p.tables e below (s₁.setTop (mkF m 7 #[.val (.int p1), .val (.int p2), .val (.int p3), .val (.int (p3 &&& (3 : Int32))), .unset, .unset, .unset, .unset, .unset, .unset] [(.double (9218868437227405312 : UInt64))])) _
      refine XS.dstore X0.here hx rfl (hb hby at_7) rfl (l' := #[.val (.int p1), .val (.int p2), .val (.int p3), .val (.int (p3 &&& (3 : Int32))), .val (.double (9218868437227405312 : UInt64)), .second, .unset, .unset, .unset, .unset]) rfl ?_
      show Steps p.tables e below (s₁.setTop (mkF m 9 #[.val (.int p1), .val (.int p2), .val (.int p3), .val (.int (p3 &&& (3 : Int32))), .val (.double (9218868437227405312 : UInt64)), .second, .unset, .unset, .unset, .unset] [])) _
      refine XS.iloadN X0.here hx rfl (hb hby at_9) rfl ?_
      show Steps p.tables e below (s₁.setTop (mkF m 10 #[.val (.int p1), .val (.int p2), .val (.int p3), .val (.int (p3 &&& (3 : Int32))), .val (.double (9218868437227405312 : UInt64)), .second, .unset, .unset, .unset, .unset] [(.int (p3 &&& (3 : Int32)))])) _
      refine XS.ifYes X0.here hx rfl (pc0 := 10) (pc' := 36) rfl (hb hby at_10) rfl ((if0 _ _).trans (feq c0).2) (by decide) (by decide) ?_
      show Steps p.tables e below (s₁.setTop (mkF m 36 #[.val (.int p1), .val (.int p2), .val (.int p3), .val (.int (p3 &&& (3 : Int32))), .val (.double (9218868437227405312 : UInt64)), .second, .unset, .unset, .unset, .unset] [])) _
      refine XS.iloadN X0.here hx rfl (hb hby at_36) rfl ?_
      show Steps p.tables e below (s₁.setTop (mkF m 37 #[.val (.int p1), .val (.int p2), .val (.int p3), .val (.int (p3 &&& (3 : Int32))), .val (.double (9218868437227405312 : UInt64)), .second, .unset, .unset, .unset, .unset] [(.int (p3 &&& (3 : Int32)))])) _
      refine XS.iconst X0.here hx rfl (hb hby at_37) ?_
      show Steps p.tables e below (s₁.setTop (mkF m 38 #[.val (.int p1), .val (.int p2), .val (.int p3), .val (.int (p3 &&& (3 : Int32))), .val (.double (9218868437227405312 : UInt64)), .second, .unset, .unset, .unset, .unset] [(.int (1 : Int32)), (.int (p3 &&& (3 : Int32)))])) _
      refine XS.icmpYes X0.here hx rfl (pc0 := 38) (pc' := 60) rfl (hb hby at_38) rfl (feq c1).2 (by decide) (by decide) ?_
      show Steps p.tables e below (s₁.setTop (mkF m 60 #[.val (.int p1), .val (.int p2), .val (.int p3), .val (.int (p3 &&& (3 : Int32))), .val (.double (9218868437227405312 : UInt64)), .second, .unset, .unset, .unset, .unset] [])) _
      refine XS.iloadN X0.here hx rfl (hb hby at_60) rfl ?_
      show Steps p.tables e below (s₁.setTop (mkF m 61 #[.val (.int p1), .val (.int p2), .val (.int p3), .val (.int (p3 &&& (3 : Int32))), .val (.double (9218868437227405312 : UInt64)), .second, .unset, .unset, .unset, .unset] [(.int (p3 &&& (3 : Int32)))])) _
      refine XS.iconst X0.here hx rfl (hb hby at_61) ?_
      show Steps p.tables e below (s₁.setTop (mkF m 62 #[.val (.int p1), .val (.int p2), .val (.int p3), .val (.int (p3 &&& (3 : Int32))), .val (.double (9218868437227405312 : UInt64)), .second, .unset, .unset, .unset, .unset] [(.int (2 : Int32)), (.int (p3 &&& (3 : Int32)))])) _
      refine XS.icmpNo X0.here hx rfl (hb hby at_62) rfl (teq c2).2 ?_
      show Steps p.tables e below (s₁.setTop (mkF m 65 #[.val (.int p1), .val (.int p2), .val (.int p3), .val (.int (p3 &&& (3 : Int32))), .val (.double (9218868437227405312 : UInt64)), .second, .unset, .unset, .unset, .unset] [])) _
      refine XS.dload X0.here hx rfl (hb hby at_65) rfl ?_
      show Steps p.tables e below (s₁.setTop (mkF m 67 #[.val (.int p1), .val (.int p2), .val (.int p3), .val (.int (p3 &&& (3 : Int32))), .val (.double (9218868437227405312 : UInt64)), .second, .unset, .unset, .unset, .unset] [(.double (9218868437227405312 : UInt64))])) _
      refine XS.dload X0.here hx rfl (hb hby at_67) rfl ?_
      show Steps p.tables e below (s₁.setTop (mkF m 69 #[.val (.int p1), .val (.int p2), .val (.int p3), .val (.int (p3 &&& (3 : Int32))), .val (.double (9218868437227405312 : UInt64)), .second, .unset, .unset, .unset, .unset] [(.double (9218868437227405312 : UInt64)), (.double (9218868437227405312 : UInt64))])) _
      refine st1 _ ?_
      show Steps p.tables e below (T1.setTop (mkF m 72 #[.val (.int p1), .val (.int p2), .val (.int p3), .val (.int (p3 &&& (3 : Int32))), .val (.double (9218868437227405312 : UInt64)), .second, .unset, .unset, .unset, .unset] [(.double (9218868437227405312 : UInt64))])) _
      refine XS.dload X1.here hx rfl (hb hby at_72) rfl ?_
      show Steps p.tables e below (T1.setTop (mkF m 74 #[.val (.int p1), .val (.int p2), .val (.int p3), .val (.int (p3 &&& (3 : Int32))), .val (.double (9218868437227405312 : UInt64)), .second, .unset, .unset, .unset, .unset] [(.double (9218868437227405312 : UInt64)), (.double (9218868437227405312 : UInt64))])) _
      refine XS.dcmpS X1.here hx rfl (hb hby at_74) rfl hC ?_
      show Steps p.tables e below (T1.setTop (mkF m 75 #[.val (.int p1), .val (.int p2), .val (.int p3), .val (.int (p3 &&& (3 : Int32))), .val (.double (9218868437227405312 : UInt64)), .second, .unset, .unset, .unset, .unset] [(.int (0 : Int32))])) _
      refine XS.ifNo X1.here hx rfl (hb hby at_75) rfl (by decide) ?_
      show Steps p.tables e below (T1.setTop (mkF m 78 #[.val (.int p1), .val (.int p2), .val (.int p3), .val (.int (p3 &&& (3 : Int32))), .val (.double (9218868437227405312 : UInt64)), .second, .unset, .unset, .unset, .unset] [])) _
      refine XS.iconst X1.here hx rfl (hb hby at_78) ?_
      show Steps p.tables e below (T1.setTop (mkF m 79 #[.val (.int p1), .val (.int p2), .val (.int p3), .val (.int (p3 &&& (3 : Int32))), .val (.double (9218868437227405312 : UInt64)), .second, .unset, .unset, .unset, .unset] [(.int (1 : Int32))])) _
      refine XS.goto X1.here hx rfl (pc0 := 79) (pc' := 83) rfl (hb hby at_79) (by decide) (by decide) ?_
      show Steps p.tables e below (T1.setTop (mkF m 83 #[.val (.int p1), .val (.int p2), .val (.int p3), .val (.int (p3 &&& (3 : Int32))), .val (.double (9218868437227405312 : UInt64)), .second, .unset, .unset, .unset, .unset] [(.int (1 : Int32))])) _
      exact retN X1 hx (t := .boolean) Bd.returns (by simp) (hb hby at_83) hr
    · show Q0 Z p1 p2 p3 h0 n0 _ T1.heap _
      exact ⟨rfl, M1⟩
  · obtain ⟨r, hr1, hr2⟩ := own_mid p1 p2
    obtain ⟨_, _, ⟨T1, L1, k1, n1⟩, -, X1, ⟨Lc1, hQ1, l1, y1, z1⟩, st1⟩ := Jvm.LawKit.callS X0 hx (y := (⟨"com/example/stochastic_model_checker/stochasticmodelchecker/checking/Solution", "midpoint", "(DD)D"⟩ : MethodName)) hown (mvT hZ (hw _ (List.mem_of_getElem? (i := 1) rfl))) (mvT hZ (hw _ (List.mem_of_getElem? (i := 2) rfl))) (mvT hZ (hw _ (List.mem_of_getElem? (i := 3) rfl))) (mvT hZ (hw _ (List.mem_of_getElem? (i := 4) rfl))) (by decide) (backOf (W := 0) (rm1 l Z a0 hw [] (FP.i2d p1) (FP.i2d p2) r h0 n0 Z0 hr1) hZ (hw _ (List.mem_of_getElem? (i := 4) rfl)) (hw _ (List.mem_of_getElem? (i := 3) rfl)) (by decide) (by decide)) (g := (mkF m 104 #[.val (.int p1), .val (.int p2), .val (.int p3), .val (.int (p3 &&& (3 : Int32))), .val (.double (9218868437227405312 : UInt64)), .second, .val (.long ((p1.toInt64) + (p2.toInt64))), .second, .val (.double (FP.ddiv (FP.l2d ((p1.toInt64) + (p2.toInt64))) (4611686018427387904 : UInt64))), .second] [(.double (FP.i2d p2)), (.double (FP.i2d p1))])) rfl (by rw [hml]; rfl) (argsL := [(.double (FP.i2d p1)), (.double (FP.i2d p2))]) (rest := []) (lenOf pd1 rfl) rfl (by show 2 * 0 + _ ≤ _; exact Nat.le_of_eq rfl) (hb hby at_104) (fun _ _ => ⟨rfl, e0, (by decide : 0 + 0 ≤ _), (by decide : 0 + 0 ≤ _)⟩)
    dsimp only [Pt.U, Pt.locs, Pt.cells, Pt.slots] at X1 l1 y1 z1 st1 hQ1
    subst l1 y1 z1
    obtain ⟨rfl, N1, e1⟩ := hQ1
    have M1 := Fr.app N0 N1
    obtain ⟨fs, hr, hrun, hended, hW, hsame⟩ := X1.leave (v := some (.int (1 : Int32))) (fun h => by rw [Bd.returns] at h; cases h)
    refine ⟨_, _, pre0 _ ?_, hrun, hended, _, _, rfl, ?_, ⟨_, rfl⟩, hW, hsame.mono (by decide) (by decide)⟩
    · show Steps p.tables e below (s₁.setTop (mkF m 0 #[.val (.int p1), .val (.int p2), .val (.int p3), .unset, .unset, .unset, .unset, .unset, .unset, .unset] [])) _
      refine XS.iloadN X0.here hx rfl (hb hby at_0) rfl ?_
      show Steps p.tables e below (s₁.setTop (mkF m 1 #[.val (.int p1), .val (.int p2), .val (.int p3), .unset, .unset, .unset, .unset, .unset, .unset, .unset] [(.int p3)])) _
      refine XS.iconst X0.here hx rfl (hb hby at_1) ?_
      show Steps p.tables e below (s₁.setTop (mkF m 2 #[.val (.int p1), .val (.int p2), .val (.int p3), .unset, .unset, .unset, .unset, .unset, .unset, .unset] [(.int (3 : Int32)), (.int p3)])) _
      refine XS.iand X0.here hx rfl (hb hby at_2) rfl ?_
      show Steps p.tables e below (s₁.setTop (mkF m 3 #[.val (.int p1), .val (.int p2), .val (.int p3), .unset, .unset, .unset, .unset, .unset, .unset, .unset] [(.int (p3 &&& (3 : Int32)))])) _
      refine XS.istoreN X0.here hx rfl (hb hby at_3) rfl (l' := #[.val (.int p1), .val (.int p2), .val (.int p3), .val (.int (p3 &&& (3 : Int32))), .unset, .unset, .unset, .unset, .unset, .unset]) rfl ?_
      show Steps p.tables e below (s₁.setTop (mkF m 4 #[.val (.int p1), .val (.int p2), .val (.int p3), .val (.int (p3 &&& (3 : Int32))), .unset, .unset, .unset, .unset, .unset, .unset] [])) _
      refine X0.ldc2DoubleC hx hown (mvT hZ (hw _ (List.mem_of_getElem? (i := 0) rfl))) (g := (mkF m 4 #[.val (.int p1), .val (.int p2), .val (.int p3), .val (.int (p3 &&& (3 : Int32))), .unset, .unset, .unset, .unset, .unset, .unset] [])) rfl (hb hby at_4) _ ?_
      show Steps p.tables e below (s₁.setTop (mkF m 7 #[.val (.int p1), .val (.int p2), .val (.int p3), .val (.int (p3 &&& (3 : Int32))), .unset, .unset, .unset, .unset, .unset, .unset] [(.double (9218868437227405312 : UInt64))])) _
      refine XS.dstore X0.here hx rfl (hb hby at_7) rfl (l' := #[.val (.int p1), .val (.int p2), .val (.int p3), .val (.int (p3 &&& (3 : Int32))), .val (.double (9218868437227405312 : UInt64)), .second, .unset, .unset, .unset, .unset]) rfl ?_
      show Steps p.tables e below (s₁.setTop (mkF m 9 #[.val (.int p1), .val (.int p2), .val (.int p3), .val (.int (p3 &&& (3 : Int32))), .val (.double (9218868437227405312 : UInt64)), .second, .unset, .unset, .unset, .unset] [])) _
      refine XS.iloadN X0.here hx rfl (hb hby at_9) rfl ?_
      show Steps p.tables e below (s₁.setTop (mkF m 10 #[.val (.int p1), .val (.int p2), .val (.int p3), .val (.int (p3 &&& (3 : Int32))), .val (.double (9218868437227405312 : UInt64)), .second, .unset, .unset, .unset, .unset] [(.int (p3 &&& (3 : Int32)))])) _
      refine XS.ifYes X0.here hx rfl (pc0 := 10) (pc' := 36) rfl (hb hby at_10) rfl ((if0 _ _).trans (feq c0).2) (by decide) (by decide) ?_
      show Steps p.tables e below (s₁.setTop (mkF m 36 #[.val (.int p1), .val (.int p2), .val (.int p3), .val (.int (p3 &&& (3 : Int32))), .val (.double (9218868437227405312 : UInt64)), .second, .unset, .unset, .unset, .unset] [])) _
      refine XS.iloadN X0.here hx rfl (hb hby at_36) rfl ?_
      show Steps p.tables e below (s₁.setTop (mkF m 37 #[.val (.int p1), .val (.int p2), .val (.int p3), .val (.int (p3 &&& (3 : Int32))), .val (.double (9218868437227405312 : UInt64)), .second, .unset, .unset, .unset, .unset] [(.int (p3 &&& (3 : Int32)))])) _
      refine XS.iconst X0.here hx rfl (hb hby at_37) ?_
      show Steps p.tables e below (s₁.setTop (mkF m 38 #[.val (.int p1), .val (.int p2), .val (.int p3), .val (.int (p3 &&& (3 : Int32))), .val (.double (9218868437227405312 : UInt64)), .second, .unset, .unset, .unset, .unset] [(.int (1 : Int32)), (.int (p3 &&& (3 : Int32)))])) _
      refine XS.icmpYes X0.here hx rfl (pc0 := 38) (pc' := 60) rfl (hb hby at_38) rfl (feq c1).2 (by decide) (by decide) ?_
      show Steps p.tables e below (s₁.setTop (mkF m 60 #[.val (.int p1), .val (.int p2), .val (.int p3), .val (.int (p3 &&& (3 : Int32))), .val (.double (9218868437227405312 : UInt64)), .second, .unset, .unset, .unset, .unset] [])) _
      refine XS.iloadN X0.here hx rfl (hb hby at_60) rfl ?_
      show Steps p.tables e below (s₁.setTop (mkF m 61 #[.val (.int p1), .val (.int p2), .val (.int p3), .val (.int (p3 &&& (3 : Int32))), .val (.double (9218868437227405312 : UInt64)), .second, .unset, .unset, .unset, .unset] [(.int (p3 &&& (3 : Int32)))])) _
      refine XS.iconst X0.here hx rfl (hb hby at_61) ?_
      show Steps p.tables e below (s₁.setTop (mkF m 62 #[.val (.int p1), .val (.int p2), .val (.int p3), .val (.int (p3 &&& (3 : Int32))), .val (.double (9218868437227405312 : UInt64)), .second, .unset, .unset, .unset, .unset] [(.int (2 : Int32)), (.int (p3 &&& (3 : Int32)))])) _
      refine XS.icmpYes X0.here hx rfl (pc0 := 62) (pc' := 84) rfl (hb hby at_62) rfl (feq c2).2 (by decide) (by decide) ?_
      show Steps p.tables e below (s₁.setTop (mkF m 84 #[.val (.int p1), .val (.int p2), .val (.int p3), .val (.int (p3 &&& (3 : Int32))), .val (.double (9218868437227405312 : UInt64)), .second, .unset, .unset, .unset, .unset] [])) _
      refine XS.iloadN X0.here hx rfl (hb hby at_84) rfl ?_
      show Steps p.tables e below (s₁.setTop (mkF m 85 #[.val (.int p1), .val (.int p2), .val (.int p3), .val (.int (p3 &&& (3 : Int32))), .val (.double (9218868437227405312 : UInt64)), .second, .unset, .unset, .unset, .unset] [(.int p1)])) _
      refine XT.i2l X0.here hx rfl (hb hby at_85) rfl ?_
      show Steps p.tables e below (s₁.setTop (mkF m 86 #[.val (.int p1), .val (.int p2), .val (.int p3), .val (.int (p3 &&& (3 : Int32))), .val (.double (9218868437227405312 : UInt64)), .second, .unset, .unset, .unset, .unset] [(.long (p1.toInt64))])) _
      refine XS.iloadN X0.here hx rfl (hb hby at_86) rfl ?_
      show Steps p.tables e below (s₁.setTop (mkF m 87 #[.val (.int p1), .val (.int p2), .val (.int p3), .val (.int (p3 &&& (3 : Int32))), .val (.double (9218868437227405312 : UInt64)), .second, .unset, .unset, .unset, .unset] [(.int p2), (.long (p1.toInt64))])) _
      refine XT.i2l X0.here hx rfl (hb hby at_87) rfl ?_
      show Steps p.tables e below (s₁.setTop (mkF m 88 #[.val (.int p1), .val (.int p2), .val (.int p3), .val (.int (p3 &&& (3 : Int32))), .val (.double (9218868437227405312 : UInt64)), .second, .unset, .unset, .unset, .unset] [(.long (p2.toInt64)), (.long (p1.toInt64))])) _
      refine XT.ladd X0.here hx rfl (hb hby at_88) rfl ?_
      show Steps p.tables e below (s₁.setTop (mkF m 89 #[.val (.int p1), .val (.int p2), .val (.int p3), .val (.int (p3 &&& (3 : Int32))), .val (.double (9218868437227405312 : UInt64)), .second, .unset, .unset, .unset, .unset] [(.long ((p1.toInt64) + (p2.toInt64)))])) _
      refine XT.lstore X0.here hx rfl (hb hby at_89) rfl (l' := #[.val (.int p1), .val (.int p2), .val (.int p3), .val (.int (p3 &&& (3 : Int32))), .val (.double (9218868437227405312 : UInt64)), .second, .val (.long ((p1.toInt64) + (p2.toInt64))), .second, .unset, .unset]) rfl ?_
      show Steps p.tables e below (s₁.setTop (mkF m 91 #[.val (.int p1), .val (.int p2), .val (.int p3), .val (.int (p3 &&& (3 : Int32))), .val (.double (9218868437227405312 : UInt64)), .second, .val (.long ((p1.toInt64) + (p2.toInt64))), .second, .unset, .unset] [])) _
      refine XT.lload X0.here hx rfl (hb hby at_91) rfl ?_
      show Steps p.tables e below (s₁.setTop (mkF m 93 #[.val (.int p1), .val (.int p2), .val (.int p3), .val (.int (p3 &&& (3 : Int32))), .val (.double (9218868437227405312 : UInt64)), .second, .val (.long ((p1.toInt64) + (p2.toInt64))), .second, .unset, .unset] [(.long ((p1.toInt64) + (p2.toInt64)))])) _
      refine XS.l2dS X0.here hx rfl (hb hby at_93) rfl rfl ?_
      show Steps p.tables e below (s₁.setTop (mkF m 94 #[.val (.int p1), .val (.int p2), .val (.int p3), .val (.int (p3 &&& (3 : Int32))), .val (.double (9218868437227405312 : UInt64)), .second, .val (.long ((p1.toInt64) + (p2.toInt64))), .second, .unset, .unset] [(.double (FP.l2d ((p1.toInt64) + (p2.toInt64))))])) _
      refine X0.ldc2DoubleC hx hown (mvT hZ (hw _ (List.mem_of_getElem? (i := 5) rfl))) (g := (mkF m 94 #[.val (.int p1), .val (.int p2), .val (.int p3), .val (.int (p3 &&& (3 : Int32))), .val (.double (9218868437227405312 : UInt64)), .second, .val (.long ((p1.toInt64) + (p2.toInt64))), .second, .unset, .unset] [(.double (FP.l2d ((p1.toInt64) + (p2.toInt64))))])) rfl (hb hby at_94) _ ?_
      show Steps p.tables e below (s₁.setTop (mkF m 97 #[.val (.int p1), .val (.int p2), .val (.int p3), .val (.int (p3 &&& (3 : Int32))), .val (.double (9218868437227405312 : UInt64)), .second, .val (.long ((p1.toInt64) + (p2.toInt64))), .second, .unset, .unset] [(.double (4611686018427387904 : UInt64)), (.double (FP.l2d ((p1.toInt64) + (p2.toInt64))))])) _
      refine XS.ddivS X0.here hx rfl (hb hby at_97) rfl (own_Dy_nn (own_exp p1 p2)) rfl ?_
      show Steps p.tables e below (s₁.setTop (mkF m 98 #[.val (.int p1), .val (.int p2), .val (.int p3), .val (.int (p3 &&& (3 : Int32))), .val (.double (9218868437227405312 : UInt64)), .second, .val (.long ((p1.toInt64) + (p2.toInt64))), .second, .unset, .unset] [(.double (FP.ddiv (FP.l2d ((p1.toInt64) + (p2.toInt64))) (4611686018427387904 : UInt64)))])) _
      refine XS.dstore X0.here hx rfl (hb hby at_98) rfl (l' := #[.val (.int p1), .val (.int p2), .val (.int p3), .val (.int (p3 &&& (3 : Int32))), .val (.double (9218868437227405312 : UInt64)), .second, .val (.long ((p1.toInt64) + (p2.toInt64))), .second, .val (.double (FP.ddiv (FP.l2d ((p1.toInt64) + (p2.toInt64))) (4611686018427387904 : UInt64))), .second]) rfl ?_
      show Steps p.tables e below (s₁.setTop (mkF m 100 #[.val (.int p1), .val (.int p2), .val (.int p3), .val (.int (p3 &&& (3 : Int32))), .val (.double (9218868437227405312 : UInt64)), .second, .val (.long ((p1.toInt64) + (p2.toInt64))), .second, .val (.double (FP.ddiv (FP.l2d ((p1.toInt64) + (p2.toInt64))) (4611686018427387904 : UInt64))), .second] [])) _
      refine XS.iloadN X0.here hx rfl (hb hby at_100) rfl ?_
      show Steps p.tables e below (s₁.setTop (mkF m 101 #[.val (.int p1), .val (.int p2), .val (.int p3), .val (.int (p3 &&& (3 : Int32))), .val (.double (9218868437227405312 : UInt64)), .second, .val (.long ((p1.toInt64) + (p2.toInt64))), .second, .val (.double (FP.ddiv (FP.l2d ((p1.toInt64) + (p2.toInt64))) (4611686018427387904 : UInt64))), .second] [(.int p1)])) _
      refine XS.i2dS X0.here hx rfl (hb hby at_101) rfl rfl ?_
      show Steps p.tables e below (s₁.setTop (mkF m 102 #[.val (.int p1), .val (.int p2), .val (.int p3), .val (.int (p3 &&& (3 : Int32))), .val (.double (9218868437227405312 : UInt64)), .second, .val (.long ((p1.toInt64) + (p2.toInt64))), .second, .val (.double (FP.ddiv (FP.l2d ((p1.toInt64) + (p2.toInt64))) (4611686018427387904 : UInt64))), .second] [(.double (FP.i2d p1))])) _
      refine XS.iloadN X0.here hx rfl (hb hby at_102) rfl ?_
      show Steps p.tables e below (s₁.setTop (mkF m 103 #[.val (.int p1), .val (.int p2), .val (.int p3), .val (.int (p3 &&& (3 : Int32))), .val (.double (9218868437227405312 : UInt64)), .second, .val (.long ((p1.toInt64) + (p2.toInt64))), .second, .val (.double (FP.ddiv (FP.l2d ((p1.toInt64) + (p2.toInt64))) (4611686018427387904 : UInt64))), .second] [(.int p2), (.double (FP.i2d p1))])) _
      refine XS.i2dS X0.here hx rfl (hb hby at_103) rfl rfl ?_
      show Steps p.tables e below (s₁.setTop (mkF m 104 #[.val (.int p1), .val (.int p2), .val (.int p3), .val (.int (p3 &&& (3 : Int32))), .val (.double (9218868437227405312 : UInt64)), .second, .val (.long ((p1.toInt64) + (p2.toInt64))), .second, .val (.double (FP.ddiv (FP.l2d ((p1.toInt64) + (p2.toInt64))) (4611686018427387904 : UInt64))), .second] [(.double (FP.i2d p2)), (.double (FP.i2d p1))])) _
      refine st1 _ ?_
      show Steps p.tables e below (T1.setTop (mkF m 107 #[.val (.int p1), .val (.int p2), .val (.int p3), .val (.int (p3 &&& (3 : Int32))), .val (.double (9218868437227405312 : UInt64)), .second, .val (.long ((p1.toInt64) + (p2.toInt64))), .second, .val (.double (FP.ddiv (FP.l2d ((p1.toInt64) + (p2.toInt64))) (4611686018427387904 : UInt64))), .second] [(.double r)])) _
      refine XS.dload X1.here hx rfl (hb hby at_107) rfl ?_
      show Steps p.tables e below (T1.setTop (mkF m 109 #[.val (.int p1), .val (.int p2), .val (.int p3), .val (.int (p3 &&& (3 : Int32))), .val (.double (9218868437227405312 : UInt64)), .second, .val (.long ((p1.toInt64) + (p2.toInt64))), .second, .val (.double (FP.ddiv (FP.l2d ((p1.toInt64) + (p2.toInt64))) (4611686018427387904 : UInt64))), .second] [(.double (FP.ddiv (FP.l2d ((p1.toInt64) + (p2.toInt64))) (4611686018427387904 : UInt64))), (.double r)])) _
      refine XS.dcmpS X1.here hx rfl (hb hby at_109) rfl hr2 ?_
      show Steps p.tables e below (T1.setTop (mkF m 110 #[.val (.int p1), .val (.int p2), .val (.int p3), .val (.int (p3 &&& (3 : Int32))), .val (.double (9218868437227405312 : UInt64)), .second, .val (.long ((p1.toInt64) + (p2.toInt64))), .second, .val (.double (FP.ddiv (FP.l2d ((p1.toInt64) + (p2.toInt64))) (4611686018427387904 : UInt64))), .second] [(.int (0 : Int32))])) _
      refine XS.ifNo X1.here hx rfl (hb hby at_110) rfl (by decide) ?_
      show Steps p.tables e below (T1.setTop (mkF m 113 #[.val (.int p1), .val (.int p2), .val (.int p3), .val (.int (p3 &&& (3 : Int32))), .val (.double (9218868437227405312 : UInt64)), .second, .val (.long ((p1.toInt64) + (p2.toInt64))), .second, .val (.double (FP.ddiv (FP.l2d ((p1.toInt64) + (p2.toInt64))) (4611686018427387904 : UInt64))), .second] [])) _
      refine XS.iconst X1.here hx rfl (hb hby at_113) ?_
      show Steps p.tables e below (T1.setTop (mkF m 114 #[.val (.int p1), .val (.int p2), .val (.int p3), .val (.int (p3 &&& (3 : Int32))), .val (.double (9218868437227405312 : UInt64)), .second, .val (.long ((p1.toInt64) + (p2.toInt64))), .second, .val (.double (FP.ddiv (FP.l2d ((p1.toInt64) + (p2.toInt64))) (4611686018427387904 : UInt64))), .second] [(.int (1 : Int32))])) _
      refine XS.goto X1.here hx rfl (pc0 := 114) (pc' := 118) rfl (hb hby at_114) (by decide) (by decide) ?_
      show Steps p.tables e below (T1.setTop (mkF m 118 #[.val (.int p1), .val (.int p2), .val (.int p3), .val (.int (p3 &&& (3 : Int32))), .val (.double (9218868437227405312 : UInt64)), .second, .val (.long ((p1.toInt64) + (p2.toInt64))), .second, .val (.double (FP.ddiv (FP.l2d ((p1.toInt64) + (p2.toInt64))) (4611686018427387904 : UInt64))), .second] [(.int (1 : Int32))])) _
      exact retN X1 hx (t := .boolean) Bd.returns (by simp) (hb hby at_118) hr
    · show Q0 Z p1 p2 p3 h0 n0 _ T1.heap _
      exact ⟨rfl, M1⟩
set_option maxRecDepth 65536 in
set_option maxHeartbeats 40000000 in
theorem comes_1 {Post : Tables → Env → Array Value → State → Outcome → State → Prop} (hpost : ∀ tb e args s v u, (limb_1_1.after args s (.returned v) u = true ∧ limb_1_2.after args s (.returned v) u = true ∧ True) → FrameEnd s (.returned v) u (Jvm.fieldLocs frame_1_writes args s ++ Jvm.arrayLocs frame_1_arrays args s ++ Jvm.staticLocs frame_1_statics s) 0 0 → Post tb e args s (.returned v) u) :
    ArmFor flags0 classFile x code maxLocals ret World_1 tables_1 room_1 Calls_1 rest_1 Pre_1 Post := by
  intro l hfl _ _ p e ha hc hk s m args below hf hA hF happ hP
  obtain ⟨hcalls, hrest, hpre⟩ := hP
  obtain ⟨-, -, -, hnamed, -, -, -, hat⟩ := (Spec.applies_iff hf).mp happ
  obtain ⟨hg, hn⟩ := and_e (Cond.before_iff.mp (show (Jvm.Cond.and given_1 narrow_1).before args s = true from hpre))
  obtain ⟨h1, g0⟩ := and_e hg
  obtain ⟨q0, g1⟩ := and_e g0
  obtain ⟨q1, g2⟩ := and_e g1
  have q2 := g2
  obtain ⟨w0, w1, w2, rfl⟩ : ∃ w0 w1 w2 : Value, args = #[w0, w1, w2] := by
    have hs : args.size = 3 := by simpa [Cond.value, given_1] using h1
    obtain ⟨L⟩ := args
    match L, hs with
    | [w0, w1, w2], _ => exact ⟨w0, w1, w2, rfl⟩
  have hw := fun d (hd : d ∈ tables_1) => atoms_spec (ws := Jvm.Cond.code x code maxLocals ret :: tables_1) hat d (List.mem_cons_of_mem _ hd)
  obtain ⟨i0, v0⟩ := is_v q0
  obtain rfl : w0 = (.int i0) := Option.some.inj v0
  obtain ⟨i1, v1⟩ := is_v q1
  obtain rfl : w1 = (.int i1) := Option.some.inj v1
  obtain ⟨i2, v2⟩ := is_v q2
  obtain rfl : w2 = (.int i2) := Option.some.inj v2
  obtain ⟨n, o, h1, h2, h3, _, L, rfl, ⟨rfl, N⟩, hq⟩ := rm0 l s _ hw tables_1 i0 i1 i2 s.heap s.heap.size (Nat.le_refl _) p e ha hc hk s m _ below hf ((Spec.applies_iff_loose hf).mp happ).1 ⟨rfl, State.Warmed39.refl s, rfl⟩ trivial
  refine ⟨n, _, h1, h2, h3, hpost _ _ _ _ _ _ ⟨Cond.after_iff.mpr rfl, Cond.after_iff.mpr (eq_i res_at (Term.int_eval (1)) rfl), trivial⟩ ⟨hq.1, hq.2.1, (hq.2.2.sift fun y hy => Or.inr (N y hy)).mono (by decide) (by decide)⟩⟩
theorem main_1_1 : Claimed_1_1 := comes_1 fun _ _ _ _ _ _ h hF => ⟨h.1, hF⟩
theorem main_1_2 : Claimed_1_2 := comes_1 fun _ _ _ _ _ _ h hF => ⟨h.2.1, hF⟩
end Jvm.Pilot.@@N@@
namespace Jvm.Pilot.@@N@@
open Jvm Jvm.ClassFile Sem Op Lib Jvm.Free Jvm.Stand Jvm.Pilot.@@N@@.Jvm.D
/-! MADE BY PROGRAM (witnessworld.py) out of the Statement's table words and the real class files: 9 classes; the members and pool entries that the words name. The judged class is class 1, her method 1. -/
namespace start1
open Jvm.ClassFile
def u (s : String) : CpInfo := .utf8 (stringToUtf16 s)
/-- a pool by its gaps: so many unusable entries, then the entry; so many at the end -/
def gap : Nat → List CpInfo → List CpInfo
  | 0, r => r
  | n + 1, r => .unusable :: gap n r
def poolList (es : List (Nat × CpInfo)) (last : Nat) : List CpInfo := es.foldr (fun e r => gap e.1 (e.2 :: r)) (gap last [])
def pool (es : List (Nat × CpInfo)) (last : Nat) : Array CpInfo := ⟨poolList es last⟩
def fileOf (pool : Array CpInfo) (this : Nat) (attrs : Array Attribute := #[]) (ms : Array MethodInfo := #[]) (fl : Nat := 33) (sup : Nat := 0) (ifs : Array Nat := #[]) (fds : Array FieldInfo := #[]) : ClassFile where
  minorVersion := 0
  majorVersion := 65
  constantPool := pool
  accessFlags := fl
  thisClass := this
  superClass := sup
  interfaces := ifs
  fields := fds
  methods := ms
  attributes := attrs
def plain (name : String) (sup : Option ClassId) : Class where
  name := name
  kind := .ordinary
  loader := none
  accessFlags := 33
  super := sup
  interfaces := #[]
  cf := none
  fields := #[]
  methods := #[]
  instanceTypes := #[]
  staticTypes := #[]
  resolved := #[]
  callSites := []
  init := .initialized
  statics := none
  mirror := none

def pool0 : Array CpInfo := pool [(5, u "<init>"), (0, u "()V"), (1, .class_ 10), (1, u "java/lang/Object")] 113

def k0m0 : Method := { name := "<init>", desc := "()V", sig := { parameters := [], returnType := none }, accessFlags := 1, code := none }
/-- java/lang/Object -/
def k0 : Class := { plain "java/lang/Object" none with
  accessFlags := 33
  interfaces := #[]
  cf := some (fileOf pool0 8 #[] #[{ accessFlags := 1, nameIndex := 5, descriptorIndex := 6, attributes := #[] }] 33 0 #[] #[])
  fields := #[]
  methods := #[k0m0]
  instanceTypes := #[]
  staticTypes := #[]
  resolved := Array.replicate 124 none
  statics := none }

def pool1 : Array CpInfo := pool [(2, .class_ 4), (1, u "java/lang/Object"), (0, u "<init>"), (0, u "()V"), (2, .double 9218868437227405312), (1, .methodref 12 13), (0, .class_ 14), (0, .nameAndType 15 16), (0, u "com/example/stochastic_model_checker/stochasticmodelchecker/checking/Solution"), (0, u "midpoint"), (0, u "(DD)D"), (0, .double 4611686018427387904), (1, .class_ 20), (0, u "com/example/stochastic_model_checker/stochasticmodelchecker/checking/SolutionMidpointPinLaw"), (2, u "law"), (0, u "(III)Z")] 3

def k1m0 : Method := { name := "<init>", desc := "()V", sig := { parameters := [], returnType := none }, accessFlags := 1, code := none }
def k1c1 : Code := { maxStack := 4, maxLocals := 10, code := code, exceptionTable := #[], attributes := #[] }
def k1m1 : Method := { name := "law", desc := "(III)Z", sig := { parameters := [.int, .int, .int], returnType := some .boolean }, accessFlags := 9, code := some k1c1 }
/-- com/example/stochastic_model_checker/stochasticmodelchecker/checking/SolutionMidpointPinLaw -/
def k1 : Class := { plain "com/example/stochastic_model_checker/stochasticmodelchecker/checking/SolutionMidpointPinLaw" (some 0) with
  accessFlags := 49
  interfaces := #[]
  cf := some (fileOf pool1 19 #[] #[{ accessFlags := 1, nameIndex := 5, descriptorIndex := 6, attributes := #[] }, { accessFlags := 9, nameIndex := 23, descriptorIndex := 24, attributes := #[] }] 49 2 #[] #[])
  fields := #[]
  methods := #[k1m0, k1m1]
  instanceTypes := #[]
  staticTypes := #[]
  resolved := Array.replicate 28 none
  statics := none }

def pool2 : Array CpInfo := pool [(2, .class_ 4), (1, u "java/lang/Object"), (10, .class_ 17), (1, u "com/example/stochastic_model_checker/stochasticmodelchecker/checking/Solution"), (0, u "lower"), (0, u "[D"), (2, u "upper"), (2, u "weightRoundingBounded"), (0, u "Z"), (2, u "midpoint"), (0, u "(DD)D"), (2, .double 9218868437227405312), (1, .double 4611686018427387904)] 22

def k2c0 : Code := { maxStack := 6, maxLocals := 6, code := prog_28_method_5_code, exceptionTable := #[], attributes := #[] }
def k2m0 : Method := { name := "midpoint", desc := "(DD)D", sig := { parameters := [.double, .double], returnType := some .double }, accessFlags := 8, code := some k2c0 }
/-- com/example/stochastic_model_checker/stochasticmodelchecker/checking/Solution -/
def k2 : Class := { plain "com/example/stochastic_model_checker/stochasticmodelchecker/checking/Solution" (some 0) with
  accessFlags := 33
  interfaces := #[]
  cf := some (fileOf pool2 15 #[] #[{ accessFlags := 8, nameIndex := 29, descriptorIndex := 30, attributes := #[] }] 33 2 #[] #[{ accessFlags := 18, nameIndex := 18, descriptorIndex := 19, attributes := #[] }, { accessFlags := 18, nameIndex := 22, descriptorIndex := 19, attributes := #[] }, { accessFlags := 18, nameIndex := 25, descriptorIndex := 26, attributes := #[] }])
  fields := #[{ name := "lower", type := (.array .double), accessFlags := 18, slot := 0, constantValue := 0 }, { name := "upper", type := (.array .double), accessFlags := 18, slot := 1, constantValue := 0 }, { name := "weightRoundingBounded", type := .boolean, accessFlags := 18, slot := 2, constantValue := 0 }]
  methods := #[k2m0]
  instanceTypes := #[(.array .double), (.array .double), .boolean]
  staticTypes := #[]
  resolved := Array.replicate 58 none
  statics := none }

def pool3 : Array CpInfo := pool [(1, u "java/lang/Cloneable"), (0, .class_ 1), (0, u "java/lang/Object"), (0, .class_ 3)] 3

/-- java/lang/Cloneable -/
def k3 : Class := { plain "java/lang/Cloneable" (some 0) with
  accessFlags := 1537
  interfaces := #[]
  cf := some (fileOf pool3 2 #[] #[] 1537 4 #[] #[])
  fields := #[]
  methods := #[]
  instanceTypes := #[]
  staticTypes := #[]
  resolved := Array.replicate 8 none
  statics := none }

def pool4 : Array CpInfo := pool [(1, u "java/io/Serializable"), (0, .class_ 1), (0, u "java/lang/Object"), (0, .class_ 3)] 3

/-- java/io/Serializable -/
def k4 : Class := { plain "java/io/Serializable" (some 0) with
  accessFlags := 1537
  interfaces := #[]
  cf := some (fileOf pool4 2 #[] #[] 1537 4 #[] #[])
  fields := #[]
  methods := #[]
  instanceTypes := #[]
  staticTypes := #[]
  resolved := Array.replicate 8 none
  statics := none }

/-- the primitive byte -/
def k5 : Class := { plain "byte" none with kind := .primitive 'B', accessFlags := 0x411 }
/-- [B -/
def k6 : Class := { plain "[B" (some 0) with kind := .array 5 .byte, interfaces := #[3, 4], accessFlags := 1041 }

/-- the primitive int -/
def k7 : Class := { plain "int" none with kind := .primitive 'I', accessFlags := 0x411 }
/-- [I -/
def k8 : Class := { plain "[I" (some 0) with kind := .array 7 .int, interfaces := #[3, 4], accessFlags := 1041 }

def heap : Heap := #[]
def classes : Array Class := #[k0, k1, k2, k3, k4, k5, k6, k7, k8]
def interned : List (Array UInt16 × Addr) := []
def slotsUsed : Nat := 0
def theMethod : MethodId := ⟨1, 1⟩
def args0 : Array Value := #[.int 5, .int 7, .int 3]
def aboutOver (below : List Frame) : State where
  vm := { classes := classes, interned := interned.toArray }
  heap := heap
  slotsUsed := slotsUsed
  threads := #[{ frames := .invoking theMethod args0 :: below }]
def below0 : List Frame := [.native { method := ⟨0, 0⟩, args := #[] }]
def about1 : State := aboutOver below0
def p0 : Program := .bare "" "" ""
def e0 : Env := launch0.env 0 0 0
theorem w_frames : about1.frames = Frame.invoking theMethod args0 :: below0 := rfl
set_option maxRecDepth 65536 in
theorem w_args : argsFit about1.vm theMethod args0 = true := by decide +kernel
set_option maxRecDepth 65536 in
theorem w_heap : heapFits about1 = true := by decide +kernel
set_option maxRecDepth 65536 in
theorem w_runnable : about1.curStatus? = some .runnable := by decide +kernel
set_option maxRecDepth 65536 in
theorem w_alone : about1.alone = true := by decide +kernel
set_option maxRecDepth 65536 in
theorem w_named : about1.methodNamed? x = some theMethod := by decide +kernel
set_option maxRecDepth 65536 in
theorem w_hears : about1.hears theMethod below0 = true := by decide +kernel
set_option maxRecDepth 65536 in
theorem w_ripe : about1.ripe theMethod args0 below0 = true := by decide +kernel
theorem w_running : about1.status = .running := rfl
set_option maxRecDepth 65536 in
theorem w_room : about1.hasRoom e0.platform room_1 = true :=
  launch0.hasRoom_least _ room_1 (by decide +kernel) (by decide +kernel) (by decide +kernel) (by decide +kernel) (by decide +kernel) (by decide +kernel)
theorem allAtoms_all (ts : List Jvm.Cond) (a : Array Jvm.Value) (st : Jvm.State) : (allAtoms ts).before a st = ts.all (fun c => c.before a st) := by
  induction ts with
  | nil => rfl
  | cons c t ih =>
    show (Jvm.Cond.and c (allAtoms t)).before a st = _
    rw [Jvm.Cond.before_and, ih, List.all_cons]
def words1 : List Jvm.Cond := Jvm.Cond.code x code maxLocals ret :: tables_1
/-- a 'code' word, met by the world's own term for the bytes: nothing is compared byte by byte -/
theorem code_word {y : MethodName} {bytes : ByteArray} {mx : Nat} {rt : Option FieldType} {a : Array Value} {s : State} {m : MethodId} {meth : Method} {c : Code} (h1 : s.methodNamed? y = some m) (h2 : s.vm.method? m = some meth) (h3 : meth.code = some c) (h4 : c.code = bytes)
    (h5 : (c.maxLocals == mx && c.exceptionTable.isEmpty && decide (c.maxStack ≤ mostOperands) && decide (meth.sig.returnType = rt) && !meth.locks && decide (parseMethodDescriptor y.desc = some meth.sig)) = true) : (Jvm.Cond.code y bytes mx rt).before a s = true := by
  simp only [Bool.and_eq_true, beq_iff_eq, Bool.not_eq_true', decide_eq_true_eq] at h5
  obtain ⟨⟨⟨⟨⟨g1, g2⟩, g3⟩, g4⟩, g5⟩, g6⟩ := h5
  simp [Cond.before, Cond.holds, Cond.value, h1, h2, h3, h4, g1, g2, g3, g4, g5, g6]
def isCode : Jvm.Cond → Bool
  | .code _ _ _ _ => true
  | _ => false
theorem all_split {L : List Jvm.Cond} {P : Jvm.Cond → Bool} (h1 : L.all (fun c => isCode c || P c) = true) (h2 : ∀ c ∈ L.filter isCode, P c = true) : L.all P = true := by
  refine List.all_eq_true.mpr fun c hc => ?_
  have h := List.all_eq_true.mp h1 c hc
  rcases Bool.eq_false_or_eq_true (isCode c) with hi | hi
  · exact h2 c (List.mem_filter.mpr ⟨hc, hi⟩)
  · simpa [hi] using h
set_option maxRecDepth 65536 in
theorem w_c0 : (Jvm.Cond.code x code maxLocals ret).before args0 about1 = true := code_word (m := ⟨1, 1⟩) (meth := k1m1) (c := k1c1) (by decide +kernel) rfl rfl rfl (by decide +kernel)
set_option maxRecDepth 65536 in
theorem w_c1 : (Jvm.Cond.code ({ cls := "com/example/stochastic_model_checker/stochasticmodelchecker/checking/Solution", name := "midpoint", desc := "(DD)D" } : Jvm.MethodName) prog_28_method_5_code (6 : Nat) (Option.some Jvm.ClassFile.FieldType.double)).before args0 about1 = true := code_word (m := ⟨2, 0⟩) (meth := k2m0) (c := k2c0) (by decide +kernel) rfl rfl rfl (by decide +kernel)
def codes1 : List Jvm.Cond := [Jvm.Cond.code x code maxLocals ret, Jvm.Cond.code ({ cls := "com/example/stochastic_model_checker/stochasticmodelchecker/checking/Solution", name := "midpoint", desc := "(DD)D" } : Jvm.MethodName) prog_28_method_5_code (6 : Nat) (Option.some Jvm.ClassFile.FieldType.double)]
set_option maxRecDepth 65536 in
theorem codes_eq : words1.filter isCode = codes1 := rfl
theorem w_codes : ∀ c ∈ words1.filter isCode, c.before args0 about1 = true := by
  rw [codes_eq]
  intro c hc
  simp only [codes1, List.mem_cons, List.not_mem_nil, or_false] at hc
  rcases hc with rfl | rfl
  · exact w_c0
  · exact w_c1
set_option maxRecDepth 65536 in
theorem w_t1 : words1.all (fun c => isCode c || c.before args0 about1) = true := by decide +kernel
theorem w_tables : (allAtoms (Jvm.Cond.code x code maxLocals ret :: tables_1)).before args0 about1 = true := by
  rw [allAtoms_all]
  show words1.all (fun c => c.before args0 about1) = true
  refine all_split ?_ w_codes
  rw [w_t1]
set_option maxRecDepth 65536 in
theorem w_case : (Jvm.Cond.and given_1 narrow_1).before args0 about1 = true := by decide +kernel
theorem w_applies : (headSpec (Jvm.Cond.code x code maxLocals ret :: tables_1) room_1).applies x e0.platform about1 = true :=
  (Spec.applies_iff w_frames).mpr ⟨w_running, w_runnable, w_alone, w_named, w_hears, w_ripe, w_room, w_tables⟩
theorem atStart : AtStart classFile x code maxLocals ret World_1 tables_1 room_1 Calls_1 rest_1 Pre_1 launch0 p0 e0 about1 theMethod args0 below0 :=
  ⟨lists_1, trivial, launch0.admits_env _ _ _, launch0.least_env, fairChoices_fair.cas, fairChoices_fair.clock, w_frames, w_args, w_heap, w_applies, trivial, trivial, w_case⟩
end start1
theorem witness_1 : WitnessClaimed_1 := ⟨start1.p0, start1.e0, start1.about1, start1.theMethod, start1.args0, start1.below0, start1.atStart⟩
end Jvm.Pilot.@@N@@
