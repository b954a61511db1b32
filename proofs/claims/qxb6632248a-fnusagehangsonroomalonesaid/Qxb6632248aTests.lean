/-
  THE TESTS ON USAGE, in the walk's own words.
-/
import Derived.Test.Qxb6632248aUsage
import Derived.Laws.FloatArith
import GoSem.Op.Unary
namespace Go.Proofs.Qxb6632248a
open Ieee Fl
set_option linter.unusedVariables false

theorem f64_double : FloatKind.f64.format = double := rfl
theorem max_wd : (9218868437227405311 : Nat) = wd false 2045 9007199254740991 := by decide
theorem one_wd : (4607182418800017408 : Nat) = wd false 1022 4503599627370496 := by decide

section
variable (t n : Int) (ht : -9223372036854775808 ≤ t) (ht' : t ≤ 9223372036854775807) (hn : 0 < n) (hn' : n ≤ 9223372036854775807)

theorem us_self (n : Int) (hn : 0 < n) (hn' : n ≤ 9223372036854775807) : us n n = 4607182418800017408 := by
  rcases (us_spec n n (by omega) hn' hn hn').2 with ⟨h0, _⟩ | ⟨_, e, k, _, _, _, _, h1, h2, _⟩
  · omega
  · rcases h2 with h2 | ⟨h2, h3⟩
    · omega
    · rw [h1, show decide (n < 0) = false by simp; omega]
      have a := h2 (Int.le_refl _)
      have b := h3 (Int.le_refl _)
      exact Nat.le_antisymm a b

theorem us_fin (t n : Int) (ht : -9223372036854775808 ≤ t) (ht' : t ≤ 9223372036854775807) (hn : 0 < n) (hn' : n ≤ 9223372036854775807) :
    FloatKind.f64.format.order (us t n) 9218868437227405311 = some .lt := by
  rw [f64_double]
  rcases (us_spec t n ht ht' hn hn').2 with ⟨_, h⟩ | ⟨_, e, k, e1, e2, k1, k2, h1, _, _⟩
  · rw [h]; decide +kernel
  · rw [h1, max_wd]
    by_cases hneg : t < 0
    · rw [show decide (t < 0) = true by simpa using hneg]
      exact ord_neg e k _ _ (by omega) k1 k2 (by omega) (by omega) (by omega)
    · rw [show decide (t < 0) = false by simpa using hneg, ord_pos e k _ _ (by omega) k1 k2 (by omega) (by omega) (by omega)]
      congr 1
      refine Std.compare_eq_lt.2 ?_
      have hw : ∀ x y, wd false x y = x * 4503599627370496 + y := fun x y => by unfold wd; simp
      rw [hw, hw]
      have : e * 4503599627370496 ≤ 1100 * 4503599627370496 := Nat.mul_le_mul_right _ e2
      omega

theorem us_le (t n : Int) (ht : -9223372036854775808 ≤ t) (ht' : t ≤ 9223372036854775807) (hn : 0 < n) (hn' : n ≤ 9223372036854775807) (h : t ≤ n) :
    (FloatKind.f64.format.order (us t n) 4607182418800017408 == some .lt || FloatKind.f64.format.order (us t n) 4607182418800017408 == some .eq) = true := by
  rw [f64_double]
  rcases (us_spec t n ht ht' hn hn').2 with ⟨_, h⟩ | ⟨_, e, k, e1, e2, k1, k2, h1, h2, _⟩
  · rw [h]; decide +kernel
  · by_cases hneg : t < 0
    · rw [h1, one_wd, show decide (t < 0) = true by simpa using hneg, ord_neg e k _ _ (by omega) k1 k2 (by omega) (by omega) (by omega)]; rfl
    · rcases h2 with h2 | ⟨h2, _⟩
      · omega
      · have h3 := h2 h
        rw [h1, one_wd, show decide (t < 0) = false by simpa using hneg, ord_pos e k _ _ (by omega) k1 k2 (by omega) (by omega) (by omega)]
        rw [one_wd] at h3
        rcases Nat.lt_or_eq_of_le h3 with h4 | h4
        · rw [Std.compare_eq_lt.2 h4]; rfl
        · rw [h4, Std.compare_self]; rfl

theorem us_ge (t n : Int) (ht : -9223372036854775808 ≤ t) (ht' : t ≤ 9223372036854775807) (hn : 0 < n) (hn' : n ≤ 9223372036854775807) (h : n ≤ t) :
    (FloatKind.f64.format.order (us t n) 4607182418800017408 == some .gt || FloatKind.f64.format.order (us t n) 4607182418800017408 == some .eq) = true := by
  rw [f64_double]
  rcases (us_spec t n ht ht' hn hn').2 with ⟨h0, _⟩ | ⟨_, e, k, e1, e2, k1, k2, h1, h2, _⟩
  · omega
  · rcases h2 with h2 | ⟨_, h2⟩
    · omega
    · have h3 := h2 h
      rw [h1, one_wd, show decide (t < 0) = false by simp; omega, ord_pos e k _ _ (by omega) k1 k2 (by omega) (by omega) (by omega)]
      rw [one_wd] at h3
      rcases Nat.lt_or_eq_of_le h3 with h4 | h4
      · rw [Std.compare_eq_gt.2 h4]; rfl
      · rw [← h4, Std.compare_self]; rfl

theorem us_same (t n : Int) (ht : -9223372036854775808 ≤ t) (ht' : t ≤ 9223372036854775807) (hn : 0 < n) (hn' : n ≤ 9223372036854775807) :
    FloatKind.f64.format.order (us t n) (us t n) = some .eq := by
  rw [f64_double]
  rcases (us_spec t n ht ht' hn hn').2 with ⟨_, h⟩ | ⟨_, e, k, e1, e2, k1, k2, h1, _, _⟩
  · rw [h]; decide +kernel
  · rw [h1, ord_same _ e k (by omega) k1 k2]

theorem us_sign (t n : Int) (ht : -9223372036854775808 ≤ t) (ht' : t ≤ 9223372036854775807) (hn : 0 < n) (hn' : n ≤ 9223372036854775807) :
    FloatKind.f64.format.order (us t n) 0 = some (if t < 0 then .lt else if 0 < t then .gt else .eq) := by
  rw [f64_double]
  rcases (us_spec t n ht ht' hn hn').2 with ⟨h0, h⟩ | ⟨h0, e, k, e1, e2, k1, k2, h1, _, _⟩
  · rw [h, h0]; decide +kernel
  · rw [h1, ord_zero _ e k (by omega) k1 k2]
    by_cases hneg : t < 0
    · simp [hneg]
    · simp [hneg, show 0 < t by omega]

theorem negf (b : Nat) : Op.negFloat .f64 b = b ^^^ 9223372036854775808 := rfl
theorem us_neg (t n : Int) (ht : -9223372036854775808 < t) (ht' : t ≤ 9223372036854775807) (hn : 0 < n) (hn' : n ≤ 9223372036854775807) :
    FloatKind.f64.format.order (us (-t) n) (Op.negFloat .f64 (us t n)) = some .eq := by
  rw [f64_double, negf]
  rcases (us_spec t n (by omega) ht' hn hn').2 with ⟨h0, h⟩ | ⟨h0, e, k, e1, e2, k1, k2, h1, _, h3⟩
  · rw [h, h0]
    rw [h0] at h
    rw [show (-0 : Int) = 0 by decide, h]
    decide +kernel
  · rw [h1, h3, neg_wd _ e k (by omega) k2, show decide (-t < 0) = !decide (t < 0) by
      by_cases hneg : t < 0
      · rw [show decide (t < 0) = true by simpa using hneg]; simp; omega
      · rw [show decide (t < 0) = false by simpa using hneg]; simp; omega]
    exact ord_same _ e k (by omega) k1 k2
end

theorem inf_max : FloatKind.f64.format.order 9218868437227405312 9218868437227405311 = some .gt := by decide +kernel
theorem inf_inf : FloatKind.f64.format.order 9218868437227405312 9218868437227405312 = some .eq := by decide +kernel
theorem one_one : FloatKind.f64.format.order 4607182418800017408 4607182418800017408 = some .eq := by decide +kernel

/-- The model's conversions, as they are divided. -/
theorem foi (t : Int) : floatOfInt .f64 t = double.nearest (decide (t < 0)) t.natAbs 0 := rfl
theorem foi_pos (n : Int) (h : 0 < n) : floatOfInt .f64 n = double.nearest false n.toNat 0 := by
  rw [foi, show decide (n < 0) = false by simp; omega, show n.natAbs = n.toNat by omega]
theorem us_bits (t n : Int) (ht : -9223372036854775808 ≤ t) (ht' : t ≤ 9223372036854775807) (hn : 0 < n) (hn' : n ≤ 9223372036854775807) :
    floatBits .quo .f64 (floatOfInt .f64 t) (floatOfInt .f64 n) = some (us t n) := by
  show FloatKind.f64.format.div _ _ = _
  rw [f64_double, foi, foi_pos n hn]
  exact (us_spec t n ht ht' hn hn').1
end Go.Proofs.Qxb6632248a
