/-
  PLAIN MATHEMATICS OF THE LAW 'nearest float to 1e9 / n' (no program).
-/
import Derived.Test.Qxb6631266aEvery
namespace Go.Proofs.Qxb6631266a.Fl
open Ieee

/-- No odd number above 5^9 divides 5^9 * 2^t. -/
theorem no_tie (o : Nat) (ho : o % 2 = 1) (hb : 1953125 < o) : ∀ (t n : Nat), o * n = 1953125 * 2 ^ t → False := by
  intro t
  induction t with
  | zero =>
    intro n h
    rw [Nat.pow_zero, Nat.mul_one] at h
    rcases Nat.eq_zero_or_pos n with hz | hp
    · subst hz; simp at h
    · have : o * 1 ≤ o * n := Nat.mul_le_mul_left o hp
      omega
  | succ t ih =>
    intro n h
    rw [Nat.pow_succ] at h
    have he : (o * n) % 2 = 0 := by rw [h]; omega
    rw [Nat.mul_mod, ho, Nat.one_mul, Nat.mod_mod] at he
    have hn : n = 2 * (n / 2) := by omega
    refine ih (n / 2) ?_
    rw [hn, ← Nat.mul_assoc, Nat.mul_comm o 2, Nat.mul_assoc] at h
    omega

/-- What the law asks of the quotient. -/
theorem ev_law (n : Nat) (h0 : n ≠ 0) (h : n < 9007199254740992) :
    ∃ s k, ev n = wd false (1074 - s) k ∧ 23 ≤ s ∧ s ≤ 76 ∧ 4503599627370496 ≤ k ∧ k < 9007199254740992
    ∧ (k = 4503599627370496 → (4 * k - 1) * n < 4000000000 * 2 ^ s) ∧ (k ≠ 4503599627370496 → (4 * k - 2) * n < 4000000000 * 2 ^ s) ∧ 4000000000 * 2 ^ s < (4 * k + 2) * n := by
  obtain ⟨s, k, he, s1, s2, k1, k2, n1, n2, n3, n4, n5, n6⟩ := ev_norm n h0 h
  have hk : 4503599627370496 * n ≤ k * n := Nat.mul_le_mul_right n k1
  have d1 : 2 * k * n = 2 * (k * n) := Nat.mul_assoc 2 k n
  have d2 : (2 * k + 1) * n = 2 * (k * n) + n := by rw [Nat.add_mul, Nat.one_mul, d1]
  have d3 : (4 * k + 2) * n = 2 * ((2 * k + 1) * n) := by rw [← Nat.mul_assoc]; congr 1; omega
  have d4 : (4 * k - 2) * n = 2 * ((2 * k - 1) * n) := by rw [← Nat.mul_assoc]; congr 1; omega
  have d5 : (2 * k - 1) * n + n = 2 * k * n := by
    have : (2 * k - 1) * n + 1 * n = (2 * k - 1 + 1) * n := (Nat.add_mul _ _ _).symm
    rw [Nat.one_mul] at this
    rw [this]; congr 1; omega
  have e1 : 2 * (1000000000 * 2 ^ s) = 1953125 * 2 ^ (s + 10) := by rw [Nat.pow_add]; omega
  have e2 : 4 * (1000000000 * 2 ^ s) = 1953125 * 2 ^ (s + 11) := by rw [Nat.pow_add]; omega
  have t1 : (2 * k + 1) * n ≠ 2 * (1000000000 * 2 ^ s) := by rw [e1]; exact fun h => no_tie (2 * k + 1) (by omega) (by omega) _ _ h
  have t2 : (2 * k - 1) * n ≠ 2 * (1000000000 * 2 ^ s) := by rw [e1]; exact fun h => no_tie (2 * k - 1) (by omega) (by omega) _ _ h
  have t3 : (4 * k - 1) * n ≠ 4 * (1000000000 * 2 ^ s) := by rw [e2]; exact fun h => no_tie (4 * k - 1) (by omega) (by omega) _ _ h
  have hs : s ≠ 22 := by
    intro h22; subst h22
    omega
  refine ⟨s, k, he, by omega, s2, k1, k2, fun hb => ?_, fun _ => ?_, ?_⟩
  · have := n6 hb; omega
  · omega
  · omega

/-- The test 'q > 0', 'q > 2e9'. -/
theorem ev_small (s k : Nat) (s1 : 23 ≤ s) (s2 : s ≤ 76) (k1 : 4503599627370496 ≤ k) (k2 : k < 9007199254740992) :
    double.order (wd false (1074 - s) k) 0 = some .gt ∧ double.order (wd false (1074 - s) k) 4746175415993761792 = some .lt := by
  constructor
  · unfold Format.order
    rw [read_wd false (1074 - s) k (by omega) k1 k2, show double.read 0 = .number false 0 (-1074) by decide]
    unfold Datum.order signed
    simp only [Bool.false_eq_true, if_false, Nat.shiftLeft_eq]
    congr 1
    refine Std.compare_eq_gt.2 ?_
    have : 0 < k * 2 ^ ((((1074 - s : Nat) : Int) - 1074 - min (((1074 - s : Nat) : Int) - 1074) (-1074)).toNat) := Nat.mul_pos (by omega) (Nat.two_pow_pos _)
    omega
  · rw [show (4746175415993761792 : Nat) = wd false 1052 8388608000000000 by decide, order_wd _ _ _ _ (by omega) (by omega) k1 k2 (by omega) (by omega)]
    congr 1
    exact Std.compare_eq_lt.2 (by unfold wd; simp only [Bool.false_eq_true, if_false]; omega)

/-- The loop's test. -/
theorem loop_lt (e k : Nat) (h : e < 1074) (k1 : 4503599627370496 ≤ k) (k2 : k < 9007199254740992) : double.order (wd false e k) 4841369599423283200 = some .lt := by
  rw [show (4841369599423283200 : Nat) = wd false 1074 4503599627370496 by decide, order_wd _ _ _ _ (by omega) (by omega) k1 k2 (by omega) (by omega)]
  congr 1
  exact Std.compare_eq_lt.2 (by unfold wd; simp only [Bool.false_eq_true, if_false]; omega)
theorem loop_ge (k : Nat) (k1 : 4503599627370496 ≤ k) (k2 : k < 9007199254740992) : (double.order (wd false 1074 k) 4841369599423283200 == some .lt) = false := by
  rw [show (4841369599423283200 : Nat) = wd false 1074 4503599627370496 by decide, order_wd _ _ _ _ (by omega) (by omega) k1 k2 (by omega) (by omega)]
  rcases Nat.lt_or_eq_of_le k1 with h | h
  · rw [Std.compare_eq_gt.2 (show wd false 1074 4503599627370496 < wd false 1074 k by unfold wd; simp only [Bool.false_eq_true, if_false]; omega)]; rfl
  · rw [← h, Std.compare_self]; rfl
theorem mul_two (e k : Nat) (h : e < 1074) (k1 : 4503599627370496 ≤ k) (k2 : k < 9007199254740992) : double.mul (wd false e k) 4611686018427387904 = some (wd false (e + 1) k) := by
  unfold Format.mul
  rw [show (4611686018427387904 : Nat) = wd false 1023 4503599627370496 by decide, read_wd false e k (by omega) k1 k2, read_wd false 1023 _ (by omega) (by omega) (by omega)]
  unfold Datum.product Format.write
  dsimp only [Option.map]
  congr 1
  exact nearest_exact false k 52 _ (e + 1) k1 k2 (by omega) (by omega)

/-- Behind the loop: below 2^53; whole; exact. -/
theorem after_lt (k : Nat) (k1 : 4503599627370496 ≤ k) (k2 : k < 9007199254740992) : double.order (wd false 1074 k) 4845873199050653696 = some .lt := by
  rw [show (4845873199050653696 : Nat) = wd false 1075 4503599627370496 by decide, order_wd _ _ _ _ (by omega) (by omega) k1 k2 (by omega) (by omega)]
  congr 1
  exact Std.compare_eq_lt.2 (by unfold wd; simp only [Bool.false_eq_true, if_false]; omega)
theorem whole (k : Nat) (k1 : 4503599627370496 ≤ k) (k2 : k < 9007199254740992) : (double.read (wd false 1074 k)).toInt .zero = some (k : Int) := by
  rw [read_wd false 1074 k (by omega) k1 k2]
  unfold Datum.toInt Datum.integral Toward.cut
  dsimp only
  simp [signed]
theorem back (k : Nat) (k1 : 4503599627370496 ≤ k) (k2 : k < 9007199254740992) : double.nearest false k 0 = wd false 1074 k := by
  have := nearest_exact false k 0 0 1074 k1 k2 (by omega) (by omega)
  rwa [Nat.pow_zero, Nat.mul_one] at this
theorem same (k : Nat) (k1 : 4503599627370496 ≤ k) (k2 : k < 9007199254740992) : double.order (wd false 1074 k) (wd false 1074 k) = some .eq := by
  rw [order_wd _ _ _ _ (by omega) (by omega) k1 k2 k1 k2, Std.compare_self]

/-- A product below 2^128, by words. -/
theorem less_words (a b : Int) (h : a < b) : decide (a / 18446744073709551616 * 18446744073709551616 + a % 18446744073709551616 < b / 18446744073709551616 * 18446744073709551616 + b % 18446744073709551616) = true := by
  simp; omega
end Go.Proofs.Qxb6631266a.Fl
