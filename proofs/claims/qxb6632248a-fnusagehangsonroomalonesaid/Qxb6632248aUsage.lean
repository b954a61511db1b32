/-
  PLAIN MATHEMATICS OF 'Usage' (no program): float64(t) / float64(n), n above zero.
-/
import Derived.Test.Qxb6632248aFloat
namespace Go.Proofs.Qxb6632248a.Fl
open Ieee
set_option linter.unusedVariables false

/-- The word of a whole number's magnitude, rounded. -/
theorem fl_norm (m : Nat) (h0 : m ≠ 0) (hm : m ≤ 9223372036854775808) :
    ∃ e k, 1022 ≤ e ∧ e ≤ 1086 ∧ 4503599627370496 ≤ k ∧ k < 9007199254740992 ∧ ∀ neg, double.nearest neg m 0 = wd neg e k := by
  have hl : m.log2 ≤ 63 := by have := (Nat.log2_lt h0 (k := 64)).2 (by omega); omega
  obtain ⟨-, k1, k2⟩ := nearest_norm false m 0 (1022 + m.log2) h0 (by omega) (by omega)
  have hn := fun neg => (nearest_norm neg m 0 (1022 + m.log2) h0 (by omega) (by omega)).1
  generalize (if m.log2 ≤ 52 then m * 2 ^ (52 - m.log2) else rne m (2 ^ (m.log2 - 52))) = K at *
  by_cases hK : K = 9007199254740992
  · subst hK
    exact ⟨1022 + m.log2 + 1, 4503599627370496, by omega, by omega, by omega, by omega, fun neg => by rw [hn neg, wd_carry]⟩
  · exact ⟨1022 + m.log2, K, by omega, by omega, by omega, by omega, hn⟩

/-- Rounding keeps the order: the words of positive whole numbers. -/
theorem fl_mono (m n : Nat) (h0 : m ≠ 0) (h : m ≤ n) (hn : n ≤ 9223372036854775808) : double.nearest false m 0 ≤ double.nearest false n 0 := by
  have hn0 : n ≠ 0 := by omega
  have hlm : m.log2 ≤ 63 := by have := (Nat.log2_lt h0 (k := 64)).2 (by omega); omega
  have hln : n.log2 ≤ 63 := by have := (Nat.log2_lt hn0 (k := 64)).2 (by omega); omega
  have hle : m.log2 ≤ n.log2 := (Nat.le_log2 hn0).2 (Nat.le_trans (Nat.log2_self_le h0) h)
  obtain ⟨a1, a2, a3⟩ := nearest_norm false m 0 (1022 + m.log2) h0 (by omega) (by omega)
  obtain ⟨b1, b2, b3⟩ := nearest_norm false n 0 (1022 + n.log2) hn0 (by omega) (by omega)
  rw [a1, b1]
  by_cases he : m.log2 = n.log2
  · rw [he]
    have : (if n.log2 ≤ 52 then m * 2 ^ (52 - n.log2) else rne m (2 ^ (n.log2 - 52))) ≤ (if n.log2 ≤ 52 then n * 2 ^ (52 - n.log2) else rne n (2 ^ (n.log2 - 52))) := by
      split
      · exact Nat.mul_le_mul_right _ h
      · exact rne_mono m n _ (Nat.two_pow_pos _) h
    unfold wd; omega
  · generalize (if m.log2 ≤ 52 then m * 2 ^ (52 - m.log2) else rne m (2 ^ (m.log2 - 52))) = K at *
    generalize (if n.log2 ≤ 52 then n * 2 ^ (52 - n.log2) else rne n (2 ^ (n.log2 - 52))) = L at *
    unfold wd
    simp only [Bool.false_eq_true, if_false]
    omega

theorem le_one (a b M N Qn : Nat) (a1 : 1022 ≤ a) (b2 : b ≤ 1086) (M1 : 4503599627370496 ≤ M) (M2 : M < 9007199254740992) (N1 : 4503599627370496 ≤ N) (N2 : N < 9007199254740992) (q2 : Qn ≤ 9007199254740992) (hqe : M = N → Qn = 4503599627370496)
    (h : a * 4503599627370496 + M ≤ b * 4503599627370496 + N) : (a + 1022 - b - (if N ≤ M then 0 else 1)) * 4503599627370496 + Qn ≤ 4607182418800017408 := by
  by_cases hc : N ≤ M
  · rw [if_pos hc]
    by_cases he : M = N
    · have hq := hqe he
      have : a ≤ b := by omega
      have h2 : (a + 1022 - b - 0) * 4503599627370496 ≤ 1022 * 4503599627370496 := Nat.mul_le_mul_right _ (by omega)
      exact Nat.le_trans (Nat.add_le_add h2 (Nat.le_of_eq hq)) (by decide)
    · have : a + 1 ≤ b := by omega
      have h2 : (a + 1022 - b - 0) * 4503599627370496 ≤ 1021 * 4503599627370496 := Nat.mul_le_mul_right _ (by omega)
      exact Nat.le_trans (Nat.add_le_add h2 q2) (by decide)
  · rw [if_neg hc]
    have : a ≤ b := by omega
    have h2 : (a + 1022 - b - 1) * 4503599627370496 ≤ 1021 * 4503599627370496 := Nat.mul_le_mul_right _ (by omega)
    exact Nat.le_trans (Nat.add_le_add h2 q2) (by decide)
/-- The quotient of two rounded magnitudes: a normal number; at most 1 where the dividend is no greater, at least 1 where it is no smaller. -/
theorem us_norm (m n : Nat) (hm : m ≠ 0) (hm' : m ≤ 9223372036854775808) (hn : n ≠ 0) (hn' : n ≤ 9223372036854775808) :
    ∃ e k, 900 ≤ e ∧ e ≤ 1100 ∧ 4503599627370496 ≤ k ∧ k < 9007199254740992 ∧ (∀ neg, double.div (double.nearest neg m 0) (double.nearest false n 0) = some (wd neg e k))
    ∧ (m ≤ n → wd false e k ≤ 4607182418800017408) ∧ (n ≤ m → 4607182418800017408 ≤ wd false e k) := by
  obtain ⟨a, M, a1, a2, M1, M2, hM⟩ := fl_norm m hm hm'
  obtain ⟨b, N, b1, b2, N1, N2, hN⟩ := fl_norm n hn hn'
  have o1 : m ≤ n → wd false a M ≤ wd false b N := fun h => by rw [← hM, ← hN]; exact fl_mono m n hm h hn'
  have o2 : n ≤ m → wd false b N ≤ wd false a M := fun h => by rw [← hM, ← hN]; exact fl_mono n m hn h hm'
  have hw : ∀ x y, wd false x y = x * 4503599627370496 + y := fun x y => by unfold wd; simp
  have hc : (if N ≤ M then (0 : Int) else 1) = ((if N ≤ M then 0 else 1 : Nat) : Int) := by split <;> rfl
  have hd := fun neg => div_wd neg false a M b N (by omega) (by omega) M1 M2 N1 N2 (a + 1022 - b - (if N ≤ M then 0 else 1)) (by rw [hc]; split <;> omega) (by split <;> omega)
  obtain ⟨-, q1, q2⟩ := hd false
  have hqe : M = N → quo M N = 4503599627370496 := by
    intro he
    subst he
    unfold quo
    rw [if_pos (Nat.le_refl _), Nat.mul_comm M, Nat.mul_div_cancel _ (by omega), Nat.mul_mod_left]
    rfl
  have hdiv : ∀ neg, double.div (double.nearest neg m 0) (double.nearest false n 0) = some (wd neg (a + 1022 - b - (if N ≤ M then 0 else 1)) (quo M N)) := by
    intro neg
    rw [hM, hN, (hd neg).1, Bool.xor_false]
  generalize quo M N = Qn at *
  clear hd
  have hlo : m ≤ n → wd false (a + 1022 - b - (if N ≤ M then 0 else 1)) Qn ≤ 4607182418800017408 := by
    intro h
    have h5 := o1 h
    rw [hw, hw] at h5
    rw [hw]
    exact le_one a b M N Qn a1 b2 M1 M2 N1 N2 q2 hqe h5
  have hhi : n ≤ m → 4607182418800017408 ≤ wd false (a + 1022 - b - (if N ≤ M then 0 else 1)) Qn := by
    intro h
    have := o2 h
    rw [hw, hw] at this
    rw [hw]
    split
    · omega
    · omega
  by_cases hQ : Qn = 9007199254740992
  · rw [hQ] at hdiv hlo hhi
    refine ⟨a + 1022 - b - (if N ≤ M then 0 else 1) + 1, 4503599627370496, by split <;> omega, by split <;> omega, by omega, by omega, fun neg => by rw [hdiv, wd_carry], ?_, ?_⟩
    · rw [← wd_carry]; exact hlo
    · rw [← wd_carry]; exact hhi
  · exact ⟨a + 1022 - b - (if N ≤ M then 0 else 1), Qn, by split <;> omega, by split <;> omega, q1, by omega, hdiv, hlo, hhi⟩

theorem read_zero : double.read (double.nearest false 0 0) = .number false 0 (-1074) := by decide
theorem write_zero (p : Int) : double.write (.number (false ^^ false) (2 * 0 + ((0 : Nat) != 0).toNat) p) = 0 := by
  show double.nearest false 0 p = 0
  unfold Format.nearest
  rw [if_pos rfl]
  rfl
/-- Nothing divided. -/
theorem us_zero (n : Nat) (hn : n ≠ 0) (hn' : n ≤ 9223372036854775808) : double.div (double.nearest false 0 0) (double.nearest false n 0) = some 0 := by
  obtain ⟨b, N, b1, b2, N1, N2, hN⟩ := fl_norm n hn hn'
  rw [hN]
  unfold Format.div
  rw [read_wd false b N (by omega) N1 N2, read_zero]
  unfold Datum.quotient
  dsimp only
  rw [if_neg (by omega)]
  simp only [Nat.zero_shiftLeft, Nat.zero_div, Nat.zero_mod, Option.map_some, write_zero]

/-- The word of 'float64(t) / float64(n)'. -/
def us (t n : Int) : Nat := (double.div (double.nearest (decide (t < 0)) t.natAbs 0) (double.nearest false n.toNat 0)).getD 0

/-- What it is. -/
theorem us_spec (t n : Int) (ht : -9223372036854775808 ≤ t) (ht' : t ≤ 9223372036854775807) (hn : 0 < n) (hn' : n ≤ 9223372036854775807) :
    double.div (double.nearest (decide (t < 0)) t.natAbs 0) (double.nearest false n.toNat 0) = some (us t n)
    ∧ ((t = 0 ∧ us t n = 0) ∨ (t ≠ 0 ∧ ∃ e k, 900 ≤ e ∧ e ≤ 1100 ∧ 4503599627370496 ≤ k ∧ k < 9007199254740992 ∧ us t n = wd (decide (t < 0)) e k ∧ (t = -t.natAbs ∨ (t ≤ n → wd false e k ≤ 4607182418800017408) ∧ (n ≤ t → 4607182418800017408 ≤ wd false e k)) ∧ us (-t) n = wd (decide (-t < 0)) e k)) := by
  by_cases h0 : t = 0
  · subst h0
    have hz := us_zero n.toNat (by omega) (by omega)
    have e : us 0 n = 0 := by unfold us; rw [show decide ((0 : Int) < 0) = false by decide, show (0 : Int).natAbs = 0 by decide, hz, Option.getD_some]
    exact ⟨by rw [e, show decide ((0 : Int) < 0) = false by decide, show (0 : Int).natAbs = 0 by decide, hz], .inl ⟨rfl, e⟩⟩
  · obtain ⟨e, k, e1, e2, k1, k2, hd, hlo, hhi⟩ := us_norm t.natAbs n.toNat (by omega) (by omega) (by omega) (by omega)
    have hu : us t n = wd (decide (t < 0)) e k := by unfold us; rw [hd, Option.getD_some]
    have hu' : us (-t) n = wd (decide (-t < 0)) e k := by unfold us; rw [Int.natAbs_neg, hd, Option.getD_some]
    refine ⟨by rw [hu]; exact hd _, .inr ⟨h0, e, k, e1, e2, k1, k2, hu, ?_, hu'⟩⟩
    by_cases hneg : t < 0
    · left; omega
    · right; exact ⟨fun h => hlo (by omega), fun h => hhi (by omega)⟩

/-! ### The tests -/
/-- A normal number against a positive word; against zero. -/
theorem ord_pos (e k f j : Nat) (he : e ≤ 2045) (k1 : 4503599627370496 ≤ k) (k2 : k < 9007199254740992) (hf : f ≤ 2045) (j1 : 4503599627370496 ≤ j) (j2 : j < 9007199254740992) :
    double.order (wd false e k) (wd false f j) = some (compare (wd false e k) (wd false f j)) := order_wd e k f j he hf k1 k2 j1 j2
theorem ord_neg (e k f j : Nat) (he : e ≤ 2045) (k1 : 4503599627370496 ≤ k) (k2 : k < 9007199254740992) (hf : f ≤ 2045) (j1 : 4503599627370496 ≤ j) (j2 : j < 9007199254740992) :
    double.order (wd true e k) (wd false f j) = some .lt := by
  unfold Format.order
  rw [read_wd true e k he k1 k2, read_wd false f j hf j1 j2]
  unfold Datum.order signed
  simp only [Bool.false_eq_true, if_false, if_true, Nat.shiftLeft_eq]
  congr 1
  refine Std.compare_eq_lt.2 ?_
  have p1 : 0 < k * 2 ^ (((e : Int) - 1074 - min ((e : Int) - 1074) ((f : Int) - 1074)).toNat) := Nat.mul_pos (by omega) (Nat.two_pow_pos _)
  have p2 : 0 < j * 2 ^ (((f : Int) - 1074 - min ((e : Int) - 1074) ((f : Int) - 1074)).toNat) := Nat.mul_pos (by omega) (Nat.two_pow_pos _)
  omega
theorem ord_same (neg : Bool) (e k : Nat) (he : e ≤ 2045) (k1 : 4503599627370496 ≤ k) (k2 : k < 9007199254740992) : double.order (wd neg e k) (wd neg e k) = some .eq := by
  unfold Format.order
  rw [read_wd neg e k he k1 k2]
  unfold Datum.order
  dsimp only
  rw [Std.compare_self]
theorem ord_zero (neg : Bool) (e k : Nat) (he : e ≤ 2045) (k1 : 4503599627370496 ≤ k) (k2 : k < 9007199254740992) : double.order (wd neg e k) 0 = some (if neg then .lt else .gt) := by
  unfold Format.order
  rw [read_wd neg e k he k1 k2, show double.read 0 = .number false 0 (-1074) by decide]
  unfold Datum.order signed
  have p1 : 0 < k * 2 ^ (((e : Int) - 1074 - min ((e : Int) - 1074) (-1074)).toNat) := Nat.mul_pos (by omega) (Nat.two_pow_pos _)
  cases neg
  · simp only [Bool.false_eq_true, if_false, Nat.shiftLeft_eq]
    congr 1
    exact Std.compare_eq_gt.2 (by omega)
  · simp only [Bool.false_eq_true, if_false, if_true, Nat.shiftLeft_eq]
    congr 1
    exact Std.compare_eq_lt.2 (by omega)

/-- Turning the sign. -/
theorem xor_sign (x : Nat) (h : x < 9223372036854775808) : x ^^^ 9223372036854775808 = 9223372036854775808 + x := by
  have h' : x < 2 ^ 63 := h
  rw [show (9223372036854775808 : Nat) = 2 ^ 63 by decide]
  refine Nat.eq_of_testBit_eq fun i => ?_
  rw [Nat.testBit_xor, Nat.testBit_two_pow]
  rcases Nat.lt_trichotomy i 63 with hi | hi | hi
  · rw [Nat.testBit_two_pow_add_gt hi, show decide (63 = i) = false by simp; omega, Bool.xor_false]
  · subst hi; rw [Nat.testBit_two_pow_add_eq]; simp [Nat.testBit_lt_two_pow h']
  · have a1 : x.testBit i = false := Nat.testBit_lt_two_pow (Nat.lt_of_lt_of_le h' (Nat.pow_le_pow_right (by decide) (by omega)))
    have a2 : (2 ^ 63 + x).testBit i = false := Nat.testBit_lt_two_pow (by
      have : 2 ^ 64 ≤ 2 ^ i := Nat.pow_le_pow_right (by decide) (by omega)
      omega)
    rw [a1, a2]; simp; omega
theorem neg_wd (neg : Bool) (e k : Nat) (he : e ≤ 2045) (k2 : k < 9007199254740992) : wd neg e k ^^^ 9223372036854775808 = wd (!neg) e k := by
  have hx : e * 4503599627370496 + k < 9223372036854775808 := by omega
  cases neg
  · unfold wd
    simp only [Bool.false_eq_true, if_false, Bool.not_false, if_true, Nat.zero_add]
    exact xor_sign _ hx
  · unfold wd
    simp only [Bool.not_true, Bool.false_eq_true, if_false, if_true, Nat.zero_add]
    rw [← xor_sign _ hx, Nat.xor_assoc, Nat.xor_self, Nat.xor_zero]
end Go.Proofs.Qxb6632248a.Fl
