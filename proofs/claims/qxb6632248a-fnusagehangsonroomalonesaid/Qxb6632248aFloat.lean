/-
  PLAIN MATHEMATICS OF float64 (no program): words of normal numbers, rounding, quotients, products. Over Ieee's core.
-/
import Ieee.Arith
namespace Go.Proofs.Qxb6632248a.Fl
open Ieee

/-- Rounding a fraction to the nearest whole number, ties to even. -/
def rne (n d : Nat) : Nat := n / d + (if d < 2 * (n % d) ∨ (d = 2 * (n % d) ∧ n / d % 2 = 1) then 1 else 0)

theorem rne_bounds (n d : Nat) (hd : 0 < d) : 2 * (rne n d * d) ≤ 2 * n + d ∧ 2 * n ≤ 2 * (rne n d * d) + d := by
  unfold rne
  have h := Nat.div_add_mod n d
  have hm := Nat.mod_lt n hd
  rw [Nat.mul_comm] at h
  split
  · rename_i hc
    rw [Nat.add_mul, Nat.one_mul]
    omega
  · rename_i hc
    rw [Nat.add_zero]
    omega

theorem cut_even (neg : Bool) (n drop : Nat) (h : drop ≤ n.log2 + 2) : Toward.even.cut neg n drop = rne n (2 ^ drop) := by
  unfold Toward.cut rne
  rw [Nat.min_eq_left h]
  simp only [Nat.shiftLeft_eq, Nat.one_mul]
  congr 1
  generalize 2 ^ drop = g
  generalize 2 * (n % g) = r
  generalize n / g % 2 = l
  by_cases h1 : g < r
  · simp [h1]
  · by_cases h2 : g = r
    · by_cases h3 : l = 1 <;> simp [h2, h3]
    · simp [h1, h2]

theorem rne_one (n : Nat) : rne n 1 = n := by
  unfold rne; simp [Nat.mod_one]

/-- An exact quotient is not rounded. -/
theorem rne_mul (k d : Nat) (hd : 0 < d) : rne (k * d) d = k := by
  unfold rne; simp [Nat.mul_div_cancel _ hd]; omega

/-- Between whole bounds rounding stays between them. -/
theorem rne_ge (n d c : Nat) (hd : 0 < d) (h : c * d ≤ n) : c ≤ rne n d := by
  have : c ≤ n / d := (Nat.le_div_iff_mul_le hd).2 h
  unfold rne; omega

theorem rne_le (n d c : Nat) (hd : 0 < d) (h : n ≤ c * d) : rne n d ≤ c := by
  have hb := (rne_bounds n d hd).1
  have h2 : 2 * (rne n d * d) ≤ 2 * (c * d) + d := by omega
  by_cases hlt : rne n d ≤ c
  · exact hlt
  · have h3 : (c + 1) * d ≤ rne n d * d := Nat.mul_le_mul_right d (by omega)
    rw [Nat.add_mul, Nat.one_mul] at h3
    omega

theorem rne_mono (m n d : Nat) (hd : 0 < d) (h : m ≤ n) : rne m d ≤ rne n d := by
  have hm := Nat.div_add_mod m d
  have hn := Nat.div_add_mod n d
  have hml := Nat.mod_lt m hd
  have hnl := Nat.mod_lt n hd
  have hq : m / d ≤ n / d := Nat.div_le_div_right h
  by_cases he : m / d = n / d
  · unfold rne
    rw [he] at hm ⊢
    have : m % d ≤ n % d := by omega
    split
    · rename_i hc
      rw [if_pos (by omega)]
      exact Nat.le_refl _
    · omega
  · unfold rne
    split <;> split <;> omega

theorem double_least : double.leastPlace = -1074 := by decide
theorem double_binade : double.binade = 4503599627370496 := by decide
theorem double_inf : double.infRung = 9218868437227405312 := by decide
theorem double_sign : double.signWeight = 9223372036854775808 := by decide
theorem double_frac : double.fractionBits = 52 := rfl

/-- The word of the normal number '± k * 2 ^ (e - 1074)'. -/
def wd (neg : Bool) (e k : Nat) : Nat := (if neg then 9223372036854775808 else 0) + (e * 4503599627370496 + k)

theorem read_wd (neg : Bool) (e k : Nat) (he : e ≤ 2045) (h1 : 4503599627370496 ≤ k) (h2 : k < 9007199254740992) : double.read (wd neg e k) = .number neg k ((e : Int) - 1074) := by
  unfold Format.read
  rw [double_sign, double_binade, double_inf, double_least]
  have hr : wd neg e k % 9223372036854775808 = e * 4503599627370496 + k := by unfold wd; split <;> omega
  have hn : (wd neg e k / 9223372036854775808 % 2 == 1) = neg := by
    unfold wd
    cases neg
    · simp; omega
    · simp; omega
  dsimp only
  rw [hr, hn, if_neg (by omega), if_pos (by omega)]
  congr 1 <;> omega

/-- 2B is the next binade's B. -/
theorem wd_carry (neg : Bool) (e : Nat) : wd neg e 9007199254740992 = wd neg (e + 1) 4503599627370496 := by unfold wd; omega

/-- The nearest word to a positive magnitude whose exponent lies in the normal range. -/
theorem nearest_norm (neg : Bool) (mag : Nat) (place : Int) (e : Nat) (h0 : mag ≠ 0) (he : (e : Int) = place + mag.log2 - 52 + 1074) (hhi : e ≤ 2044) :
    double.nearest neg mag place = wd neg e (if mag.log2 ≤ 52 then mag * 2 ^ (52 - mag.log2) else rne mag (2 ^ (mag.log2 - 52)))
    ∧ 4503599627370496 ≤ (if mag.log2 ≤ 52 then mag * 2 ^ (52 - mag.log2) else rne mag (2 ^ (mag.log2 - 52)))
    ∧ (if mag.log2 ≤ 52 then mag * 2 ^ (52 - mag.log2) else rne mag (2 ^ (mag.log2 - 52))) ≤ 9007199254740992 := by
  have hl := Nat.log2_self_le h0
  have hu := @Nat.lt_log2_self mag
  have hb : 4503599627370496 ≤ (if mag.log2 ≤ 52 then mag * 2 ^ (52 - mag.log2) else rne mag (2 ^ (mag.log2 - 52)))
    ∧ (if mag.log2 ≤ 52 then mag * 2 ^ (52 - mag.log2) else rne mag (2 ^ (mag.log2 - 52))) ≤ 9007199254740992 := by
    split
    · rename_i hc
      have h1 : 2 ^ mag.log2 * 2 ^ (52 - mag.log2) ≤ mag * 2 ^ (52 - mag.log2) := Nat.mul_le_mul_right _ hl
      have h2 : mag * 2 ^ (52 - mag.log2) ≤ 2 ^ (mag.log2 + 1) * 2 ^ (52 - mag.log2) := Nat.mul_le_mul_right _ (by omega)
      rw [← Nat.pow_add] at h1 h2
      rw [show mag.log2 + (52 - mag.log2) = 52 by omega] at h1
      rw [show mag.log2 + 1 + (52 - mag.log2) = 53 by omega] at h2
      omega
    · rename_i hc
      constructor
      · refine rne_ge _ _ _ (Nat.two_pow_pos _) ?_
        rw [show (4503599627370496 : Nat) = 2 ^ 52 by decide, ← Nat.pow_add, show 52 + (mag.log2 - 52) = mag.log2 by omega]
        exact hl
      · refine rne_le _ _ _ (Nat.two_pow_pos _) ?_
        rw [show (9007199254740992 : Nat) = 2 ^ 53 by decide, ← Nat.pow_add, show 53 + (mag.log2 - 52) = mag.log2 + 1 by omega]
        omega
  refine ⟨?_, hb⟩
  unfold Format.nearest
  rw [if_neg h0]
  dsimp only
  rw [double_least, double_binade, double_inf, double_frac]
  have hlast : max (place + (mag.log2 : Int) - ((52 : Nat) : Int)) (-1074) = (e : Int) - 1074 := by omega
  rw [hlast]
  have hk : Toward.even.cut neg (mag <<< (place - ((e : Int) - 1074)).toNat) (((e : Int) - 1074) - place).toNat = (if mag.log2 ≤ 52 then mag * 2 ^ (52 - mag.log2) else rne mag (2 ^ (mag.log2 - 52))) := by
    by_cases hc : mag.log2 ≤ 52
    · rw [if_pos hc]
      rw [show (((e : Int) - 1074) - place).toNat = 0 by omega, show (place - ((e : Int) - 1074)).toNat = 52 - mag.log2 by omega]
      rw [cut_even _ _ _ (by omega), Nat.pow_zero, rne_one, Nat.shiftLeft_eq]
    · rw [if_neg hc]
      rw [show (((e : Int) - 1074) - place).toNat = mag.log2 - 52 by omega, show (place - ((e : Int) - 1074)).toNat = 0 by omega]
      rw [Nat.shiftLeft_zero, cut_even _ _ _ (by omega)]
  rw [hk]
  generalize (if mag.log2 ≤ 52 then mag * 2 ^ (52 - mag.log2) else rne mag (2 ^ (mag.log2 - 52))) = K at hb ⊢
  unfold Format.word wd
  rw [double_sign, show ((e : Int) - 1074 - -1074).toNat = e by omega, Nat.min_eq_left (by omega)]
  cases neg <;> simp

/-- A value that is a normal number's own: 'mag * 2 ^ place' with 'mag = k * 2 ^ t'. -/
theorem nearest_exact (neg : Bool) (k t : Nat) (place : Int) (e : Nat) (h1 : 4503599627370496 ≤ k) (h2 : k < 9007199254740992) (he : (e : Int) = place + t + 1074) (hhi : e ≤ 2044) :
    double.nearest neg (k * 2 ^ t) place = wd neg e k := by
  have hp := Nat.two_pow_pos t
  have h0 : k * 2 ^ t ≠ 0 := Nat.pos_iff_ne_zero.1 (Nat.mul_pos (by omega) hp)
  have hl : (k * 2 ^ t).log2 = 52 + t := by
    rw [Nat.log2_eq_iff h0]
    constructor
    · rw [Nat.pow_add]; exact Nat.mul_le_mul_right _ (by omega)
    · rw [show 52 + t + 1 = 53 + t by omega, Nat.pow_add]; exact Nat.mul_lt_mul_of_pos_right (by omega) hp
  have h := (nearest_norm neg (k * 2 ^ t) place e h0 (by rw [hl]; omega) hhi).1
  rw [h, hl]
  congr 1
  by_cases ht : t = 0
  · subst ht; simp
  · rw [if_neg (by omega), show 52 + t - 52 = t by omega, rne_mul _ _ hp]

/-- The significand of a quotient of normal significands. -/
def quo (M N : Nat) : Nat :=
  if N ≤ M then rne (2 * (M * 2 ^ 54 / N) + (M * 2 ^ 54 % N != 0).toNat) 8
  else rne (2 * (M * 2 ^ 54 / N) + (M * 2 ^ 54 % N != 0).toNat) 4

theorem log2_norm (k : Nat) (h1 : 4503599627370496 ≤ k) (h2 : k < 9007199254740992) : k.log2 = 52 := by
  rw [Nat.log2_eq_iff (by omega)]; omega

/-- The quotient of two normal numbers, its exponent in the normal range. -/
theorem div_wd (s t : Bool) (a M b N : Nat) (ha : a ≤ 2045) (hb : b ≤ 2045)
    (hM : 4503599627370496 ≤ M) (hM' : M < 9007199254740992) (hN : 4503599627370496 ≤ N) (hN' : N < 9007199254740992)
    (e : Nat) (he : (e : Int) = (a : Int) - b + 1022 - (if N ≤ M then 0 else 1)) (hhi : e ≤ 2044) :
    double.div (wd s a M) (wd t b N) = some (wd (s ^^ t) e (quo M N)) ∧ 4503599627370496 ≤ quo M N ∧ quo M N ≤ 9007199254740992 := by
  unfold Format.div
  rw [read_wd s a M ha hM hM', read_wd t b N hb hN hN']
  unfold Datum.quotient
  dsimp only
  rw [if_neg (by omega), log2_norm M hM hM', log2_norm N hN hN', double_frac]
  dsimp only [Option.map]
  rw [show 52 + 2 + 52 - 52 = 54 by rfl, Nat.shiftLeft_eq]
  unfold Format.write quo
  dsimp only
  have hq : M * 2 ^ 54 / N < 2 ^ 55 ∧ 2 ^ 53 ≤ M * 2 ^ 54 / N := by
    constructor
    · rw [Nat.div_lt_iff_lt_mul (by omega)]; omega
    · rw [Nat.le_div_iff_mul_le (by omega)]; omega
  have hst : (M * 2 ^ 54 % N != 0).toNat ≤ 1 := by cases (M * 2 ^ 54 % N != 0) <;> simp
  by_cases hc : N ≤ M
  · rw [if_pos hc] at he
    have hq2 : 2 ^ 54 ≤ M * 2 ^ 54 / N := by rw [Nat.le_div_iff_mul_le (by omega)]; omega
    rw [if_pos hc]
    generalize hm : 2 * (M * 2 ^ 54 / N) + (M * 2 ^ 54 % N != 0).toNat = mag
    have hlog : mag.log2 = 55 := by rw [Nat.log2_eq_iff (by omega)]; omega
    have h := nearest_norm (s ^^ t) mag ((a : Int) - 1074 - ((b : Int) - 1074) - ((54 : Nat) : Int) - 1) e (by omega) (by rw [hlog]; omega) hhi
    rw [hlog, if_neg (by omega)] at h
    rw [h.1]
    exact ⟨rfl, h.2⟩
  · rw [if_neg hc] at he
    have hq2 : M * 2 ^ 54 / N < 2 ^ 54 := by rw [Nat.div_lt_iff_lt_mul (by omega)]; omega
    rw [if_neg hc]
    generalize hm : 2 * (M * 2 ^ 54 / N) + (M * 2 ^ 54 % N != 0).toNat = mag
    have hlog : mag.log2 = 54 := by rw [Nat.log2_eq_iff (by omega)]; omega
    have h := nearest_norm (s ^^ t) mag ((a : Int) - 1074 - ((b : Int) - 1074) - ((54 : Nat) : Int) - 1) e (by omega) (by rw [hlog]; omega) hhi
    rw [hlog, if_neg (by omega)] at h
    rw [h.1]
    exact ⟨rfl, h.2⟩

/-- How near the rounded quotient is. -/
theorem quo_near (M N : Nat) (hN : 0 < N) (h : N ≤ M) : (2 * quo M N) * N ≤ M * 2 ^ 53 + N ∧ M * 2 ^ 53 ≤ (2 * quo M N + 1) * N := by
  unfold quo
  rw [if_pos h]
  have hd := Nat.div_add_mod (M * 2 ^ 54) N
  have hl := Nat.mod_lt (M * 2 ^ 54) hN
  generalize M * 2 ^ 54 / N = q at *
  generalize hr : M * 2 ^ 54 % N = r at *
  have hb := rne_bounds (2 * q + (r != 0).toNat) 8 (by omega)
  generalize rne (2 * q + (r != 0).toNat) 8 = k at *
  have hst : ((r != 0).toNat = 0 ∧ r = 0) ∨ ((r != 0).toNat = 1) := by by_cases h0 : r = 0 <;> simp [h0]
  have hE : M * 2 ^ 54 = 2 * (M * 2 ^ 53) := by omega
  have c1 : 4 * k ≤ q + 2 := by omega
  have c2 : q + 1 ≤ 4 * k + 2 ∨ (q ≤ 4 * k + 2 ∧ r = 0) := by omega
  have m1 : (4 * k) * N ≤ (q + 2) * N := Nat.mul_le_mul_right N c1
  have e1 : (q + 2) * N = N * q + 2 * N := by rw [Nat.add_mul, Nat.mul_comm]
  have e2 : (4 * k) * N = 2 * ((2 * k) * N) := by rw [show 4 * k = 2 * (2 * k) by omega, Nat.mul_assoc]
  refine ⟨by omega, ?_⟩
  rw [Nat.add_mul, Nat.one_mul]
  rcases c2 with c2 | ⟨c2, c3⟩
  · have m2 : (q + 1) * N ≤ (4 * k + 2) * N := Nat.mul_le_mul_right N c2
    rw [Nat.add_mul, Nat.one_mul, Nat.add_mul, Nat.mul_comm q N] at m2
    omega
  · have m2 : q * N ≤ (4 * k + 2) * N := Nat.mul_le_mul_right N c2
    rw [Nat.add_mul, Nat.mul_comm q N] at m2
    omega

theorem quo_near' (M N : Nat) (hN : 0 < N) (h : ¬ N ≤ M) : (2 * quo M N) * N ≤ M * 2 ^ 54 + N ∧ M * 2 ^ 54 ≤ (2 * quo M N + 1) * N := by
  unfold quo
  rw [if_neg h]
  have hd := Nat.div_add_mod (M * 2 ^ 54) N
  have hl := Nat.mod_lt (M * 2 ^ 54) hN
  generalize M * 2 ^ 54 / N = q at *
  generalize hr : M * 2 ^ 54 % N = r at *
  have hb := rne_bounds (2 * q + (r != 0).toNat) 4 (by omega)
  generalize rne (2 * q + (r != 0).toNat) 4 = k at *
  have hst : ((r != 0).toNat = 0 ∧ r = 0) ∨ ((r != 0).toNat = 1) := by by_cases h0 : r = 0 <;> simp [h0]
  have c1 : 2 * k ≤ q + 1 := by omega
  have c2 : q + 1 ≤ 2 * k + 1 ∨ (q ≤ 2 * k + 1 ∧ r = 0) := by omega
  have m1 : (2 * k) * N ≤ (q + 1) * N := Nat.mul_le_mul_right N c1
  rw [Nat.add_mul q, Nat.one_mul, Nat.mul_comm q N] at m1
  refine ⟨by omega, ?_⟩
  rcases c2 with c2 | ⟨c2, c3⟩
  · have m2 : (q + 1) * N ≤ (2 * k + 1) * N := Nat.mul_le_mul_right N c2
    rw [Nat.add_mul q, Nat.one_mul, Nat.mul_comm q N] at m2
    omega
  · have m2 : q * N ≤ (2 * k + 1) * N := Nat.mul_le_mul_right N c2
    rw [Nat.mul_comm q N] at m2
    omega

/-- 'float64(n)' of a whole number below 2^53 is exact. -/
theorem ofNat_exact (n : Nat) (h0 : n ≠ 0) (h : n < 9007199254740992) :
    double.nearest false n 0 = wd false (1022 + n.log2) (n * 2 ^ (52 - n.log2))
    ∧ 4503599627370496 ≤ n * 2 ^ (52 - n.log2) ∧ n * 2 ^ (52 - n.log2) < 9007199254740992 ∧ n.log2 ≤ 52 := by
  have hl : n.log2 ≤ 52 := by
    have := (Nat.log2_lt h0 (k := 53)).2 (by omega)
    omega
  have h1 := nearest_norm false n 0 (1022 + n.log2) h0 (by omega) (by omega)
  rw [if_pos hl] at h1
  refine ⟨h1.1, h1.2.1, ?_, hl⟩
  have hu := @Nat.lt_log2_self n
  have h2 : n * 2 ^ (52 - n.log2) < 2 ^ (n.log2 + 1) * 2 ^ (52 - n.log2) := Nat.mul_lt_mul_of_pos_right hu (Nat.two_pow_pos _)
  rw [← Nat.pow_add, show n.log2 + 1 + (52 - n.log2) = 53 by omega] at h2
  exact h2

/-- The order of two positive normal numbers is the order of their words. -/
theorem order_wd (a M b N : Nat) (ha : a ≤ 2045) (hb : b ≤ 2045) (hM : 4503599627370496 ≤ M) (hM' : M < 9007199254740992) (hN : 4503599627370496 ≤ N) (hN' : N < 9007199254740992) :
    double.order (wd false a M) (wd false b N) = some (compare (wd false a M) (wd false b N)) := by
  unfold Format.order
  rw [read_wd false a M ha hM hM', read_wd false b N hb hN hN']
  unfold Datum.order
  dsimp only
  congr 1
  unfold signed
  simp only [Bool.false_eq_true, if_false, Nat.shiftLeft_eq]
  rcases Nat.lt_trichotomy a b with hab | hab | hab
  · rw [show ((a : Int) - 1074 - min ((a : Int) - 1074) ((b : Int) - 1074)).toNat = 0 by omega, show ((b : Int) - 1074 - min ((a : Int) - 1074) ((b : Int) - 1074)).toNat = (b - a - 1) + 1 by omega]
    have h1 : N * 2 ^ 1 ≤ N * 2 ^ (b - a - 1 + 1) := Nat.mul_le_mul_left N (Nat.pow_le_pow_right (by omega) (by omega))
    generalize N * 2 ^ (b - a - 1 + 1) = X at *
    have e1 : compare ((M * 2 ^ 0 : Nat) : Int) (X : Int) = .lt := Std.compare_eq_lt.2 (by omega)
    have e2 : compare (wd false a M) (wd false b N) = .lt := Std.compare_eq_lt.2 (by unfold wd; simp; omega)
    rw [e1, e2]
  · subst hab
    rw [show ((a : Int) - 1074 - min ((a : Int) - 1074) ((a : Int) - 1074)).toNat = 0 by omega]
    rcases Nat.lt_trichotomy M N with h | h | h
    · have e1 : compare ((M * 2 ^ 0 : Nat) : Int) ((N * 2 ^ 0 : Nat) : Int) = .lt := Std.compare_eq_lt.2 (by omega)
      have e2 : compare (wd false a M) (wd false a N) = .lt := Std.compare_eq_lt.2 (by unfold wd; simp; omega)
      rw [e1, e2]
    · subst h; simp [Std.compare_self]
    · have e1 : compare ((M * 2 ^ 0 : Nat) : Int) ((N * 2 ^ 0 : Nat) : Int) = .gt := Std.compare_eq_gt.2 (by omega)
      have e2 : compare (wd false a M) (wd false a N) = .gt := Std.compare_eq_gt.2 (by unfold wd; simp; omega)
      rw [e1, e2]
  · rw [show ((b : Int) - 1074 - min ((a : Int) - 1074) ((b : Int) - 1074)).toNat = 0 by omega, show ((a : Int) - 1074 - min ((a : Int) - 1074) ((b : Int) - 1074)).toNat = (a - b - 1) + 1 by omega]
    have h1 : M * 2 ^ 1 ≤ M * 2 ^ (a - b - 1 + 1) := Nat.mul_le_mul_left M (Nat.pow_le_pow_right (by omega) (by omega))
    generalize M * 2 ^ (a - b - 1 + 1) = X at *
    have e1 : compare (X : Int) ((N * 2 ^ 0 : Nat) : Int) = .gt := Std.compare_eq_gt.2 (by omega)
    have e2 : compare (wd false a M) (wd false b N) = .gt := Std.compare_eq_gt.2 (by unfold wd; simp; omega)
    rw [e1, e2]

end Go.Proofs.Qxb6632248a.Fl
