/-
  PLAIN MATHEMATICS OF 'Every' (no program): the float64 nearest to 1e9 / n.
-/
import Derived.Test.Qxb6631266aFloat
namespace Go.Proofs.Qxb6631266a.Fl
open Ieee

/-- The significand of float64(n), n below 2^53. -/
def sig (n : Nat) : Nat := n * 2 ^ (52 - n.log2)
/-- 1 where 1e9's significand is below n's. -/
def low (n : Nat) : Nat := if sig n ≤ 8388608000000000 then 0 else 1
/-- The word of 1e9 / n. -/
def ev (n : Nat) : Nat := wd false (1051 - n.log2 - low n) (quo 8388608000000000 (sig n))

theorem low_le (n : Nat) : low n ≤ 1 := by unfold low; split <;> omega

theorem ev_div (n : Nat) (h0 : n ≠ 0) (h : n < 9007199254740992) :
    double.div 4741671816366391296 (double.nearest false n 0) = some (ev n) ∧ 4503599627370496 ≤ quo 8388608000000000 (sig n) ∧ quo 8388608000000000 (sig n) ≤ 9007199254740992 := by
  obtain ⟨h1, h2, h3, h4⟩ := ofNat_exact n h0 h
  rw [h1]
  have hw : (4741671816366391296 : Nat) = wd false 1051 8388608000000000 := by decide
  rw [hw]
  have hl : (if sig n ≤ 8388608000000000 then (0 : Int) else 1) = (low n : Int) := by unfold low; split <;> rfl
  have hlo := low_le n
  exact div_wd false false 1051 8388608000000000 (1022 + n.log2) (sig n) (by omega) (by omega) (by omega) (by omega) h2 h3 (1051 - n.log2 - low n) (by rw [hl]; omega) (by omega)

/-- What the quotient is: with s = 23 + log2 n + low n, it is k * 2^-s, k nearest to 1e9 * 2^s / n. -/
theorem ev_near (n : Nat) (h0 : n ≠ 0) (h : n < 9007199254740992) :
    4503599627370496 * n ≤ 1000000000 * 2 ^ (23 + n.log2 + low n) ∧ 1000000000 * 2 ^ (23 + n.log2 + low n) < 9007199254740992 * n
    ∧ 2 * quo 8388608000000000 (sig n) * n ≤ 2 * (1000000000 * 2 ^ (23 + n.log2 + low n)) + n
    ∧ 2 * (1000000000 * 2 ^ (23 + n.log2 + low n)) ≤ (2 * quo 8388608000000000 (sig n) + 1) * n := by
  obtain ⟨-, h2, h3, h4⟩ := ofNat_exact n h0 h
  have hs : sig n = n * 2 ^ (52 - n.log2) := rfl
  rw [← hs] at h2 h3
  have hP := Nat.two_pow_pos n.log2
  have hR := Nat.two_pow_pos (52 - n.log2)
  have hPR : 2 ^ n.log2 * 2 ^ (52 - n.log2) = 4503599627370496 := by
    rw [← Nat.pow_add, show n.log2 + (52 - n.log2) = 52 by omega]
  have hX : ∀ c, 1000000000 * 2 ^ (23 + n.log2 + c) = 8388608000000000 * (2 ^ n.log2 * 2 ^ c) := by
    intro c
    rw [Nat.add_assoc, Nat.pow_add, Nat.pow_add]; omega
  rw [hX]
  generalize 2 ^ n.log2 = P at *
  generalize 2 ^ (52 - n.log2) = R at *
  have hN : n * 4503599627370496 = sig n * P := by rw [hs, ← hPR, Nat.mul_assoc, Nat.mul_comm P R]
  by_cases hc : sig n ≤ 8388608000000000
  · have hlow : low n = 0 := by unfold low; rw [if_pos hc]
    rw [hlow, Nat.pow_zero, Nat.mul_one]
    obtain ⟨q1, q2⟩ := quo_near 8388608000000000 (sig n) (by omega) hc
    generalize quo 8388608000000000 (sig n) = k at *
    have a1 : sig n * P ≤ 8388608000000000 * P := Nat.mul_le_mul_right P hc
    have a2 : 8388608000000000 * P < 2 * sig n * P := Nat.mul_lt_mul_of_pos_right (by omega) hP
    rw [Nat.mul_assoc 2 (sig n) P] at a2
    have b1 : (2 * k * n) * R ≤ (2 * (8388608000000000 * P) + n) * R := by
      rw [Nat.add_mul, ← hs, Nat.mul_assoc, ← hs, show 2 * (8388608000000000 * P) * R = 8388608000000000 * 2 ^ 53 by rw [Nat.mul_assoc, Nat.mul_assoc, hPR]]
      exact q1
    have b2 : (2 * (8388608000000000 * P)) * R ≤ ((2 * k + 1) * n) * R := by
      rw [Nat.mul_assoc (2 * k + 1), ← hs, show 2 * (8388608000000000 * P) * R = 8388608000000000 * 2 ^ 53 by rw [Nat.mul_assoc, Nat.mul_assoc, hPR]]
      exact q2
    exact ⟨by omega, by omega, Nat.le_of_mul_le_mul_right b1 hR, Nat.le_of_mul_le_mul_right b2 hR⟩
  · have hlow : low n = 1 := by unfold low; rw [if_neg hc]
    rw [hlow, Nat.pow_one]
    obtain ⟨q1, q2⟩ := quo_near' 8388608000000000 (sig n) (by omega) hc
    generalize quo 8388608000000000 (sig n) = k at *
    have a1 : 8388608000000000 * P < sig n * P := Nat.mul_lt_mul_of_pos_right (by omega) hP
    have a2 : sig n * P ≤ (2 * 8388608000000000) * P := Nat.mul_le_mul_right P (by omega)
    have b1 : (2 * k * n) * R ≤ (2 * (8388608000000000 * (P * 2)) + n) * R := by
      rw [Nat.add_mul, ← hs, Nat.mul_assoc, ← hs, show 2 * (8388608000000000 * (P * 2)) * R = 8388608000000000 * 2 ^ 54 by
        rw [show 2 * (8388608000000000 * (P * 2)) = 4 * 8388608000000000 * P by omega, Nat.mul_assoc, hPR]]
      exact q1
    have b2 : (2 * (8388608000000000 * (P * 2))) * R ≤ ((2 * k + 1) * n) * R := by
      rw [Nat.mul_assoc (2 * k + 1), ← hs, show 2 * (8388608000000000 * (P * 2)) * R = 8388608000000000 * 2 ^ 54 by
        rw [show 2 * (8388608000000000 * (P * 2)) = 4 * 8388608000000000 * P by omega, Nat.mul_assoc, hPR]]
      exact q2
    exact ⟨by omega, by omega, Nat.le_of_mul_le_mul_right b1 hR, Nat.le_of_mul_le_mul_right b2 hR⟩

/-- As a normal number: 'k * 2^-s' with k in [2^52, 2^53), and |k n - 1e9 2^s| ≤ half an n; near: as the law asks. -/
theorem ev_norm (n : Nat) (h0 : n ≠ 0) (h : n < 9007199254740992) :
    ∃ s k, ev n = wd false (1074 - s) k ∧ 22 ≤ s ∧ s ≤ 76 ∧ 4503599627370496 ≤ k ∧ k < 9007199254740992
    ∧ 2 * k * n ≤ 2 * (1000000000 * 2 ^ s) + n ∧ 2 * (1000000000 * 2 ^ s) ≤ (2 * k + 1) * n ∧ 4503599627370496 * n ≤ 2 * (1000000000 * 2 ^ s)
    ∧ 4503599627370496 * (2 * k * n) ≤ 9007199254740993 * (1000000000 * 2 ^ s) ∧ 9007199254740991 * (1000000000 * 2 ^ s) ≤ 4503599627370496 * (2 * k * n)
    ∧ (k = 4503599627370496 → (4 * k - 1) * n ≤ 4 * (1000000000 * 2 ^ s)) := by
  obtain ⟨-, k1, k2⟩ := ev_div n h0 h
  obtain ⟨a1, a2, a3, a4⟩ := ev_near n h0 h
  obtain ⟨-, -, -, h4⟩ := ofNat_exact n h0 h
  have hlo := low_le n
  have hev : ev n = wd false (1051 - n.log2 - low n) (quo 8388608000000000 (sig n)) := rfl
  generalize quo 8388608000000000 (sig n) = k at *
  by_cases hk : k = 9007199254740992
  · subst hk
    refine ⟨22 + n.log2 + low n, 4503599627370496, ?_, by omega, by omega, by omega, by omega, ?_⟩
    · rw [hev, wd_carry, show 1051 - n.log2 - low n + 1 = 1074 - (22 + n.log2 + low n) by omega]
    · have e : 1000000000 * 2 ^ (23 + n.log2 + low n) = 2 * (1000000000 * 2 ^ (22 + n.log2 + low n)) := by
        rw [show 23 + n.log2 + low n = 22 + n.log2 + low n + 1 by omega, Nat.pow_succ]; omega
      rw [e] at a1 a2 a3 a4
      refine ⟨by omega, by omega, by omega, by omega, by omega, fun _ => by omega⟩
  · have d1 : 2 * k * n = 2 * (k * n) := Nat.mul_assoc 2 k n
    have d2 : (2 * k + 1) * n = 2 * (k * n) + n := by rw [Nat.add_mul, Nat.one_mul, d1]
    refine ⟨23 + n.log2 + low n, k, ?_, by omega, by omega, by omega, by omega, a3, a4, by omega, by omega, by omega, ?_⟩
    · rw [hev, show 1051 - n.log2 - low n = 1074 - (23 + n.log2 + low n) by omega]
    · intro hk'; subst hk'; omega

/-- Doubling the interval. -/
theorem ev_two (n : Nat) (h0 : n ≠ 0) (h : n < 4503599627370496) :
    double.div (ev n) 4611686018427387904 = some (ev (2 * n)) ∧ ∃ s k, ev (2 * n) = wd false (1073 - s) k ∧ ev n = wd false (1074 - s) k ∧ 22 ≤ s ∧ s ≤ 76 ∧ 4503599627370496 ≤ k ∧ k < 9007199254740992 := by
  obtain ⟨-, k1, k2⟩ := ev_div n h0 (by omega)
  obtain ⟨-, -, -, h4⟩ := ofNat_exact n h0 (by omega)
  have hl2 : (2 * n).log2 = n.log2 + 1 := Nat.log2_two_mul h0
  have hl51 : n.log2 ≤ 51 := by have := (Nat.log2_lt h0 (k := 52)).2 (by omega); omega
  have hsig : sig (2 * n) = sig n := by
    unfold sig
    rw [hl2, show 52 - n.log2 = 52 - (n.log2 + 1) + 1 by omega, Nat.pow_succ, Nat.mul_comm 2 n, Nat.mul_assoc, Nat.mul_comm 2]
  have hlow : low (2 * n) = low n := by unfold low; rw [hsig]
  have hlo := low_le n
  have e2 : ev (2 * n) = wd false (1050 - n.log2 - low n) (quo 8388608000000000 (sig n)) := by
    unfold ev; rw [hsig, hlow, hl2, show 1051 - (n.log2 + 1) - low n = 1050 - n.log2 - low n by omega]
  have e1 : ev n = wd false (1051 - n.log2 - low n) (quo 8388608000000000 (sig n)) := rfl
  generalize quo 8388608000000000 (sig n) = k at *
  obtain ⟨s, k', f1, f2, f3, f4, f5, f6⟩ : ∃ s k', ev (2 * n) = wd false (1073 - s) k' ∧ ev n = wd false (1074 - s) k' ∧ 22 ≤ s ∧ s ≤ 76 ∧ 4503599627370496 ≤ k' ∧ k' < 9007199254740992 := by
    by_cases hk : k = 9007199254740992
    · subst hk
      refine ⟨22 + n.log2 + low n, 4503599627370496, ?_, ?_, by omega, by omega, by omega, by omega⟩
      · rw [e2, wd_carry]; congr 1; omega
      · rw [e1, wd_carry]; congr 1; omega
    · refine ⟨23 + n.log2 + low n, k, ?_, ?_, by omega, by omega, by omega, by omega⟩
      · rw [e2]; congr 1; omega
      · rw [e1]; congr 1; omega
  refine ⟨?_, s, k', f1, f2, f3, f4, f5, f6⟩
  have htwo : (4611686018427387904 : Nat) = wd false 1023 4503599627370496 := by decide
  have hq : quo k' 4503599627370496 = k' := by
    unfold quo
    rw [if_pos f5]
    have m1 : k' * 2 ^ 54 / 4503599627370496 = 4 * k' := by omega
    have m2 : k' * 2 ^ 54 % 4503599627370496 = 0 := by omega
    rw [m1, m2, show 2 * (4 * k') + ((0 : Nat) != 0).toNat = k' * 8 by simp; omega]
    exact rne_mul k' 8 (by omega)
  rw [f1, f2, htwo]
  have hd := (div_wd false false (1074 - s) k' 1023 4503599627370496 (by omega) (by omega) f5 f6 (by omega) (by omega) (1073 - s) (by rw [if_pos f5]; omega) (by omega)).1
  rw [hq] at hd
  exact hd

/-- A longer interval never gives a greater rate. -/
theorem ev_mono (n : Nat) (h0 : n ≠ 0) (h : n < 4503599627370496) : ev (n + 1) ≤ ev n := by
  obtain ⟨-, k1, k2⟩ := ev_div n h0 (by omega)
  obtain ⟨a1, a2, a3, a4⟩ := ev_near n h0 (by omega)
  obtain ⟨-, -, -, h4⟩ := ofNat_exact n h0 (by omega)
  have hlo := low_le n
  obtain ⟨-, k1', k2'⟩ := ev_div (n + 1) (by omega) (by omega)
  obtain ⟨a1', a2', a3', a4'⟩ := ev_near (n + 1) (by omega) (by omega)
  obtain ⟨-, -, -, h4'⟩ := ofNat_exact (n + 1) (by omega) (by omega)
  have hlo' := low_le (n + 1)
  unfold ev
  rw [show 1051 - n.log2 - low n = 1074 - (23 + n.log2 + low n) by omega, show 1051 - (n + 1).log2 - low (n + 1) = 1074 - (23 + (n + 1).log2 + low (n + 1)) by omega]
  generalize quo 8388608000000000 (sig n) = k at *
  generalize quo 8388608000000000 (sig (n + 1)) = k' at *
  have hs1 : 23 + n.log2 + low n ≤ 76 := by omega
  have hs2 : 23 + (n + 1).log2 + low (n + 1) ≤ 76 := by omega
  generalize 23 + n.log2 + low n = s at *
  generalize 23 + (n + 1).log2 + low (n + 1) = s' at *
  have hss : s ≤ s' := by
    refine Nat.le_of_not_lt fun hlt => ?_
    have : 2 ^ (s' + 1) ≤ 2 ^ s := Nat.pow_le_pow_right (by omega) hlt
    rw [Nat.pow_succ] at this
    omega
  unfold wd
  by_cases he : s' = s
  · subst he
    have hk : k' ≤ k := by
      refine Nat.le_of_not_lt fun hlt => ?_
      have m : (2 * (k + 1)) * (n + 1) ≤ 2 * k' * (n + 1) := Nat.mul_le_mul_right (n + 1) (by omega)
      have e : (2 * (k + 1)) * (n + 1) = (2 * k + 1) * n + n + 2 * k + 2 := by
        rw [show 2 * (k + 1) = 2 * k + 1 + 1 by omega, Nat.add_mul, Nat.mul_add]; omega
      omega
    omega
  · have : s + 1 ≤ s' := by omega
    omega

/-- The rate times the interval, rounded: 1e9 to within one unit of its last place. -/
theorem ev_mul (n : Nat) (h0 : n ≠ 0) (h : n < 9007199254740992) :
    double.mul (ev n) (double.nearest false n 0) = some 4741671816366391295 ∨ double.mul (ev n) (double.nearest false n 0) = some 4741671816366391296 ∨ double.mul (ev n) (double.nearest false n 0) = some 4741671816366391297 := by
  obtain ⟨s, k, he, s1, s2, k1, k2, n1, n2, n3, n4, n5, -⟩ := ev_norm n h0 h
  obtain ⟨hf, g1, g2, hl⟩ := ofNat_exact n h0 h
  have hln := Nat.log2_self_le h0
  -- y = 2^(s - 22): 1e9 2^s = 1e9 2^22 y
  have hX : 1000000000 * 2 ^ s = 4194304000000000 * 2 ^ (s - 22) := by
    have : 2 ^ s = 2 ^ 22 * 2 ^ (s - 22) := by rw [← Nat.pow_add, show 22 + (s - 22) = s by omega]
    omega
  -- n ≤ 1.87 y
  rw [hX] at n1 n2 n3 n4 n5
  have d1 : 2 * k * n = 2 * (k * n) := Nat.mul_assoc 2 k n
  have d2 : (2 * k + 1) * n = 2 * (k * n) + n := by rw [Nat.add_mul, Nat.one_mul, d1]
  rw [d1] at n1 n4 n5; rw [d2] at n2
  -- the exact product: k * sig at place (-s) + (log2 n - 52)
  have hp : k * (n * 2 ^ (52 - n.log2)) = (k * n) * 2 ^ (52 - n.log2) := (Nat.mul_assoc k n _).symm
  -- s + 29 - log2 n is natural
  have ht : n.log2 ≤ s := by
    have : n.log2 < s + 1 := by
      rw [Nat.log2_lt h0]
      have e1 : 2 ^ (s + 1) = 2 ^ 23 * 2 ^ (s - 22) := by rw [← Nat.pow_add, show 23 + (s - 22) = s + 1 by omega]
      omega
    omega
  have hc := Nat.two_pow_pos (52 - n.log2)
  have hy := Nat.two_pow_pos (s - 22)
  have hT : 2 ^ (s + 29 - n.log2) * 2 = 2 ^ (52 - n.log2) * 2 ^ (s - 22) := by
    rw [← Nat.pow_succ, ← Nat.pow_add]; congr 1; omega
  -- |k n - G y/2| < y/2 where G = 8388608000000000
  have b1 : 2 * (k * n) < 8388608000000001 * 2 ^ (s - 22) := by omega
  have b2 : 8388607999999999 * 2 ^ (s - 22) < 2 * (k * n) := by omega
  have c1 : (2 * (k * n)) * 2 ^ (52 - n.log2) < (8388608000000001 * 2 ^ (s - 22)) * 2 ^ (52 - n.log2) := Nat.mul_lt_mul_of_pos_right b1 hc
  have c2 : (8388607999999999 * 2 ^ (s - 22)) * 2 ^ (52 - n.log2) < (2 * (k * n)) * 2 ^ (52 - n.log2) := Nat.mul_lt_mul_of_pos_right b2 hc
  rw [Nat.mul_assoc, Nat.mul_assoc 8388608000000001, Nat.mul_comm (2 ^ (s - 22)), ← hT] at c1
  rw [Nat.mul_assoc, Nat.mul_assoc 2, Nat.mul_comm (2 ^ (s - 22)), ← hT] at c2
  have hread : double.mul (ev n) (double.nearest false n 0) = some (double.nearest false (k * n * 2 ^ (52 - n.log2)) (-(s : Int) + ((n.log2 : Int) - 52))) := by
    unfold Format.mul
    rw [he, hf, read_wd false (1074 - s) k (by omega) k1 k2, read_wd false (1022 + n.log2) _ (by omega) g1 g2]
    unfold Datum.product Format.write
    dsimp only [Option.map]
    rw [hp]
    congr 2
    omega
  rw [hread]
  have ht' : 2 ^ (s + 29 - n.log2 + 52) = 2 ^ (s + 29 - n.log2) * 4503599627370496 := by rw [Nat.pow_add]
  have ht'' : 2 ^ (s + 29 - n.log2 + 53) = 2 ^ (s + 29 - n.log2) * 9007199254740992 := by rw [Nat.pow_add]
  have hpos := Nat.two_pow_pos (s + 29 - n.log2)
  generalize hm : k * n * 2 ^ (52 - n.log2) = mag at *
  have hlog : mag.log2 = s + 29 - n.log2 + 52 := by
    rw [Nat.log2_eq_iff (by omega), show s + 29 - n.log2 + 52 + 1 = s + 29 - n.log2 + 53 by omega, ht', ht'']
    omega
  have hn := (nearest_norm false mag (-(s : Int) + ((n.log2 : Int) - 52)) 1051 (by omega) (by rw [hlog]; omega) (by omega)).1
  rw [hlog, if_neg (by omega), show s + 29 - n.log2 + 52 - 52 = s + 29 - n.log2 by omega] at hn
  rw [hn]
  obtain ⟨r1, r2⟩ := rne_bounds mag (2 ^ (s + 29 - n.log2)) hpos
  generalize rne mag (2 ^ (s + 29 - n.log2)) = K at *
  generalize 2 ^ (s + 29 - n.log2) = T at *
  have u1 : K ≤ 8388608000000001 := by
    refine Nat.le_of_not_lt fun hlt => ?_
    have : 8388608000000002 * T ≤ K * T := Nat.mul_le_mul_right T hlt
    omega
  have u2 : 8388607999999999 ≤ K := by
    refine Nat.le_of_not_lt fun hlt => ?_
    have : K * T ≤ 8388607999999998 * T := Nat.mul_le_mul_right T (by omega)
    omega
  unfold wd
  simp only [Bool.false_eq_true, if_false, Option.some.injEq]
  omega

/-- The rest of the third test: closed reckonings. -/
theorem sub_lo : double.sub 4741671816366391295 4741671816366391296 = some 13726971664225271808 := by decide +kernel
theorem sub_eq : double.sub 4741671816366391296 4741671816366391296 = some 0 := by decide +kernel
theorem sub_hi : double.sub 4741671816366391297 4741671816366391296 = some 4503599627370496000 := by decide +kernel

end Go.Proofs.Qxb6631266a.Fl
