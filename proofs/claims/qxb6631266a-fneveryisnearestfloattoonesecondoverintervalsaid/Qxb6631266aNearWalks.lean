/-
  THE WALKS OF zzMul64, zzShl, zzLess128 AND OF THE LAW 'nearest float to one second over the interval'.
-/
import Derived.Test.Qxb6631266aWalks
import Derived.Test.Qxb6631266aNear
import Derived.Laws.MathBits
import Derived.LoopTactic
namespace Go.Proofs.Qxb6631266a.NearWalks
open Go.RowKit
set_option linter.unusedVariables false

/-! ### STEP 1: THE WALK: the Go text returns true. -/
/-- zzMul64: the full product, by words. -/
theorem mul_any (x y : Int) (w : World) (hx : 0 ≤ x) (hx' : x < 18446744073709551616) (hy : 0 ≤ y) (hy' : y < 18446744073709551616) :
    Calls Try.prog 6 #[.int .u64 x, .int .u64 y] w fun e w' => e = .returned (.tuple #[.int .u64 (x * y / 18446744073709551616), .int .u64 (x * y % 18446744073709551616)]) ∧ w' = w := by
  have e1 := mul64_arith x y hx hx' hy hy'
  go_enter Try.func6, Try.ntmps6
  go_wp2
  go_ret2
  refine ⟨?_, rfl⟩
  rw [← e1]
  simp only [IntKind.wrap_u64, and_low32 x hx hx', and_low32 y hy hy']
  rw [and_low32 _ (by omega) (by omega)]
  rfl

/-- zzShl at 4e9. -/
theorem shl_lo (s : Nat) (w : World) (hx : 0 < s) (hx' : s < 64) :
    Calls Try.prog 7 #[.int .u64 4000000000, .int .i64 s] w fun e w' => e = .returned (.tuple #[.int .u64 (4000000000 * 2 ^ s / 18446744073709551616), .int .u64 (4000000000 * 2 ^ s % 18446744073709551616)]) ∧ w' = w := by
  have c1 : ((s : Int) == 0) = false := by simp; omega
  have c2 : ¬ 64 ≤ (s : Int) := by omega
  have e1 : (4000000000 : Int) * 2 ^ s / 18446744073709551616 = 4000000000 / 2 ^ (64 - s) := by
    have : (18446744073709551616 : Int) = 2 ^ (64 - s) * 2 ^ s := by rw [← Int.pow_add, show 64 - s + s = 64 by omega]; rfl
    rw [this]
    exact Int.mul_ediv_mul_of_pos_left _ _ (Int.pow_pos (by decide))
  go_enter Try.func7, Try.ntmps7
  go_wp2
  go_ret2
  refine ⟨?_, rfl⟩
  simp only [IntKind.wrap_u64]
  rfl
theorem shl_hi (s : Nat) (w : World) (hx : 64 ≤ s) (hx' : s ≤ 76) :
    Calls Try.prog 7 #[.int .u64 4000000000, .int .i64 s] w fun e w' => e = .returned (.tuple #[.int .u64 (4000000000 * 2 ^ s / 18446744073709551616), .int .u64 (4000000000 * 2 ^ s % 18446744073709551616)]) ∧ w' = w := by
  have c1 : ((s : Int) == 0) = false := by simp; omega
  have c2 : 64 ≤ (s : Int) := by omega
  have c3 : (s : Int) ≤ 76 := by omega
  obtain ⟨t, rfl⟩ : ∃ t, s = 64 + t := ⟨s - 64, by omega⟩
  have e0 : (4000000000 : Int) * 2 ^ (64 + t) = (4000000000 * 2 ^ t) * 18446744073709551616 := by
    rw [Int.pow_add, show (2 : Int) ^ 64 = 18446744073709551616 by rfl, Int.mul_comm (18446744073709551616 : Int), Int.mul_assoc]
  have hp : (2 : Int) ^ t ≤ 4096 := by
    have : 2 ^ t ≤ 2 ^ 12 := Nat.pow_le_pow_right (by decide) (by omega)
    have h2 : ((2 ^ t : Nat) : Int) ≤ 4096 := by omega
    rwa [Int.natCast_pow] at h2
  have hp0 : (0 : Int) < 2 ^ t := Int.pow_pos (by decide)
  go_enter Try.func7, Try.ntmps7
  go_wp2
  go_ret2
  refine ⟨?_, rfl⟩
  rw [e0]
  simp only [IntKind.wrap_u64]
  rw [show 64 + t - 64 = t by omega]
  have e1 : (4000000000 : Int) * 2 ^ t * 18446744073709551616 / 18446744073709551616 = 4000000000 * 2 ^ t := by omega
  have e2 : (4000000000 : Int) * 2 ^ t * 18446744073709551616 % 18446744073709551616 = 0 := by omega
  have e3 : (4000000000 : Int) * 2 ^ t % 18446744073709551616 = 4000000000 * 2 ^ t := by omega
  rw [e1, e2, e3]
  rfl

/-- zzLess128, where it says yes. -/
theorem less_yes (a b c d : Int) (w : World) (hb : 0 ≤ b) (hb' : b < 18446744073709551616) (hd : 0 ≤ d) (hd' : d < 18446744073709551616)
    (h : a * 18446744073709551616 + b < c * 18446744073709551616 + d) :
    Calls Try.prog 8 #[.int .u64 a, .int .u64 b, .int .u64 c, .int .u64 d] w fun e w' => e = .returned (.bool true) ∧ w' = w := by
  by_cases hac : a = c
  · subst hac
    have h1 : b < d := by omega
    go_enter Try.func8, Try.ntmps8
    go_wp2
    go_ret
    exact ⟨by simp, rfl⟩
  · have h1 : a < c := by omega
    have h2 : (a != c) = true := by simp [hac]
    go_enter Try.func8, Try.ntmps8
    go_wp2
    go_ret
    exact ⟨by simp, rfl⟩

/-- zzLess128 of two numbers by words. -/
theorem less_prod (x y : Int) (w : World) (h : x < y) :
    Calls Try.prog 8 #[.int .u64 (x / 18446744073709551616), .int .u64 (x % 18446744073709551616), .int .u64 (y / 18446744073709551616), .int .u64 (y % 18446744073709551616)] w fun e w' => e = .returned (.bool true) ∧ w' = w :=
  less_yes _ _ _ _ w (by omega) (by omega) (by omega) (by omega) (by omega)

/-- The law's test at the shifts, one contract for both. -/
theorem shl_any (s : Nat) (w : World) (hx : 23 ≤ s) (hx' : s ≤ 76) :
    Calls Try.prog 7 #[.int .u64 4000000000, .int .i64 s] w fun e w' => e = .returned (.tuple #[.int .u64 (4000000000 * 2 ^ s / 18446744073709551616), .int .u64 (4000000000 * 2 ^ s % 18446744073709551616)]) ∧ w' = w := by
  by_cases h : s < 64
  · exact shl_lo s w (by omega) h
  · exact shl_hi s w (by omega) hx'

theorem walk_out (a0 : Int) (w : World) (h : a0 ≤ 0 ∨ 9007199254740992 ≤ a0) :
    Calls Try.prog 3 #[.int .i64 a0] w fun e w' => e = .returned (.bool true) ∧ Grown w w' := by
  rcases h with h | h
  · have ho : FloatKind.f64.format.order 9218868437227405311 9218868437227405311 = some .eq := by decide +kernel
    go_enter Try.func3, Try.ntmps3
    go_wp2_with (go_at_call 5; refine (zz_inf _ _ (by omega)).mono ?_; rintro e w' ⟨rfl, rfl⟩)
    go_ret
    exact ⟨rfl, Grown.refl _⟩
  · have h' : ¬ a0 ≤ 0 := by omega
    go_enter Try.func3, Try.ntmps3
    go_wp2
    go_ret
    exact ⟨rfl, Grown.refl _⟩

theorem pow_cast (j : Nat) : ((4000000000 * 2 ^ j : Nat) : Int) = 4000000000 * 2 ^ j := by
  rw [Int.natCast_mul, Int.natCast_pow]; rfl
theorem g_hi (a kk : Int) (j k : Nat) (h : 0 < a) (hk : kk = k) (g : 4000000000 * 2 ^ j < (4 * k + 2) * a.toNat) : (4000000000 : Int) * 2 ^ j < (4 * kk + 2) * a := by
  obtain ⟨n, rfl⟩ := Int.eq_ofNat_of_zero_le (Int.le_of_lt h)
  subst hk
  rw [← pow_cast]
  rw [Int.toNat_natCast] at g
  have : ((4000000000 * 2 ^ j : Nat) : Int) < (((4 * k + 2) * n : Nat) : Int) := Int.ofNat_lt.2 g
  rwa [Int.natCast_mul (4 * k + 2) n, show ((4 * k + 2 : Nat) : Int) = 4 * (k : Int) + 2 by omega] at this
theorem g_lo1 (a kk : Int) (j k : Nat) (h : 0 < a) (hk : kk = k) (hk' : 4503599627370496 ≤ k) (g : (4 * k - 1) * a.toNat < 4000000000 * 2 ^ j) : (4 * kk - 1) * a < (4000000000 : Int) * 2 ^ j := by
  obtain ⟨n, rfl⟩ := Int.eq_ofNat_of_zero_le (Int.le_of_lt h)
  subst hk
  rw [← pow_cast]
  rw [Int.toNat_natCast] at g
  have : (((4 * k - 1) * n : Nat) : Int) < ((4000000000 * 2 ^ j : Nat) : Int) := Int.ofNat_lt.2 g
  rwa [Int.natCast_mul (4 * k - 1) n, show ((4 * k - 1 : Nat) : Int) = 4 * (k : Int) - 1 by omega] at this
theorem g_lo2 (a kk : Int) (j k : Nat) (h : 0 < a) (hk : kk = k) (hk' : 4503599627370496 ≤ k) (g : (4 * k - 2) * a.toNat < 4000000000 * 2 ^ j) : (4 * kk - 2) * a < (4000000000 : Int) * 2 ^ j := by
  obtain ⟨n, rfl⟩ := Int.eq_ofNat_of_zero_le (Int.le_of_lt h)
  subst hk
  rw [← pow_cast]
  rw [Int.toNat_natCast] at g
  have : (((4 * k - 2) * n : Nat) : Int) < ((4000000000 * 2 ^ j : Nat) : Int) := Int.ofNat_lt.2 g
  rwa [Int.natCast_mul (4 * k - 2) n, show ((4 * k - 2 : Nat) : Int) = 4 * (k : Int) - 2 by omega] at this

/-- The loop's word, under a name of its own. -/
def qw (s k j : Nat) : Nat := Fl.wd false (1074 - s + j) k

theorem f64_double : FloatKind.f64.format = Ieee.double := rfl
theorem q_o1 (s k : Nat) (s1 : 23 ≤ s) (s2 : s ≤ 76) (k1 : 4503599627370496 ≤ k ∧ k < 9007199254740992) : FloatKind.f64.format.order (qw s k 0) 0 = some .gt := by
  rw [f64_double]; exact (Fl.ev_small s k s1 s2 k1.1 k1.2).1
theorem q_o2 (s k : Nat) (s1 : 23 ≤ s) (s2 : s ≤ 76) (k1 : 4503599627370496 ≤ k ∧ k < 9007199254740992) : FloatKind.f64.format.order (qw s k 0) 4746175415993761792 = some .lt := by
  rw [f64_double]; exact (Fl.ev_small s k s1 s2 k1.1 k1.2).2
theorem q_t1 (s k j : Nat) (s1 : 23 ≤ s) (s2 : s ≤ 76) (hlt : j < s) (k1 : 4503599627370496 ≤ k ∧ k < 9007199254740992) : FloatKind.f64.format.order (qw s k j) 4841369599423283200 = some .lt := by
  rw [f64_double]; exact Fl.loop_lt _ k (by omega) k1.1 k1.2
theorem q_mul (s k j : Nat) (s1 : 23 ≤ s) (s2 : s ≤ 76) (hlt : j < s) (k1 : 4503599627370496 ≤ k ∧ k < 9007199254740992) :
  ∀ t w, (binOp .mul t (.float .f64 (qw s k j)) (.float .f64 4611686018427387904)).run Try.prog w = .ok (.float .f64 (qw s k (j + 1))) w := fun t w => run_float_arith w .mul t .f64 _ _ _ (Fl.mul_two _ k (by omega) k1.1 k1.2)
theorem q_at (s k : Nat) (s2 : s ≤ 76) : qw s k s = Fl.wd false 1074 k := by unfold qw; rw [show 1074 - s + s = 1074 by omega]
theorem q_ge (s k : Nat) (s2 : s ≤ 76) (k1 : 4503599627370496 ≤ k ∧ k < 9007199254740992) : (FloatKind.f64.format.order (qw s k s) 4841369599423283200 == some .lt) = false := by
  rw [q_at s k s2, f64_double]; exact Fl.loop_ge k k1.1 k1.2
theorem q_lt (s k : Nat) (s2 : s ≤ 76) (k1 : 4503599627370496 ≤ k ∧ k < 9007199254740992) : FloatKind.f64.format.order (qw s k s) 4845873199050653696 = some .lt := by
  rw [q_at s k s2, f64_double]; exact Fl.after_lt k k1.1 k1.2
theorem q_eq (s k : Nat) (s2 : s ≤ 76) (k1 : 4503599627370496 ≤ k ∧ k < 9007199254740992) : FloatKind.f64.format.order (qw s k s) (qw s k s) = some .eq := by
  rw [q_at s k s2, f64_double]; exact Fl.same k k1.1 k1.2
theorem dec_read (x : Nat) : FloatKind.f64.decode x = Ieee.double.read x := rfl
theorem u64_min : IntKind.u64.min = 0 := by decide
theorem u64_max : IntKind.u64.max = 18446744073709551615 := by decide
theorem ftv (x k : Nat) (h : (FloatKind.f64.decode x).toInt .zero = some (k : Int)) (k2 : k < 9007199254740992) : floatToIntVal .f64 x .u64 = some (k : Int) := by
  unfold floatToIntVal
  rw [h, u64_min, u64_max]
  exact if_pos ⟨by omega, by omega⟩
theorem q_cv (s k : Nat) (kk : Int) (hk : kk = k) (s2 : s ≤ 76) (k1 : 4503599627370496 ≤ k ∧ k < 9007199254740992) : ∀ w, (convert 22 25 (.float .f64 (qw s k s))).run Try.prog w = .ok (.int .u64 kk) w := by
  intro w
  subst hk
  refine run_convert_float_int w 22 25 .f64 .u64 _ _ (by rw [Try.underlying22]; rfl) Try.underlying25 (ftv _ k ?_ k1.2)
  rw [q_at s k s2, dec_read]; exact Fl.whole k k1.1 k1.2
theorem q_bk (s k : Nat) (kk : Int) (hk : kk = k) (s2 : s ≤ 76) (k1 : 4503599627370496 ≤ k ∧ k < 9007199254740992) : floatOfInt .f64 kk = qw s k s := by
  subst hk
  rw [floatOfInt_pos _ (by omega), q_at s k s2, Int.toNat_natCast]
  exact Fl.back k k1.1 k1.2

set_option maxHeartbeats 1000000 in
theorem walk_in (a0 : Int) (s k : Nat) (w : World) (h1 : 0 < a0) (h2 : a0 < 9007199254740992)
    (he : Hid (Fl.ev a0.toNat = qw s k 0)) (s1 : 23 ≤ s) (s2 : s ≤ 76) (k1 : Hid (4503599627370496 ≤ k ∧ k < 9007199254740992))
    (g1 : Hid (k = 4503599627370496 → (4 * k - 1) * a0.toNat < 4000000000 * 2 ^ s)) (g2 : Hid (k ≠ 4503599627370496 → (4 * k - 2) * a0.toNat < 4000000000 * 2 ^ s)) (g3 : Hid (4000000000 * 2 ^ s < (4 * k + 2) * a0.toNat)) :
    Calls Try.prog 3 #[.int .i64 a0] w fun e w' => e = .returned (.bool true) ∧ Grown w w' := by
  have n1 : ¬ a0 ≤ 0 := by omega
  have n2 : ¬ 9007199254740992 ≤ a0 := by omega
  have o1 := q_o1 s k s1 s2 k1.out
  have o2 := q_o2 s k s1 s2 k1.out
  go_enter Try.func3, Try.ntmps3
  go_wp2_with (go_at_call 5; refine (zz_pos _ _ h1 h2).mono ?_; rintro e w' ⟨rfl, rfl⟩; rw [he.out])
  go_loop [3, 4] (fun q i => ∃ j : Nat, j ≤ s ∧ i = .int .i64 j ∧ q = .float .f64 (qw s k j)) (fun _ i => s - (intOf i).toNat)
  case atStart => exact ⟨0, Nat.zero_le _, rfl, rfl⟩
  case round =>
    obtain ⟨j, hj, rfl, rfl⟩ := hrel
    by_cases hlt : j < s
    · have t1 := q_t1 s k j s1 s2 hlt k1.out
      have t2 : (j : Int) < 200 := by omega
      have hm := q_mul s k j s1 s2 hlt k1.out
      go_wp2
      go_round
      case rel => exact ⟨j + 1, by omega, by go_num, rfl⟩
      case measure => simp [intOf]; omega
    · have hjs : j = s := by omega
      subst hjs
      have t1 := q_ge j k s2 k1.out
      have t3 : ¬ 90 < (j : Int) := by omega
      have t4 := q_lt j k s2 k1.out
      have t5 := q_eq j k s2 k1.out
      obtain ⟨kk, hkk⟩ : ∃ kk : Int, Hid (kk = k) := ⟨k, rfl⟩
      have b1 : 4503599627370496 ≤ kk := by have := hkk.out; have := k1.out; omega
      have b2 : kk < 9007199254740992 := by have := hkk.out; have := k1.out; omega
      have hcv := q_cv j k kk hkk.out s2 k1.out
      have hbk := q_bk j k kk hkk.out s2 k1.out
      have G3 : Hid ((4000000000 : Int) * 2 ^ j < (4 * kk + 2) * a0) := g_hi a0 kk j k h1 hkk.out g3.out
      by_cases hB : kk = 4503599627370496
      · have G1 : Hid ((4 * kk - 1) * a0 < (4000000000 : Int) * 2 ^ j) := g_lo1 a0 kk j k h1 hkk.out k1.out.1 (g1.out (by have := hkk.out; omega))
        subst hB
        have L1 : Hid (18014398509481983 * a0 < (4000000000 : Int) * 2 ^ j) := G1.out
        have L2 : Hid ((4000000000 : Int) * 2 ^ j < 18014398509481986 * a0) := G3.out
        clear hkk g1 g2 g3 he G1 G3
        go_wp2_with (first
          | (go_at_call 6; refine (mul_any _ _ _ (by omega) (by omega) (by omega) (by omega)).mono ?_; rintro e w' ⟨rfl, rfl⟩)
          | (go_at_call 7; refine (shl_any j _ s1 s2).mono ?_; rintro e w' ⟨rfl, rfl⟩)
          | (go_at_call 8; refine (less_prod _ _ _ ?_).mono ?_; (first | with_reducible exact L1.out | with_reducible exact L2.out); rintro e w' ⟨rfl, rfl⟩))
        go_ret
        exact ⟨rfl, Grown.refl _⟩
      · have L1 : Hid ((4 * kk - 2) * a0 < (4000000000 : Int) * 2 ^ j) := g_lo2 a0 kk j k h1 hkk.out k1.out.1 (g2.out (by have := hkk.out; omega))
        have L2 : Hid ((4000000000 : Int) * 2 ^ j < (4 * kk + 2) * a0) := G3.out
        have hB' : (kk == 4503599627370496) = false := by simpa using hB
        clear hkk g1 g2 g3 he G3
        go_wp2_with (first
          | (go_at_call 6; refine (mul_any _ _ _ (by omega) (by omega) (by omega) (by omega)).mono ?_; rintro e w' ⟨rfl, rfl⟩)
          | (go_at_call 7; refine (shl_any j _ s1 s2).mono ?_; rintro e w' ⟨rfl, rfl⟩)
          | (go_at_call 8; refine (less_prod _ _ _ ?_).mono ?_; (first | with_reducible exact L1.out | with_reducible exact L2.out); rintro e w' ⟨rfl, rfl⟩))
        go_ret
        exact ⟨rfl, Grown.refl _⟩

theorem walk (a0 : Int) (w0 : (Lit.int .i64 a0).wf = true) (w : World) :
    Calls Try.prog 3 #[.int .i64 a0] w fun e w' => e = .returned (.bool true) ∧ Grown w w' := by
  by_cases h : a0 ≤ 0 ∨ 9007199254740992 ≤ a0
  · exact walk_out a0 w h
  · obtain ⟨s, k, he, s1, s2, k1, k2, g1, g2, g3⟩ := Fl.ev_law a0.toNat (by omega) (by omega)
    exact walk_in a0 s k w (by omega) (by omega) he s1 s2 ⟨k1, k2⟩ g1 g2 g3
end Go.Proofs.Qxb6631266a.NearWalks
