/-
  THE WALKS OF THE FUNCTIONS THAT ONLY READ: slices.Index, slices.Contains, zzIn, zzIndex, Pick, zzAddBytes.
-/
import Derived.Test.Qxb6632289aOwn
import Derived.LoopTactic
namespace Go.Proofs.Qxb6632289a
open Go.RowKit Pk
set_option linter.unusedVariables false

theorem ret_i64 {a b : Int} (h : a = b) : Ending.returned (.int .i64 a) = .returned (.int .i64 b) := by rw [h]
theorem ret_bool {a b : Bool} (h : a = b) : Ending.returned (.bool a) = .returned (.bool b) := by rw [h]
theorem beq_yes {a b : ByteArray} (h : a = b) : (a.toList == b.toList) = true := by rw [h]; simp
theorem beq_no {a b : ByteArray} (h : ¬ a = b) : (a.toList == b.toList) = false := by
  rw [← Bool.not_eq_true]
  intro he
  refine h ?_
  have he' : a.toList = b.toList := by simpa using he
  rw [ByteArray.toList_eq, ByteArray.toList_eq] at he'
  cases a with | mk a => cases b with | mk b =>
  simp only [ByteArray.mk.injEq]
  exact Array.toList_inj.1 he'

/-- zzIndex. -/
theorem zzindex_any (a : Option Addr) (n cap k : Nat) (ss : List ByteArray) (x : ByteArray) (w : World) (h : Sl w a n cap ss) (hk : First (fun j => el ss j = x) n k) :
    Calls Try.prog 9 #[.slice a n cap, .string x] w fun e w' => e = .returned (.int .i64 (ixv n k)) ∧ w = w' := by
  obtain ⟨l1, l2, l3, l4, l5⟩ := h
  have hM : n ≤ 9223372036854775807 := by unfold maxLen at l3; omega
  have hK : Hid (First (fun j => el ss j = x) n k) := hk
  have hkn : k ≤ n := hk.1
  clear l1 l2 l3 l4 hk
  go_enter Try.func9, Try.ntmps9
  go_wp2
  go_loop [5] (fun i => ∃ j : Nat, j ≤ k ∧ i = .int .i64 j) (fun i => n - (intOf i).toNat)
  case atStart => exact ⟨0, Nat.zero_le _, rfl⟩
  case round =>
    obtain ⟨j, hj, rfl⟩ := hrel
    by_cases hlt : j < n
    · obtain ⟨b, off, rfl, hc⟩ := l5 (by omega)
      obtain ⟨y, hy, HY⟩ : ∃ y : ByteArray, w.cell? ⟨b, off + j, none⟩ = some (.string y) ∧ Hid (el ss j = y) := ⟨_, hc j hlt, rfl⟩
      have hji : (j : Int) < (n : Int) := by omega
      clear hc l5
      by_cases hjk : j < k
      · have hb := beq_no (a := y) (b := x) (by rw [← HY.out]; exact hK.out.2.1 j hjk)
        go_wp2
        go_round
        case rel => exact ⟨j + 1, by omega, by go_num⟩
        case measure => simp [intOf]; omega
      · have hje : j = k := by omega
        subst hje
        have hb := beq_yes (a := y) (b := x) (by rw [← HY.out]; exact hK.out.2.2 (by omega))
        go_wp2
        go_ret
        exact ⟨ret_i64 (by rw [ixv_yes (by omega)]), rfl⟩
    · have hji : ¬ (j : Int) < (n : Int) := by omega
      go_wp2
      go_ret
      exact ⟨ret_i64 (by rw [ixv_no (by omega)]), rfl⟩

/-- slices.Index at []string. -/
theorem index_any (a : Option Addr) (n cap k : Nat) (ss : List ByteArray) (x : ByteArray) (w : World) (h : Sl w a n cap ss) (hk : First (fun j => el ss j = x) n k) :
    Calls Try.prog 12 #[.slice a n cap, .string x] w fun e w' => e = .returned (.int .i64 (ixv n k)) ∧ w = w' := by
  obtain ⟨l1, l2, l3, l4, l5⟩ := h
  have hM : n ≤ 9223372036854775807 := by unfold maxLen at l3; omega
  have hK : Hid (First (fun j => el ss j = x) n k) := hk
  have hkn : k ≤ n := hk.1
  clear l1 l2 l3 l4 hk
  go_enter Try.func12, Try.ntmps12
  go_wp2
  go_loop [8] (fun i => ∃ j : Nat, j ≤ k ∧ i = .int .i64 j) (fun i => n - (intOf i).toNat)
  case atStart => exact ⟨0, Nat.zero_le _, rfl⟩
  case round =>
    obtain ⟨j, hj, rfl⟩ := hrel
    by_cases hlt : j < n
    · obtain ⟨b, off, rfl, hc⟩ := l5 (by omega)
      obtain ⟨y, hy, HY⟩ : ∃ y : ByteArray, w.cell? ⟨b, off + j, none⟩ = some (.string y) ∧ Hid (el ss j = y) := ⟨_, hc j hlt, rfl⟩
      have hji : (j : Int) < (n : Int) := by omega
      clear hc l5
      by_cases hjk : j < k
      · have hb := beq_no (a := x) (b := y) (by rw [← HY.out]; exact fun he => hK.out.2.1 j hjk he.symm)
        go_wp2
        go_round
        case rel => exact ⟨j + 1, by omega, by go_num⟩
        case measure => simp [intOf]; omega
      · have hje : j = k := by omega
        subst hje
        have hb := beq_yes (a := x) (b := y) (by rw [← HY.out]; exact (show el ss j = x from hK.out.2.2 (by omega)).symm)
        go_wp2
        go_ret
        exact ⟨ret_i64 (by rw [ixv_yes (by omega)]), rfl⟩
    · have hji : ¬ (j : Int) < (n : Int) := by omega
      go_wp2
      go_ret
      exact ⟨ret_i64 (by rw [ixv_no (by omega)]), rfl⟩

/-- zzIn. -/
theorem zzin_first (a : Option Addr) (n cap k : Nat) (ss : List ByteArray) (x : ByteArray) (w : World) (h : Sl w a n cap ss) (hk : First (fun j => el ss j = x) n k) :
    Calls Try.prog 8 #[.slice a n cap, .string x] w fun e w' => e = .returned (.bool (decide (k < n))) ∧ w = w' := by
  obtain ⟨l1, l2, l3, l4, l5⟩ := h
  have hM : n ≤ 9223372036854775807 := by unfold maxLen at l3; omega
  have hK : Hid (First (fun j => el ss j = x) n k) := hk
  have hkn : k ≤ n := hk.1
  clear l1 l2 l3 l4 hk
  go_enter Try.func8, Try.ntmps8
  go_wp2
  go_loop [5] (fun i => ∃ j : Nat, j ≤ k ∧ i = .int .i64 j) (fun i => n - (intOf i).toNat)
  case atStart => exact ⟨0, Nat.zero_le _, rfl⟩
  case round =>
    obtain ⟨j, hj, rfl⟩ := hrel
    by_cases hlt : j < n
    · obtain ⟨b, off, rfl, hc⟩ := l5 (by omega)
      obtain ⟨y, hy, HY⟩ : ∃ y : ByteArray, w.cell? ⟨b, off + j, none⟩ = some (.string y) ∧ Hid (el ss j = y) := ⟨_, hc j hlt, rfl⟩
      have hji : (j : Int) < (n : Int) := by omega
      clear hc l5
      by_cases hjk : j < k
      · have hb := beq_no (a := y) (b := x) (by rw [← HY.out]; exact hK.out.2.1 j hjk)
        go_wp2
        go_round
        case rel => exact ⟨j + 1, by omega, by go_num⟩
        case measure => simp [intOf]; omega
      · have hje : j = k := by omega
        subst hje
        have hb := beq_yes (a := y) (b := x) (by rw [← HY.out]; exact hK.out.2.2 (by omega))
        go_wp2
        go_ret
        exact ⟨by first | rfl | exact ret_bool (decide_eq_true (by omega)).symm, rfl⟩
    · have hji : ¬ (j : Int) < (n : Int) := by omega
      go_wp2
      go_ret
      exact ⟨by first | rfl | exact ret_bool (decide_eq_false (by omega)).symm, rfl⟩

theorem in_first {ss : List ByteArray} {x : ByteArray} {n k : Nat} (hn : ss.length = n) (hk : First (fun j => el ss j = x) n k) : k < n ↔ In ss x := by
  subst hn
  constructor
  · exact fun h => ⟨k, h, hk.2.2 h⟩
  · rintro ⟨j, hj, he⟩
    refine Nat.lt_of_not_le fun hle => ?_
    exact hk.2.1 j (by omega) he

theorem zzin_yes (a : Option Addr) (n cap : Nat) (ss : List ByteArray) (x : ByteArray) (w : World) (h : Sl w a n cap ss) (hin : In ss x) :
    Calls Try.prog 8 #[.slice a n cap, .string x] w fun e w' => e = .returned (.bool true) ∧ w = w' := by
  obtain ⟨k, hk⟩ := first_ex (fun j => el ss j = x) n
  have := zzin_first a n cap k ss x w h hk
  rwa [decide_eq_true ((in_first h.1 hk).2 hin)] at this
theorem zzin_no (a : Option Addr) (n cap : Nat) (ss : List ByteArray) (x : ByteArray) (w : World) (h : Sl w a n cap ss) (hin : ¬ In ss x) :
    Calls Try.prog 8 #[.slice a n cap, .string x] w fun e w' => e = .returned (.bool false) ∧ w = w' := by
  obtain ⟨k, hk⟩ := first_ex (fun j => el ss j = x) n
  have := zzin_first a n cap k ss x w h hk
  rwa [decide_eq_false (fun hlt => hin ((in_first h.1 hk).1 hlt))] at this

/-- slices.Contains at []string. -/
theorem contains_yes (a : Option Addr) (n cap : Nat) (ss : List ByteArray) (x : ByteArray) (w : World) (h : Sl w a n cap ss) (hin : In ss x) :
    Calls Try.prog 11 #[.slice a n cap, .string x] w fun e w' => e = .returned (.bool true) ∧ w = w' := by
  obtain ⟨k, hk⟩ := first_ex (fun j => el ss j = x) n
  have hlt := (in_first h.1 hk).2 hin
  have hix : Hid (ixv n k = (k : Int)) := ixv_yes hlt
  have h0 : 0 ≤ (k : Int) := by omega
  clear hlt
  go_enter Try.func11, Try.ntmps11
  go_wp2_with (go_at_call 12; refine (index_any _ _ _ k ss x _ h hk).mono ?_; rintro e w' ⟨rfl, rfl⟩; rw [hix.out])
  go_ret
  exact ⟨ret_bool (by simp), rfl⟩
theorem contains_no (a : Option Addr) (n cap : Nat) (ss : List ByteArray) (x : ByteArray) (w : World) (h : Sl w a n cap ss) (hin : ¬ In ss x) :
    Calls Try.prog 11 #[.slice a n cap, .string x] w fun e w' => e = .returned (.bool false) ∧ w = w' := by
  obtain ⟨k, hk⟩ := first_ex (fun j => el ss j = x) n
  have hix : Hid (ixv n k = -1) := ixv_no (fun hlt => hin ((in_first h.1 hk).1 hlt))
  go_enter Try.func11, Try.ntmps11
  go_wp2_with (go_at_call 12; refine (index_any _ _ _ k ss x _ h hk).mono ?_; rintro e w' ⟨rfl, rfl⟩; rw [hix.out])
  go_ret
  exact ⟨rfl, rfl⟩

/-- Pick: the first of ours that theirs holds. -/
theorem pick_any (a : Option Addr) (n cap k : Nat) (os : List ByteArray) (a' : Option Addr) (n' cap' : Nat) (ts : List ByteArray) (w : World) (h : Sl w a n cap os) (h' : Sl w a' n' cap' ts)
    (hk : First (fun j => In ts (el os j)) n k) (v : ByteArray) (hv : v = if k < n then el os k else ⟨#[]⟩) :
    Calls Try.prog 7 #[.slice a n cap, .slice a' n' cap'] w fun e w' => e = .returned (.tuple #[.string v, .bool (decide (k < n))]) ∧ w = w' := by
  obtain ⟨l1, l2, l3, l4, l5⟩ := h
  have hM : n ≤ 9223372036854775807 := by unfold maxLen at l3; omega
  have hK : Hid (First (fun j => In ts (el os j)) n k) := hk
  have hkn : k ≤ n := hk.1
  have HV : Hid (v = if k < n then el os k else ⟨#[]⟩) := hv
  clear l1 l2 l3 l4 hk hv
  go_enter Try.func7, Try.ntmps7
  go_wp2
  go_loop [10] (fun i => ∃ j : Nat, j ≤ k ∧ i = .int .i64 j) (fun i => n - (intOf i).toNat)
  case atStart => exact ⟨0, Nat.zero_le _, rfl⟩
  case round =>
    obtain ⟨j, hj, rfl⟩ := hrel
    by_cases hlt : j < n
    · obtain ⟨b, off, rfl, hc⟩ := l5 (by omega)
      obtain ⟨y, hy, HY⟩ : ∃ y : ByteArray, w.cell? ⟨b, off + j, none⟩ = some (.string y) ∧ Hid (el os j = y) := ⟨_, hc j hlt, rfl⟩
      have hji : (j : Int) < (n : Int) := by omega
      clear hc l5
      by_cases hjk : j < k
      · have hin : ¬ In ts y := by rw [← HY.out]; exact hK.out.2.1 j hjk
        go_wp2_with (go_at_call 11; refine (contains_no _ _ _ ts y _ h' hin).mono ?_; rintro e w' ⟨rfl, rfl⟩)
        go_round
        case rel => exact ⟨j + 1, by omega, by go_num⟩
        case measure => simp [intOf]; omega
      · have hje : j = k := by omega
        subst hje
        have hin : In ts y := by rw [← HY.out]; exact hK.out.2.2 (by omega)
        go_wp2_with (go_at_call 11; refine (contains_yes _ _ _ ts y _ h' hin).mono ?_; rintro e w' ⟨rfl, rfl⟩)
        go_ret2
        refine ⟨?_, rfl⟩
        rw [HV.out, if_pos hlt, HY.out, decide_eq_true hlt]
        rfl
    · have hji : ¬ (j : Int) < (n : Int) := by omega
      go_wp2
      go_ret2
      refine ⟨?_, rfl⟩
      rw [HV.out, if_neg (by omega), decide_eq_false (by omega)]
      rfl

/-- zzAddBytes: -1, or a number within the bound. -/
theorem add_any (m : Int) (a : Option Addr) (n cap : Nat) (ss : List ByteArray) (w : World) (h : Sl w a n cap ss) (h0 : 0 ≤ m) (h1 : m ≤ 1048576) :
    Calls Try.prog 6 #[.int .i64 m, .slice a n cap] w fun e w' => ∃ r : Int, e = .returned (.int .i64 r) ∧ (r = -1 ∨ (0 ≤ r ∧ r ≤ 1048576)) ∧ w = w' := by
  obtain ⟨l1, l2, l3, l4, l5⟩ := h
  have hM : n ≤ 9223372036854775807 := by unfold maxLen at l3; omega
  clear l1 l2 l3 l4
  go_enter Try.func6, Try.ntmps6
  go_wp2
  go_loop [0, 5] (fun t i => ∃ (j : Nat) (r : Int), j ≤ n ∧ i = .int .i64 j ∧ t = .int .i64 r ∧ 0 ≤ r ∧ r ≤ 1048576) (fun _ i => n - (intOf i).toNat)
  case atStart => exact ⟨0, m, Nat.zero_le _, rfl, rfl, h0, h1⟩
  case round =>
    obtain ⟨j, r, hj, rfl, rfl, r0, r1⟩ := hrel
    by_cases hlt : j < n
    · obtain ⟨b, off, rfl, hc⟩ := l5 (by omega)
      obtain ⟨y, hy⟩ : ∃ y : ByteArray, w.cell? ⟨b, off + j, none⟩ = some (.string y) := ⟨_, hc j hlt⟩
      have hji : (j : Int) < (n : Int) := by omega
      clear hc l5
      by_cases hbig : 1048576 - r < (y.size : Int)
      · go_wp2
        go_ret
        exact ⟨-1, rfl, .inl rfl, rfl⟩
      · have hsm : (y.size : Int) ≤ 1048576 - r := by omega
        go_wp2
        go_round
        case rel => exact ⟨j + 1, r + (y.size : Int), by omega, by go_num, rfl, by omega, by omega⟩
        case measure => simp [intOf]; omega
    · have hji : ¬ (j : Int) < (n : Int) := by omega
      go_wp2
      go_ret
      exact ⟨r, rfl, .inr ⟨r0, r1⟩, rfl⟩
end Go.Proofs.Qxb6632289a
