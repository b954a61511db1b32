/-
  THE WALKS OF THE BOUNDS ON LENGTHS, laid by program: they answer something, and turn nothing.
-/
import Derived.Test.Qxb6632289aReads
namespace Go.Proofs.Qxb6632289a
open Go.RowKit Pk
set_option linter.unusedVariables false

/-- Some bool is answered. -/
def AnyBool (e : Ending) : Prop := ∃ b : Bool, e = .returned (.bool b)

set_option maxHeartbeats 1000000 in
theorem bytes10_any (a : Option Addr) (n cap : Nat) (os : List ByteArray) (a' : Option Addr) (n' cap' : Nat) (ts : List ByteArray) (x : ByteArray) (p : Int) (w : World) (h : Sl w a n cap os) (h' : Sl w a' n' cap' ts) :
    Calls Try.prog 10 #[.slice a n cap, .slice a' n' cap', .string x, .int .i64 p] w fun e w' => AnyBool e ∧ w = w' := by
  obtain ⟨l1, l2, l3, l4, l5⟩ := h
  obtain ⟨m1, m2, m3, m4, m5⟩ := h'
  have hM : n ≤ 9223372036854775807 := by unfold maxLen at l3; omega
  have hM' : n' ≤ 9223372036854775807 := by unfold maxLen at m3; omega
  clear l1 l2 l3 l4 m1 m2 m3 m4
  by_cases g1 : 1048576 < (n : Int)
  · go_enter Try.func10, Try.ntmps10
    go_wp2
    go_ret
    exact ⟨⟨_, rfl⟩, rfl⟩
  have g1' : (n : Int) ≤ 1048576 := by omega
  go_enter Try.func10, Try.ntmps10
  go_wp2
  go_loop [9, 10] (fun t i => ∃ (j : Nat) (r : Int), j ≤ n ∧ i = .int .i64 j ∧ t = .int .i64 r ∧ 0 ≤ r ∧ r ≤ 1048576) (fun _ i => n - (intOf i).toNat)
  case atStart => exact ⟨0, n, Nat.zero_le _, rfl, rfl, by omega, by omega⟩
  case round =>
    obtain ⟨j, r, hj, rfl, rfl, r0, r1⟩ := hrel
    by_cases hlt : j < n
    · obtain ⟨b, off, rfl, hc⟩ := l5 (by omega)
      obtain ⟨y, hy⟩ : ∃ y : ByteArray, w.cell? ⟨b, off + j, none⟩ = some (.string y) := ⟨_, hc j hlt⟩
      have hji : (j : Int) < (n : Int) := by omega
      clear hc l5 m5
      by_cases hbig : 1048576 < (y.size : Int)
      · go_wp2
        go_ret
        exact ⟨⟨_, rfl⟩, rfl⟩
      have hsm : (y.size : Int) ≤ 1048576 := by omega
      by_cases hsum : 1048576 < r + (y.size : Int)
      · go_wp2
        go_ret
        exact ⟨⟨_, rfl⟩, rfl⟩
      · go_wp2
        go_round
        case rel => exact ⟨j + 1, r + (y.size : Int), by omega, by go_num, rfl, by omega, by omega⟩
        case measure => simp [intOf]; omega
    · have hji : ¬ (j : Int) < (n : Int) := by omega
      clear l5
      by_cases g2 : 1048576 < (n' : Int)
      · go_wp2
        go_ret
        exact ⟨⟨_, rfl⟩, rfl⟩
      have g2' : (n' : Int) ≤ 1048576 := by omega
      by_cases g3 : 1048576 < r + (n' : Int)
      · go_wp2
        go_ret
        exact ⟨⟨_, rfl⟩, rfl⟩
      go_wp2
      go_loop [9, 11] (fun t i => ∃ (j : Nat) (r : Int), j ≤ n' ∧ i = .int .i64 j ∧ t = .int .i64 r ∧ 0 ≤ r ∧ r ≤ 1048576) (fun _ i => n' - (intOf i).toNat)
      case atStart => exact ⟨0, r + (n' : Int), Nat.zero_le _, rfl, rfl, by omega, by omega⟩
      case round =>
        obtain ⟨j', r', hj', rfl, rfl, r0', r1'⟩ := hrel
        by_cases hlt' : j' < n'
        · obtain ⟨b, off, rfl, hc⟩ := m5 (by omega)
          obtain ⟨y, hy⟩ : ∃ y : ByteArray, w.cell? ⟨b, off + j', none⟩ = some (.string y) := ⟨_, hc j' hlt'⟩
          have hji' : (j' : Int) < (n' : Int) := by omega
          clear hc m5
          by_cases hbig : 1048576 < (y.size : Int)
          · go_wp2
            go_ret
            exact ⟨⟨_, rfl⟩, rfl⟩
          have hsm : (y.size : Int) ≤ 1048576 := by omega
          by_cases hsum : 1048576 < r' + (y.size : Int)
          · go_wp2
            go_ret
            exact ⟨⟨_, rfl⟩, rfl⟩
          · go_wp2
            go_round
            case rel => exact ⟨j' + 1, r' + (y.size : Int), by omega, by go_num, rfl, by omega, by omega⟩
            case measure => simp [intOf]; omega
        · have hji' : ¬ (j' : Int) < (n' : Int) := by omega
          clear m5
          by_cases hbig : 1048576 < (x.size : Int)
          · go_wp2
            go_ret
            exact ⟨⟨_, rfl⟩, rfl⟩
          have hsm : (x.size : Int) ≤ 1048576 := by omega
          by_cases hsum : 1048576 < r' + (x.size : Int)
          · go_wp2
            go_ret
            exact ⟨⟨_, rfl⟩, rfl⟩
          · go_wp2
            go_ret
            exact ⟨⟨_, rfl⟩, rfl⟩

set_option maxHeartbeats 1000000 in
theorem bytes5_any (a : Option Addr) (n cap : Nat) (os : List ByteArray) (a' : Option Addr) (n' cap' : Nat) (ts : List ByteArray) (p : Int) (w : World) (h : Sl w a n cap os) (h' : Sl w a' n' cap' ts) :
    Calls Try.prog 5 #[.slice a n cap, .slice a' n' cap', .int .i64 p] w fun e w' => AnyBool e ∧ w = w' := by
  obtain ⟨l1, l2, l3, l4, l5⟩ := h
  obtain ⟨m1, m2, m3, m4, m5⟩ := h'
  have hM : n ≤ 9223372036854775807 := by unfold maxLen at l3; omega
  have hM' : n' ≤ 9223372036854775807 := by unfold maxLen at m3; omega
  clear l1 l2 l3 l4 m1 m2 m3 m4
  by_cases g1 : 1048576 < (n : Int)
  · go_enter Try.func5, Try.ntmps5
    go_wp2
    go_ret
    exact ⟨⟨_, rfl⟩, rfl⟩
  have g1' : (n : Int) ≤ 1048576 := by omega
  go_enter Try.func5, Try.ntmps5
  go_wp2
  go_loop [7, 8] (fun t i => ∃ (j : Nat) (r : Int), j ≤ n ∧ i = .int .i64 j ∧ t = .int .i64 r ∧ 0 ≤ r ∧ r ≤ 1048576) (fun _ i => n - (intOf i).toNat)
  case atStart => exact ⟨0, n, Nat.zero_le _, rfl, rfl, by omega, by omega⟩
  case round =>
    obtain ⟨j, r, hj, rfl, rfl, r0, r1⟩ := hrel
    by_cases hlt : j < n
    · obtain ⟨b, off, rfl, hc⟩ := l5 (by omega)
      obtain ⟨y, hy⟩ : ∃ y : ByteArray, w.cell? ⟨b, off + j, none⟩ = some (.string y) := ⟨_, hc j hlt⟩
      have hji : (j : Int) < (n : Int) := by omega
      clear hc l5 m5
      by_cases hbig : 1048576 < (y.size : Int)
      · go_wp2
        go_ret
        exact ⟨⟨_, rfl⟩, rfl⟩
      have hsm : (y.size : Int) ≤ 1048576 := by omega
      by_cases hsum : 1048576 < r + (y.size : Int)
      · go_wp2
        go_ret
        exact ⟨⟨_, rfl⟩, rfl⟩
      · go_wp2
        go_round
        case rel => exact ⟨j + 1, r + (y.size : Int), by omega, by go_num, rfl, by omega, by omega⟩
        case measure => simp [intOf]; omega
    · have hji : ¬ (j : Int) < (n : Int) := by omega
      clear l5
      by_cases g2 : 1048576 < (n' : Int)
      · go_wp2
        go_ret
        exact ⟨⟨_, rfl⟩, rfl⟩
      have g2' : (n' : Int) ≤ 1048576 := by omega
      by_cases g3 : 1048576 < r + (n' : Int)
      · go_wp2
        go_ret
        exact ⟨⟨_, rfl⟩, rfl⟩
      go_wp2
      go_loop [7, 9] (fun t i => ∃ (j : Nat) (r : Int), j ≤ n' ∧ i = .int .i64 j ∧ t = .int .i64 r ∧ 0 ≤ r ∧ r ≤ 1048576) (fun _ i => n' - (intOf i).toNat)
      case atStart => exact ⟨0, r + (n' : Int), Nat.zero_le _, rfl, rfl, by omega, by omega⟩
      case round =>
        obtain ⟨j', r', hj', rfl, rfl, r0', r1'⟩ := hrel
        by_cases hlt' : j' < n'
        · obtain ⟨b, off, rfl, hc⟩ := m5 (by omega)
          obtain ⟨y, hy⟩ : ∃ y : ByteArray, w.cell? ⟨b, off + j', none⟩ = some (.string y) := ⟨_, hc j' hlt'⟩
          have hji' : (j' : Int) < (n' : Int) := by omega
          clear hc m5
          by_cases hbig : 1048576 < (y.size : Int)
          · go_wp2
            go_ret
            exact ⟨⟨_, rfl⟩, rfl⟩
          have hsm : (y.size : Int) ≤ 1048576 := by omega
          by_cases hsum : 1048576 < r' + (y.size : Int)
          · go_wp2
            go_ret
            exact ⟨⟨_, rfl⟩, rfl⟩
          · go_wp2
            go_round
            case rel => exact ⟨j' + 1, r' + (y.size : Int), by omega, by go_num, rfl, by omega, by omega⟩
            case measure => simp [intOf]; omega
        · have hji' : ¬ (j' : Int) < (n' : Int) := by omega
          clear m5
          go_wp2
          go_ret
          exact ⟨⟨_, rfl⟩, rfl⟩
end Go.Proofs.Qxb6632289a
