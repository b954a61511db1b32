/-
  THE WALKS OF zzB1LeastCost, zzB1Hex AND zzBytes; plain facts on places in the text.
-/
import Derived.Test.Qxb6631319aEqs
namespace Go.Proofs.Qxb6631319a
open Go.RowKit Js
set_option linter.unusedVariables false

/-! ### Places in the text -/
theorem esc_take (l : List Int) (k : Nat) (hk : k < l.length) : esc (l.take (k + 1)) = esc (l.take k) ++ escB (l.getD k 0) := by
  rw [List.take_succ_eq_append_getElem hk, esc_append, esc_one, List.getD_eq_getElem?_getD, List.getElem?_eq_getElem hk]; rfl
theorem esc_cut (l : List Int) (k : Nat) (hk : k < l.length) : esc l = esc (l.take k) ++ (escB (l.getD k 0) ++ esc (l.drop (k + 1))) := by
  rw [← List.append_assoc, ← esc_take l k hk, ← esc_append, List.take_append_drop]
theorem esc_le (l : List Int) (k : Nat) (hk : k < l.length) : (esc (l.take k)).length + (escB (l.getD k 0)).length ≤ (esc l).length := by
  rw [esc_cut l k hk, List.length_append, List.length_append]; omega
theorem esc_at (l : List Int) (k : Nat) (hk : k < l.length) (j : Nat) (hj : j < (escB (l.getD k 0)).length) : (esc l).getD ((esc (l.take k)).length + j) 0 = (escB (l.getD k 0)).getD j 0 := by
  rw [esc_cut l k hk]
  rw [List.getD_eq_getElem?_getD, List.getElem?_append_right (by omega), Nat.add_sub_cancel_left, List.getElem?_append_left hj, ← List.getD_eq_getElem?_getD]

theorem ret_i64 {a b : Int} (h : a = b) : Ending.returned (.int .i64 a) = .returned (.int .i64 b) := by rw [h]

/-- The cost of one byte. -/
theorem cost_step (s : ByteArray) (k : Nat) (h : k < s.size) (m : Nat) (hm : (escB (s[k].toNat : Int)).length = m) : (((esc ((bs s).take k)).length : Int) + (m : Int)) = ((esc ((bs s).take (k + 1))).length : Int) := by
  rw [bs_take_snoc s k h, esc_append, esc_one, List.length_append, hm]; omega

set_option maxHeartbeats 1000000 in
/-- zzB1LeastCost. -/
theorem cost_any (s : ByteArray) (w : World) (hs : s.size ≤ 1073741824) :
    Calls Try.prog 10 #[.string s] w fun e w' => e = .returned (.int .i64 ((esc (bs s)).length : Int)) ∧ w = w' := by
  go_enter Try.func10, Try.ntmps10
  go_wp2
  go_loop [3, 4] (fun t i => ∃ (k m : Nat), k ≤ s.size ∧ i = .int .i64 k ∧ t = .int .i64 m ∧ m ≤ 6 * k ∧ Hid (m = (esc ((bs s).take k)).length)) (fun _ i => s.size - (intOf i).toNat)
  case atStart => exact ⟨0, 0, Nat.zero_le _, rfl, rfl, by omega, by show _ = _; simp [esc_nil]⟩
  case round =>
    obtain ⟨k, m, hk, rfl, rfl, hm, ht⟩ := hrel
    by_cases hlt : k < s.size
    · by_cases h34 : (s[k].toNat : Int) = 34
      · go_wp2
        go_round
        case rel => exact ⟨k + 1, m + 2, by omega, by go_num, by go_num, by omega, by have := cost_step s k hlt 2 (by rw [h34]; rfl); have := ht.out; show _ = _; omega⟩
        case measure => simp [intOf]; omega
      · by_cases h92 : (s[k].toNat : Int) = 92
        · go_wp2
          go_round
          case rel => exact ⟨k + 1, m + 2, by omega, by go_num, by go_num, by omega, by have := cost_step s k hlt 2 (by rw [h92]; rfl); have := ht.out; show _ = _; omega⟩
          case measure => simp [intOf]; omega
        · by_cases h8 : (s[k].toNat : Int) = 8
          · go_wp2
            go_round
            case rel => exact ⟨k + 1, m + 2, by omega, by go_num, by go_num, by omega, by have := cost_step s k hlt 2 (by rw [h8]; rfl); have := ht.out; show _ = _; omega⟩
            case measure => simp [intOf]; omega
          · by_cases h12 : (s[k].toNat : Int) = 12
            · go_wp2
              go_round
              case rel => exact ⟨k + 1, m + 2, by omega, by go_num, by go_num, by omega, by have := cost_step s k hlt 2 (by rw [h12]; rfl); have := ht.out; show _ = _; omega⟩
              case measure => simp [intOf]; omega
            · by_cases h10 : (s[k].toNat : Int) = 10
              · go_wp2
                go_round
                case rel => exact ⟨k + 1, m + 2, by omega, by go_num, by go_num, by omega, by have := cost_step s k hlt 2 (by rw [h10]; rfl); have := ht.out; show _ = _; omega⟩
                case measure => simp [intOf]; omega
              · by_cases h13 : (s[k].toNat : Int) = 13
                · go_wp2
                  go_round
                  case rel => exact ⟨k + 1, m + 2, by omega, by go_num, by go_num, by omega, by have := cost_step s k hlt 2 (by rw [h13]; rfl); have := ht.out; show _ = _; omega⟩
                  case measure => simp [intOf]; omega
                · by_cases h9 : (s[k].toNat : Int) = 9
                  · go_wp2
                    go_round
                    case rel => exact ⟨k + 1, m + 2, by omega, by go_num, by go_num, by omega, by have := cost_step s k hlt 2 (by rw [h9]; rfl); have := ht.out; show _ = _; omega⟩
                    case measure => simp [intOf]; omega
                  · have n34 : ((s[k].toNat : Int) == 34) = false := by simpa using h34
                    have n92 : ((s[k].toNat : Int) == 92) = false := by simpa using h92
                    have n8 : ((s[k].toNat : Int) == 8) = false := by simpa using h8
                    have n12 : ((s[k].toNat : Int) == 12) = false := by simpa using h12
                    have n10 : ((s[k].toNat : Int) == 10) = false := by simpa using h10
                    have n13 : ((s[k].toNat : Int) == 13) = false := by simpa using h13
                    have n9 : ((s[k].toNat : Int) == 9) = false := by simpa using h9
                    by_cases hp : (s[k].toNat : Int) < 32
                    · go_wp2
                      go_round
                      case rel => exact ⟨k + 1, m + 6, by omega, by go_num, by go_num, by omega, by have := cost_step s k hlt 6 (by rw [escB_hex _ hp h8 h12 h10 h13 h9]; rfl); have := ht.out; show _ = _; omega⟩
                      case measure => simp [intOf]; omega
                    · go_wp2
                      go_round
                      case rel => exact ⟨k + 1, m + 1, by omega, by go_num, by go_num, by omega, by have := cost_step s k hlt 1 (by rw [escB_plain _ ((plain_iff _).2 ⟨by omega, h34, h92⟩)]; rfl); have := ht.out; show _ = _; omega⟩
                      case measure => simp [intOf]; omega
    · go_wp2
      go_ret
      refine ⟨ret_i64 ?_, rfl⟩
      rw [ht.out, List.take_of_length_le (by rw [bs_length]; omega)]

/-- zzB1Hex at a digit. -/
theorem hex_any (d : Int) (w : World) (h0 : 0 ≤ d) (h1 : d < 16) : Calls Try.prog 15 #[.int .u8 (hexD d)] w fun e w' => e = .returned (.int .i64 d) ∧ w = w' := by
  by_cases h : d < 10
  · have e : hexD d = 48 + d := by unfold hexD; rw [if_pos h]
    rw [e]
    have a1 : 48 ≤ 48 + d := by omega
    have a2 : 48 + d ≤ 57 := by omega
    go_enter Try.func15, Try.ntmps15
    go_wp2
    go_ret
    exact ⟨ret_i64 (by omega), rfl⟩
  · have e : hexD d = 87 + d := by unfold hexD; rw [if_neg h]
    rw [e]
    have a1 : 48 ≤ 87 + d := by omega
    have a2 : ¬ 87 + d ≤ 57 := by omega
    have a3 : 97 ≤ 87 + d := by omega
    have a4 : 87 + d ≤ 102 := by omega
    go_enter Try.func15, Try.ntmps15
    go_wp2
    go_ret
    exact ⟨ret_i64 (by omega), rfl⟩
end Go.Proofs.Qxb6631319a
