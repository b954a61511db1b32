/-
  THE WALKS OF zzB1Eq, zzB1EqStr, zzB1NoEscape.
-/
import Derived.Test.Qxb6631319aSmall
namespace Go.Proofs.Qxb6631319a
open Go.RowKit Js
set_option linter.unusedVariables false

/-- zzB1Eq of two slices that read the same. -/
theorem eq_same (a a' : Option Addr) (n c c' : Nat) (l : List Int) (w : World) (h : Sl w a n c l) (h' : Sl w a' n c' l) :
    Calls Try.prog 12 #[.slice a n c, .slice a' n c'] w fun e w' => e = .returned (.bool true) ∧ ∃ q, w' = w.drewN q := by
  obtain ⟨l1, l2, l3, l4, l5⟩ := h
  obtain ⟨l1', l2', l3', l4', l5'⟩ := h'
  have hM : n ≤ 9223372036854775807 := by unfold maxLen at l3; omega
  clear l1' l2' l3' l4' l2 l3 l4
  go_enter Try.func12, Try.ntmps12
  go_wp2
  go_loopw [5] (fun i wr => ∃ k q : Nat, k ≤ n ∧ i = .int .i64 k ∧ wr = w.drewN q) (fun i _ => n - (intOf i).toNat)
  case atStart => exact ⟨0, 0, Nat.zero_le _, rfl, rfl⟩
  case round =>
    obtain ⟨k, q, hk, rfl, rfl⟩ := hrel
    by_cases hlt : k < n
    · obtain ⟨b, off, rfl, hc⟩ := l5 (by omega)
      obtain ⟨b', off', rfl, hc'⟩ := l5' (by omega)
      obtain ⟨x, hx, hx'⟩ : ∃ x : Int, w.cell? ⟨b, off + k, none⟩ = some (.int .u8 x) ∧ w.cell? ⟨b', off' + k, none⟩ = some (.int .u8 x) := ⟨_, hc k hlt, hc' k hlt⟩
      have hki : (k : Int) < (n : Int) := by omega
      clear hc hc' l5 l5'
      go_wp2
      go_quiet (fail)
      go_wp2
      go_roundw
      case rel => exact ⟨k + 1, _, by omega, by go_num, rfl⟩
      case measure => simp [intOf]; omega
    · go_wp2
      go_ret
      exact ⟨rfl, _, rfl⟩

theorem ret_bool {a b : Bool} (h : a = b) : Ending.returned (.bool a) = .returned (.bool b) := by rw [h]

/-! plain steps -/
theorem eqs_ne (l m : List Int) (k : Nat) (h : k < l.length) (h' : k < m.length) (hx : l.getD k 0 ≠ m.getD k 0) : decide (l = m) = false := by
  refine decide_eq_false fun he => ?_
  subst he
  exact hx rfl
theorem eqs_step (l m : List Int) (k : Nat) (h : k < l.length) (h' : k < m.length) (hx : l.getD k 0 = m.getD k 0) (ht : l.take k = m.take k) : l.take (k + 1) = m.take (k + 1) := by
  rw [List.take_succ_eq_append_getElem h, List.take_succ_eq_append_getElem h', ht]
  rw [List.getD_eq_getElem?_getD, List.getElem?_eq_getElem h, List.getD_eq_getElem?_getD, List.getElem?_eq_getElem h'] at hx
  simp only [Option.getD_some] at hx
  rw [hx]
theorem eqs_end (l m : List Int) (k : Nat) (h : l.length = k) (h' : m.length = k) (ht : l.take k = m.take k) : decide (l = m) = true := by
  rw [List.take_of_length_le (by omega), List.take_of_length_le (by omega)] at ht
  exact decide_eq_true ht

/-- zzB1EqStr. -/
theorem eqs_any (a : Option Addr) (n c : Nat) (l : List Int) (s : ByteArray) (w : World) (h : Sl w a n c l) (hs : s.size ≤ 1073741824) :
    Calls Try.prog 9 #[.slice a n c, .string s] w fun e w' => e = .returned (.bool (decide (l = bs s))) ∧ ∃ q, w' = w.drewN q := by
  obtain ⟨l1, l2, l3, l4, l5⟩ := h
  have hM : n ≤ 9223372036854775807 := by unfold maxLen at l3; omega
  clear l2 l3 l4
  by_cases hn : n = s.size
  · subst hn
    have L1 : Hid (l.length = s.size) := l1
    clear l1
    go_enter Try.func9, Try.ntmps9
    go_wp2
    go_loopw [5] (fun i wr => ∃ k q : Nat, k ≤ s.size ∧ i = .int .i64 k ∧ wr = w.drewN q ∧ Hid (l.take k = (bs s).take k)) (fun i _ => s.size - (intOf i).toNat)
    case atStart => exact ⟨0, 0, Nat.zero_le _, rfl, rfl, by show _ = _; simp⟩
    case round =>
      obtain ⟨k, q, hk, rfl, rfl, ht⟩ := hrel
      by_cases hlt : k < s.size
      · obtain ⟨b, off, rfl, hc⟩ := l5 (by omega)
        obtain ⟨x, hx, HX⟩ : ∃ x : Int, w.cell? ⟨b, off + k, none⟩ = some (.int .u8 x) ∧ Hid (l.getD k 0 = x) := ⟨_, hc k hlt, rfl⟩
        have HS := bs_getD s k hlt
        have hki : (k : Int) < (s.size : Int) := by omega
        have HS' : Hid ((bs s).getD k 0 = (s[k].toNat : Int)) := HS
        clear hc l5 HS
        by_cases hxy : x = (s[k].toNat : Int)
        · subst hxy
          go_wp2
          go_quiet (fail)
          go_wp2
          go_roundw
          case rel => exact ⟨k + 1, _, by omega, by go_num, rfl, eqs_step l (bs s) k (by have := L1.out; omega) (by rw [bs_length]; exact hlt) (HX.out.trans HS'.out.symm) ht.out⟩
          case measure => simp [intOf]; omega
        · have hb : (x != (s[k].toNat : Int)) = true := by simpa using hxy
          go_wp2
          go_quiet (fail)
          go_wp2
          go_ret
          exact ⟨ret_bool (eqs_ne l (bs s) k (by have := L1.out; omega) (by rw [bs_length]; exact hlt) (by rw [HX.out, HS'.out]; exact hxy)).symm, q + nq, World.drewN_drewN _ _ _⟩
      · go_wp2
        go_ret
        exact ⟨ret_bool (eqs_end l (bs s) k (by have := L1.out; omega) (by rw [bs_length]; omega) ht.out).symm, _, rfl⟩
  · have hf : decide (l = bs s) = false := by
      refine decide_eq_false fun he => hn ?_
      rw [← l1, he, bs_length]
    have hb : ((n : Int) != (s.size : Int)) = true := by simp; omega
    rw [hf]
    clear hf hn
    go_enter Try.func9, Try.ntmps9
    go_wp2
    go_ret
    exact ⟨rfl, 0, rfl⟩

theorem all_step (s : ByteArray) (k : Nat) (h : k < s.size) (ht : ((bs s).take k).all plain = true) (hp : plain (s[k].toNat : Int) = true) : ((bs s).take (k + 1)).all plain = true := by
  rw [bs_take_snoc s k h, List.all_append, ht]
  simp [hp]
theorem all_no (s : ByteArray) (k : Nat) (h : k < s.size) (hp : ¬ plain (s[k].toNat : Int) = true) : (bs s).all plain = false := by
  rw [← Bool.not_eq_true]
  intro hall
  rw [List.all_eq_true] at hall
  exact hp (hall _ (by rw [← bs_get s k h]; exact List.getElem_mem _))
theorem all_end (s : ByteArray) (k : Nat) (h : s.size ≤ k) (ht : ((bs s).take k).all plain = true) : (bs s).all plain = true := by
  rwa [List.take_of_length_le (by rw [bs_length]; exact h)] at ht

/-- zzB1NoEscape. -/
theorem noesc_any (s : ByteArray) (w : World) (hs : s.size ≤ 1073741824) :
    Calls Try.prog 13 #[.string s] w fun e w' => e = .returned (.bool ((bs s).all plain)) ∧ w' = w := by
  go_enter Try.func13, Try.ntmps13
  go_wp2
  go_loop [3] (fun i => ∃ k : Nat, k ≤ s.size ∧ i = .int .i64 k ∧ Hid (((bs s).take k).all plain = true)) (fun i => s.size - (intOf i).toNat)
  case atStart => exact ⟨0, Nat.zero_le _, rfl, by show _ = _; simp⟩
  case round =>
    obtain ⟨k, hk, rfl, ht⟩ := hrel
    by_cases hlt : k < s.size
    · by_cases h0 : (s[k].toNat : Int) < 32
      · go_wp2
        go_ret
        exact ⟨ret_bool (all_no s k hlt (by rw [plain_iff]; omega)).symm, rfl⟩
      · by_cases h34 : (s[k].toNat : Int) = 34
        · go_wp2
          go_ret
          exact ⟨ret_bool (all_no s k hlt (by rw [plain_iff]; omega)).symm, rfl⟩
        · by_cases h92 : (s[k].toNat : Int) = 92
          · go_wp2
            go_ret
            exact ⟨ret_bool (all_no s k hlt (by rw [plain_iff]; omega)).symm, rfl⟩
          · have n34 : ((s[k].toNat : Int) == 34) = false := by simpa using h34
            have n92 : ((s[k].toNat : Int) == 92) = false := by simpa using h92
            go_wp2
            go_round
            case rel => exact ⟨k + 1, by omega, by go_num, all_step s k hlt ht.out (by rw [plain_iff]; omega)⟩
            case measure => simp [intOf]; omega
    · go_wp2
      go_ret
      exact ⟨ret_bool (all_end s k (by omega) ht.out).symm, rfl⟩
end Go.Proofs.Qxb6631319a
