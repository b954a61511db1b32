/-
  THE WALK OF appendJSONText.
-/
import Derived.Test.Qxb6631319aOwn
import Derived.LoopTactic
import Derived.Deep.RegionLaw
import Derived.Deep.AppendLies
import Derived.Laws.BitsAllLaws
namespace Go.Proofs.Qxb6631319a
open Go.RowKit Js
set_option linter.unusedVariables false

/-! ### What each way of the round does to the relation. -/
theorem step_plain (s : ByteArray) (k t : Nat) (cur xs : List Int) (c : Int) (hk : k < s.size) (ht : t ≤ k) (hc : (s[k].toNat : Int) = c) (hp : plain c = true)
    (heq : cur ++ ((bs s).take k).drop t = xs ++ esc ((bs s).take k)) : cur ++ ((bs s).take (k + 1)).drop t = xs ++ esc ((bs s).take (k + 1)) := by
  rw [bs_take_snoc s k hk, hc, esc_append, esc_one, escB_plain c hp, ← List.append_assoc xs, ← heq, List.append_assoc]
  congr 1
  rw [List.drop_append_of_le_length (by rw [List.length_take, bs_length]; omega)]
theorem step_esc (s : ByteArray) (k t : Nat) (cur xs E : List Int) (c : Int) (hk : k < s.size) (hc : (s[k].toNat : Int) = c) (hE : escB c = E)
    (heq : cur ++ ((bs s).take k).drop t = xs ++ esc ((bs s).take k)) : (cur ++ bs (s.extract t k) ++ E) ++ ((bs s).take (k + 1)).drop (k + 1) = xs ++ esc ((bs s).take (k + 1)) := by
  rw [bs_take_snoc s k hk, hc, esc_append, esc_one, hE, ← List.append_assoc xs, ← heq, bs_extract]
  rw [List.drop_of_length_le (l := (bs s).take k ++ [c]) (by rw [List.length_append, List.length_take, bs_length, List.length_singleton]; omega), List.append_nil]
theorem step_end (s : ByteArray) (k t : Nat) (cur xs : List Int) (hk : k = s.size)
    (heq : cur ++ ((bs s).take k).drop t = xs ++ esc ((bs s).take k)) : cur ++ bs (s.extract t s.size) = xs ++ esc (bs s) := by
  subst hk
  rw [bs_extract, heq, List.take_of_length_le (by rw [bs_length]; exact Nat.le_refl _)]
theorem cur_len (s : ByteArray) (k t : Nat) (cur xs : List Int) (hk : k ≤ s.size) (heq : cur ++ ((bs s).take k).drop t = xs ++ esc ((bs s).take k)) : cur.length ≤ xs.length + 6 * s.size := by
  have h1 := congrArg List.length heq
  have h2 := (esc_len ((bs s).take k)).2
  rw [List.length_append, List.length_append] at h1
  rw [List.length_take, bs_length] at h2
  omega
theorem ext_len (s : ByteArray) (a b : Nat) : (s.extract a b).size ≤ s.size := by rw [ByteArray.size_extract]; omega
theorem ext_bs (s : ByteArray) (a b : Nat) : (bs (s.extract a b)).length ≤ s.size := by rw [bs_length]; exact ext_len s a b

theorem hex_at (d : Int) (h0 : 0 ≤ d) (h : d < 16) (w : World) : (Instr.index 9 (.string ⟨#[48, 49, 50, 51, 52, 53, 54, 55, 56, 57, 97, 98, 99, 100, 101, 102]⟩) (.int .u8 d)).run Try.prog w = .ok (.int .u8 (hexD d)) w := by
  have : d = 0 ∨ d = 1 ∨ d = 2 ∨ d = 3 ∨ d = 4 ∨ d = 5 ∨ d = 6 ∨ d = 7 ∨ d = 8 ∨ d = 9 ∨ d = 10 ∨ d = 11 ∨ d = 12 ∨ d = 13 ∨ d = 14 ∨ d = 15 := by omega
  rcases this with rfl | rfl | rfl | rfl | rfl | rfl | rfl | rfl | rfl | rfl | rfl | rfl | rfl | rfl | rfl | rfl <;> (rw [run_index_string _ _ _ _ _ Try.underlying9]; rfl)
theorem and15 (c : Int) (h0 : 0 ≤ c) (h : c < 32) : bits .and .u8 c 15 = c % 16 := by
  have : c = 0 ∨ c = 1 ∨ c = 2 ∨ c = 3 ∨ c = 4 ∨ c = 5 ∨ c = 6 ∨ c = 7 ∨ c = 8 ∨ c = 9 ∨ c = 10 ∨ c = 11 ∨ c = 12 ∨ c = 13 ∨ c = 14 ∨ c = 15 ∨ c = 16 ∨ c = 17 ∨ c = 18 ∨ c = 19 ∨ c = 20 ∨ c = 21 ∨ c = 22 ∨ c = 23 ∨ c = 24 ∨ c = 25 ∨ c = 26 ∨ c = 27 ∨ c = 28 ∨ c = 29 ∨ c = 30 ∨ c = 31 := by omega
  rcases this with rfl | rfl | rfl | rfl | rfl | rfl | rfl | rfl | rfl | rfl | rfl | rfl | rfl | rfl | rfl | rfl | rfl | rfl | rfl | rfl | rfl | rfl | rfl | rfl | rfl | rfl | rfl | rfl | rfl | rfl | rfl | rfl <;> decide

set_option maxHeartbeats 4000000 in
theorem append_any (B : Nat) (v : Value) (xs : List Int) (s : ByteArray) (w : World) (hown : Own B v xs w) (hs : s.size ≤ 1073741824) (hx : xs.length ≤ 1099511627776) :
    Calls Try.prog 14 #[v, .string s] w fun e w' => ∃ v', e = .returned v' ∧ Own B v' (xs ++ esc (bs s)) w' ∧ Below B w w' := by
  go_enter Try.func14, Try.ntmps14
  go_wp2
  go_loopw [0, 5, 6] (fun v st i wr => ∃ (k t : Nat) (cur : List Int), t ≤ k ∧ k ≤ s.size ∧ i = .int .i64 k ∧ st = .int .i64 t ∧ Own B v cur wr ∧ Below B w wr ∧ Hid (cur ++ ((bs s).take k).drop t = xs ++ esc ((bs s).take k)))
    (fun _ _ i _ => s.size - (intOf i).toNat)
  case atStart => exact ⟨0, 0, xs, Nat.le_refl _, Nat.zero_le _, rfl, rfl, hown, Below.refl _ _, by show _ = _; simp [esc_nil]⟩
  case round =>
    obtain ⟨k, t, cur, htk, hk, rfl, rfl, hcur, hbel, heq⟩ := hrel
    have hcl : cur.length ≤ 1106000000000 := by have := cur_len s k t cur xs hk heq.out; omega
    by_cases hlt : k < s.size
    · by_cases h34 : (s[k].toNat : Int) = 34
      · go_wp2_with (first
          | (at_builtin; refine law_str rfl (.tmp 27) (.tmp 31) rfl B _ _ rfl hcur _ rfl ?_ ?_; (· have := ext_len s t k; omega); intro v1 w1 ho1 hb1)
          | (at_builtin; refine law_new rfl (.tmp 46) (.tmp 48) rfl B _ _ rfl _ ho1 [92, 34] 2 rfl rfl rfl ?_ ?_; (· have := ext_bs s t k; simp; omega); intro v2 w2 ho2 hb2))
        go_roundw
        case rel => exact ⟨k + 1, k + 1, _, Nat.le_refl _, by omega, by go_num, by go_num, ho2, (hbel.trans hb1).trans hb2, step_esc s k t cur xs _ 34 hlt h34 rfl heq.out⟩
        case measure => simp [intOf]; omega
      · by_cases h92 : (s[k].toNat : Int) = 92
        · go_wp2_with (first
            | (at_builtin; refine law_str rfl (.tmp 27) (.tmp 31) rfl B _ _ rfl hcur _ rfl ?_ ?_; (· have := ext_len s t k; omega); intro v1 w1 ho1 hb1)
            | (at_builtin; refine law_new rfl (.tmp 46) (.tmp 48) rfl B _ _ rfl _ ho1 [92, 92] 2 rfl rfl rfl ?_ ?_; (· have := ext_bs s t k; simp; omega); intro v2 w2 ho2 hb2))
          go_roundw
          case rel => exact ⟨k + 1, k + 1, _, Nat.le_refl _, by omega, by go_num, by go_num, ho2, (hbel.trans hb1).trans hb2, step_esc s k t cur xs _ 92 hlt h92 rfl heq.out⟩
          case measure => simp [intOf]; omega
        · by_cases h8 : (s[k].toNat : Int) = 8
          · go_wp2_with (first
              | (at_builtin; refine law_str rfl (.tmp 27) (.tmp 31) rfl B _ _ rfl hcur _ rfl ?_ ?_; (· have := ext_len s t k; omega); intro v1 w1 ho1 hb1)
              | (at_builtin; refine law_str rfl (.tmp 52) (.const (.string ⟨#[92, 98]⟩)) rfl B _ _ rfl ho1 ⟨#[92, 98]⟩ rfl ?_ ?_; (· have := ext_bs s t k; rw [List.length_append, show (ByteArray.mk #[92, 98]).size = 2 from rfl]; omega); intro v2 w2 ho2 hb2))
            go_roundw
            case rel => exact ⟨k + 1, k + 1, _, Nat.le_refl _, by omega, by go_num, by go_num, ho2, (hbel.trans hb1).trans hb2, step_esc s k t cur xs _ 8 hlt h8 rfl heq.out⟩
            case measure => simp [intOf]; omega
          · by_cases h12 : (s[k].toNat : Int) = 12
            · go_wp2_with (first
                | (at_builtin; refine law_str rfl (.tmp 27) (.tmp 31) rfl B _ _ rfl hcur _ rfl ?_ ?_; (· have := ext_len s t k; omega); intro v1 w1 ho1 hb1)
                | (at_builtin; refine law_str rfl (.tmp 56) (.const (.string ⟨#[92, 102]⟩)) rfl B _ _ rfl ho1 ⟨#[92, 102]⟩ rfl ?_ ?_; (· have := ext_bs s t k; rw [List.length_append, show (ByteArray.mk #[92, 102]).size = 2 from rfl]; omega); intro v2 w2 ho2 hb2))
              go_roundw
              case rel => exact ⟨k + 1, k + 1, _, Nat.le_refl _, by omega, by go_num, by go_num, ho2, (hbel.trans hb1).trans hb2, step_esc s k t cur xs _ 12 hlt h12 rfl heq.out⟩
              case measure => simp [intOf]; omega
            · by_cases h10 : (s[k].toNat : Int) = 10
              · go_wp2_with (first
                  | (at_builtin; refine law_str rfl (.tmp 27) (.tmp 31) rfl B _ _ rfl hcur _ rfl ?_ ?_; (· have := ext_len s t k; omega); intro v1 w1 ho1 hb1)
                  | (at_builtin; refine law_str rfl (.tmp 60) (.const (.string ⟨#[92, 110]⟩)) rfl B _ _ rfl ho1 ⟨#[92, 110]⟩ rfl ?_ ?_; (· have := ext_bs s t k; rw [List.length_append, show (ByteArray.mk #[92, 110]).size = 2 from rfl]; omega); intro v2 w2 ho2 hb2))
                go_roundw
                case rel => exact ⟨k + 1, k + 1, _, Nat.le_refl _, by omega, by go_num, by go_num, ho2, (hbel.trans hb1).trans hb2, step_esc s k t cur xs _ 10 hlt h10 rfl heq.out⟩
                case measure => simp [intOf]; omega
              · by_cases h13 : (s[k].toNat : Int) = 13
                · go_wp2_with (first
                    | (at_builtin; refine law_str rfl (.tmp 27) (.tmp 31) rfl B _ _ rfl hcur _ rfl ?_ ?_; (· have := ext_len s t k; omega); intro v1 w1 ho1 hb1)
                    | (at_builtin; refine law_str rfl (.tmp 64) (.const (.string ⟨#[92, 114]⟩)) rfl B _ _ rfl ho1 ⟨#[92, 114]⟩ rfl ?_ ?_; (· have := ext_bs s t k; rw [List.length_append, show (ByteArray.mk #[92, 114]).size = 2 from rfl]; omega); intro v2 w2 ho2 hb2))
                  go_roundw
                  case rel => exact ⟨k + 1, k + 1, _, Nat.le_refl _, by omega, by go_num, by go_num, ho2, (hbel.trans hb1).trans hb2, step_esc s k t cur xs _ 13 hlt h13 rfl heq.out⟩
                  case measure => simp [intOf]; omega
                · by_cases h9 : (s[k].toNat : Int) = 9
                  · go_wp2_with (first
                      | (at_builtin; refine law_str rfl (.tmp 27) (.tmp 31) rfl B _ _ rfl hcur _ rfl ?_ ?_; (· have := ext_len s t k; omega); intro v1 w1 ho1 hb1)
                      | (at_builtin; refine law_str rfl (.tmp 68) (.const (.string ⟨#[92, 116]⟩)) rfl B _ _ rfl ho1 ⟨#[92, 116]⟩ rfl ?_ ?_; (· have := ext_bs s t k; rw [List.length_append, show (ByteArray.mk #[92, 116]).size = 2 from rfl]; omega); intro v2 w2 ho2 hb2))
                    go_roundw
                    case rel => exact ⟨k + 1, k + 1, _, Nat.le_refl _, by omega, by go_num, by go_num, ho2, (hbel.trans hb1).trans hb2, step_esc s k t cur xs _ 9 hlt h9 rfl heq.out⟩
                    case measure => simp [intOf]; omega
                  · by_cases hp : 32 ≤ (s[k].toNat : Int)
                    · have n34 : ((s[k].toNat : Int) != 34) = true := by simpa using h34
                      have n92 : ((s[k].toNat : Int) != 92) = true := by simpa using h92
                      go_wp2
                      go_roundw
                      case rel => exact ⟨k + 1, t, cur, by omega, by omega, by go_num, rfl, hcur, hbel, step_plain s k t cur xs _ hlt htk rfl ((plain_iff _).2 ⟨hp, h34, h92⟩) heq.out⟩
                      case measure => simp [intOf]; omega
                    · go_wp2_with (first
                        | (at_builtin; refine law_str rfl (.tmp 27) (.tmp 31) rfl B _ _ rfl hcur _ rfl ?_ ?_; (· have := ext_len s t k; omega); intro v1 w1 ho1 hb1)
                        | fail)
                      have b0 : 0 ≤ (s[k].toNat : Int) := by omega
                      have b1 : (s[k].toNat : Int) < 32 := by omega
                      have e1 := hex_at ((s[k].toNat : Int) / 16) (by omega) (by omega)
                      have e2 := hex_at ((s[k].toNat : Int) % 16) (by omega) (by omega)
                      have e3 := and15 (s[k].toNat : Int) b0 b1
                      go_region_law (refine law_step rfl (.tmp 34) (.tmp 41) rfl B _ _ rfl (by first | exact (ho1.alloc _).drew | exact ho1.drew.alloc _) [92, 117, 48, 48, hexD ((s[k].toNat : Int) / 16), hexD ((s[k].toNat : Int) % 16)] 6 w1.heap.size rfl (by simp [Act.eval]) ?_ ?_ ?_; (· exact heap_alloc_new w1 _); (· have := ext_bs s t k; simp; omega); intro v2 w2 ho2 hb2'; have hb2 : Below B w1 w2 := (by first | exact (((Below.refl B w1).alloc ho1.2 _).drew).trans hb2' | exact (((Below.refl B w1).drew).alloc ho1.2 _).trans hb2'); clear hb2')
                      all_goals
                        go_wp2
                        go_roundw
                        case rel => exact ⟨k + 1, k + 1, _, Nat.le_refl _, by omega, by go_num, by go_num, ho2, (hbel.trans hb1).trans hb2, step_esc s k t cur xs _ _ hlt rfl (escB_hex _ b1 h8 h12 h10 h13 h9) heq.out⟩
                        case measure => simp [intOf]; omega
    · go_wp2_with (at_builtin; refine law_str rfl (.tmp 72) (.tmp 75) rfl B _ _ rfl hcur _ rfl ?_ ?_; (· have := ext_len s t s.size; omega); intro v1 w1 ho1 hb1)
      go_ret
      refine ⟨_, rfl, ?_, hbel.trans hb1⟩
      rw [← step_end s k t cur xs (by omega) heq.out]
      exact ho1
end Go.Proofs.Qxb6631319a
