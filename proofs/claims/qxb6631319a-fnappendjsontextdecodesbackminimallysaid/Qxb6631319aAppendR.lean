/-
  THE WALK OF appendJSONText ONCE MORE, over 'OwnR': of the blocks that lay there none but the slice's own has turned.
-/
import Derived.Test.Qxb6631319aAppend
import Derived.Test.Qxb6631319aOwnR
namespace Go.Proofs.Qxb6631319a
open Go.RowKit Js
set_option linter.unusedVariables false

set_option maxHeartbeats 4000000 in
theorem appendR_any (N : Nat) (row : Option Nat) (v : Value) (xs : List Int) (s : ByteArray) (w : World) (hown : OwnR N row v xs w) (hs : s.size ≤ 1073741824) (hx : xs.length ≤ 1099511627776) :
    Calls Try.prog 14 #[v, .string s] w fun e w' => ∃ v', e = .returned v' ∧ OwnR N row v' (xs ++ esc (bs s)) w' ∧ Kp N row w w' := by
  go_enter Try.func14, Try.ntmps14
  go_wp2
  go_loopw [0, 5, 6] (fun v st i wr => ∃ (k t : Nat) (cur : List Int), t ≤ k ∧ k ≤ s.size ∧ i = .int .i64 k ∧ st = .int .i64 t ∧ OwnR N row v cur wr ∧ Kp N row w wr ∧ Hid (cur ++ ((bs s).take k).drop t = xs ++ esc ((bs s).take k)))
    (fun _ _ i _ => s.size - (intOf i).toNat)
  case atStart => exact ⟨0, 0, xs, Nat.le_refl _, Nat.zero_le _, rfl, rfl, hown, Kp.refl _ _ _, by show _ = _; simp [esc_nil]⟩
  case round =>
    obtain ⟨k, t, cur, htk, hk, rfl, rfl, hcur, hbel, heq⟩ := hrel
    have hcl : cur.length ≤ 1106000000000 := by have := cur_len s k t cur xs hk heq.out; omega
    by_cases hlt : k < s.size
    · by_cases h34 : (s[k].toNat : Int) = 34
      · go_wp2_with (first
          | (at_builtin; refine lawR_str rfl (.tmp 27) (.tmp 31) rfl N row _ _ rfl hcur _ rfl ?_ ?_; (· have := ext_len s t k; omega); intro v1 w1 ho1 hb1)
          | (at_builtin; refine lawR_new rfl (.tmp 46) (.tmp 48) rfl N row _ _ rfl _ ho1 [92, 34] 2 rfl rfl rfl ?_ ?_; (· have := ext_bs s t k; simp; omega); intro v2 w2 ho2 hb2))
        go_roundw
        case rel => exact ⟨k + 1, k + 1, _, Nat.le_refl _, by omega, by go_num, by go_num, ho2, (hbel.trans hb1).trans hb2, step_esc s k t cur xs _ 34 hlt h34 rfl heq.out⟩
        case measure => simp [intOf]; omega
      · by_cases h92 : (s[k].toNat : Int) = 92
        · go_wp2_with (first
            | (at_builtin; refine lawR_str rfl (.tmp 27) (.tmp 31) rfl N row _ _ rfl hcur _ rfl ?_ ?_; (· have := ext_len s t k; omega); intro v1 w1 ho1 hb1)
            | (at_builtin; refine lawR_new rfl (.tmp 46) (.tmp 48) rfl N row _ _ rfl _ ho1 [92, 92] 2 rfl rfl rfl ?_ ?_; (· have := ext_bs s t k; simp; omega); intro v2 w2 ho2 hb2))
          go_roundw
          case rel => exact ⟨k + 1, k + 1, _, Nat.le_refl _, by omega, by go_num, by go_num, ho2, (hbel.trans hb1).trans hb2, step_esc s k t cur xs _ 92 hlt h92 rfl heq.out⟩
          case measure => simp [intOf]; omega
        · by_cases h8 : (s[k].toNat : Int) = 8
          · go_wp2_with (first
              | (at_builtin; refine lawR_str rfl (.tmp 27) (.tmp 31) rfl N row _ _ rfl hcur _ rfl ?_ ?_; (· have := ext_len s t k; omega); intro v1 w1 ho1 hb1)
              | (at_builtin; refine lawR_str rfl (.tmp 52) (.const (.string ⟨#[92, 98]⟩)) rfl N row _ _ rfl ho1 ⟨#[92, 98]⟩ rfl ?_ ?_; (· have := ext_bs s t k; rw [List.length_append, show (ByteArray.mk #[92, 98]).size = 2 from rfl]; omega); intro v2 w2 ho2 hb2))
            go_roundw
            case rel => exact ⟨k + 1, k + 1, _, Nat.le_refl _, by omega, by go_num, by go_num, ho2, (hbel.trans hb1).trans hb2, step_esc s k t cur xs _ 8 hlt h8 rfl heq.out⟩
            case measure => simp [intOf]; omega
          · by_cases h12 : (s[k].toNat : Int) = 12
            · go_wp2_with (first
                | (at_builtin; refine lawR_str rfl (.tmp 27) (.tmp 31) rfl N row _ _ rfl hcur _ rfl ?_ ?_; (· have := ext_len s t k; omega); intro v1 w1 ho1 hb1)
                | (at_builtin; refine lawR_str rfl (.tmp 56) (.const (.string ⟨#[92, 102]⟩)) rfl N row _ _ rfl ho1 ⟨#[92, 102]⟩ rfl ?_ ?_; (· have := ext_bs s t k; rw [List.length_append, show (ByteArray.mk #[92, 102]).size = 2 from rfl]; omega); intro v2 w2 ho2 hb2))
              go_roundw
              case rel => exact ⟨k + 1, k + 1, _, Nat.le_refl _, by omega, by go_num, by go_num, ho2, (hbel.trans hb1).trans hb2, step_esc s k t cur xs _ 12 hlt h12 rfl heq.out⟩
              case measure => simp [intOf]; omega
            · by_cases h10 : (s[k].toNat : Int) = 10
              · go_wp2_with (first
                  | (at_builtin; refine lawR_str rfl (.tmp 27) (.tmp 31) rfl N row _ _ rfl hcur _ rfl ?_ ?_; (· have := ext_len s t k; omega); intro v1 w1 ho1 hb1)
                  | (at_builtin; refine lawR_str rfl (.tmp 60) (.const (.string ⟨#[92, 110]⟩)) rfl N row _ _ rfl ho1 ⟨#[92, 110]⟩ rfl ?_ ?_; (· have := ext_bs s t k; rw [List.length_append, show (ByteArray.mk #[92, 110]).size = 2 from rfl]; omega); intro v2 w2 ho2 hb2))
                go_roundw
                case rel => exact ⟨k + 1, k + 1, _, Nat.le_refl _, by omega, by go_num, by go_num, ho2, (hbel.trans hb1).trans hb2, step_esc s k t cur xs _ 10 hlt h10 rfl heq.out⟩
                case measure => simp [intOf]; omega
              · by_cases h13 : (s[k].toNat : Int) = 13
                · go_wp2_with (first
                    | (at_builtin; refine lawR_str rfl (.tmp 27) (.tmp 31) rfl N row _ _ rfl hcur _ rfl ?_ ?_; (· have := ext_len s t k; omega); intro v1 w1 ho1 hb1)
                    | (at_builtin; refine lawR_str rfl (.tmp 64) (.const (.string ⟨#[92, 114]⟩)) rfl N row _ _ rfl ho1 ⟨#[92, 114]⟩ rfl ?_ ?_; (· have := ext_bs s t k; rw [List.length_append, show (ByteArray.mk #[92, 114]).size = 2 from rfl]; omega); intro v2 w2 ho2 hb2))
                  go_roundw
                  case rel => exact ⟨k + 1, k + 1, _, Nat.le_refl _, by omega, by go_num, by go_num, ho2, (hbel.trans hb1).trans hb2, step_esc s k t cur xs _ 13 hlt h13 rfl heq.out⟩
                  case measure => simp [intOf]; omega
                · by_cases h9 : (s[k].toNat : Int) = 9
                  · go_wp2_with (first
                      | (at_builtin; refine lawR_str rfl (.tmp 27) (.tmp 31) rfl N row _ _ rfl hcur _ rfl ?_ ?_; (· have := ext_len s t k; omega); intro v1 w1 ho1 hb1)
                      | (at_builtin; refine lawR_str rfl (.tmp 68) (.const (.string ⟨#[92, 116]⟩)) rfl N row _ _ rfl ho1 ⟨#[92, 116]⟩ rfl ?_ ?_; (· have := ext_bs s t k; rw [List.length_append, show (ByteArray.mk #[92, 116]).size = 2 from rfl]; omega); intro v2 w2 ho2 hb2))
                    go_roundw
                    case rel => exact ⟨k + 1, k + 1, _, Nat.le_refl _, by omega, by go_num, by go_num, ho2, (hbel.trans hb1).trans hb2, step_esc s k t cur xs _ 9 hlt h9 rfl heq.out⟩
                    case measure => simp [intOf]; omega
                  · by_cases hp : 32 ≤ (s[k].toNat : Int)
                    · have n34 : ((s[k].toNat : Int) != 34) = true := by simpa using h34
                      have n92 : ((s[k].toNat : Int) != 92) = true := by simpa using h92
                      go_wp2
                      go_roundw
                      case rel => exact ⟨k + 1, t, cur, by omega, by omega, by go_num, rfl, hcur, hbel, step_plain s k t cur xs _ hlt htk rfl ((plain_iff _).2 ⟨hp, h34, h92⟩) heq.out⟩
                      case measure => simp [intOf]; omega
                    · go_wp2_with (first
                        | (at_builtin; refine lawR_str rfl (.tmp 27) (.tmp 31) rfl N row _ _ rfl hcur _ rfl ?_ ?_; (· have := ext_len s t k; omega); intro v1 w1 ho1 hb1)
                        | fail)
                      have b0 : 0 ≤ (s[k].toNat : Int) := by omega
                      have b1 : (s[k].toNat : Int) < 32 := by omega
                      have e1 := hex_at ((s[k].toNat : Int) / 16) (by omega) (by omega)
                      have e2 := hex_at ((s[k].toNat : Int) % 16) (by omega) (by omega)
                      have e3 := and15 (s[k].toNat : Int) b0 b1
                      go_region_law (refine lawR_step rfl (.tmp 34) (.tmp 41) rfl N row _ _ rfl (by first | exact (ho1.alloc _).drew | exact ho1.drew.alloc _) [92, 117, 48, 48, hexD ((s[k].toNat : Int) / 16), hexD ((s[k].toNat : Int) % 16)] 6 w1.heap.size rfl (by decide) (by simp [Act.eval]) ?_ ?_ ?_; (· exact heap_alloc_new w1 _); (· have := ext_bs s t k; simp; omega); intro v2 w2 ho2 hb2'; have hb2 : Kp N row w1 w2 := (by first | exact (((Kp.refl N row w1).alloc ho1.2.1 _).drew).trans hb2' | exact (((Kp.refl N row w1).drew).alloc ho1.2.1 _).trans hb2'); clear hb2')
                      all_goals
                        go_wp2
                        go_roundw
                        case rel => exact ⟨k + 1, k + 1, _, Nat.le_refl _, by omega, by go_num, by go_num, ho2, (hbel.trans hb1).trans hb2, step_esc s k t cur xs _ _ hlt rfl (escB_hex _ b1 h8 h12 h10 h13 h9) heq.out⟩
                        case measure => simp [intOf]; omega
    · go_wp2_with (at_builtin; refine lawR_str rfl (.tmp 72) (.tmp 75) rfl N row _ _ rfl hcur _ rfl ?_ ?_; (· have := ext_len s t s.size; omega); intro v1 w1 ho1 hb1)
      go_ret
      refine ⟨_, rfl, ?_, hbel.trans hb1⟩
      rw [← step_end s k t cur xs (by omega) heq.out]
      exact ho1
end Go.Proofs.Qxb6631319a
