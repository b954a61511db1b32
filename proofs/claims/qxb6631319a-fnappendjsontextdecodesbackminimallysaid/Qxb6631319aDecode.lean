/-
  THE WALK OF zzB1Decode over a text that was written by appendJSONText.
-/
import Derived.Test.Qxb6631319aCost
namespace Go.Proofs.Qxb6631319a
open Go.RowKit Js
set_option linter.unusedVariables false

/-- The text at the place of byte k: one byte of it. -/
def At (w : World) (b q : Nat) (e : Int) : Prop := w.cell? ⟨b, q, none⟩ = some (.int .u8 e)
theorem text_cells {w : World} {b off n : Nat} {l : List Int} (hn : (esc l).length = n) (hc : ∀ i, i < n → w.cell? ⟨b, off + i, none⟩ = some (.int .u8 ((esc l).getD i 0))) (k p : Nat) (hk : k < l.length) (hp : p = (esc (l.take k)).length) (c : Int) (hcc : c = l.getD k 0) (E : List Int) (hE : escB c = E) :
    p + E.length ≤ n ∧ ∀ j, j < E.length → At w b (off + (p + j)) (E.getD j 0) := by
  subst hcc hE hp
  have h1 := esc_le l k hk
  refine ⟨by omega, fun j hj => ?_⟩
  unfold At
  rw [hc _ (by omega), esc_at l k hk j hj]
theorem text_one {w : World} {b off n p : Nat} {c : Int} (h : p + [c].length ≤ n ∧ ∀ j, j < [c].length → At w b (off + (p + j)) ([c].getD j 0)) : p + 1 ≤ n ∧ At w b (off + p) c := ⟨h.1, h.2 0 (by simp)⟩
theorem text_two {w : World} {b off n p : Nat} {c d : Int} (h : p + [c, d].length ≤ n ∧ ∀ j, j < [c, d].length → At w b (off + (p + j)) ([c, d].getD j 0)) : p + 2 ≤ n ∧ At w b (off + p) c ∧ At w b (off + (p + 1)) d := ⟨h.1, h.2 0 (by simp), h.2 1 (by simp)⟩
theorem text_six {w : World} {b off n p : Nat} {c0 c1 c2 c3 c4 c5 : Int} (h : p + [c0, c1, c2, c3, c4, c5].length ≤ n ∧ ∀ j, j < [c0, c1, c2, c3, c4, c5].length → At w b (off + (p + j)) ([c0, c1, c2, c3, c4, c5].getD j 0)) :
    p + 6 ≤ n ∧ At w b (off + p) c0 ∧ At w b (off + (p + 1)) c1 ∧ At w b (off + (p + 2)) c2 ∧ At w b (off + (p + 3)) c3 ∧ At w b (off + (p + 4)) c4 ∧ At w b (off + (p + 5)) c5 :=
  ⟨h.1, h.2 0 (by simp), h.2 1 (by simp), h.2 2 (by simp), h.2 3 (by simp), h.2 4 (by simp), h.2 5 (by simp)⟩

theorem take_next (l : List Int) (k : Nat) (c : Int) (hk : k < l.length) (hc : c = l.getD k 0) : l.take (k + 1) = l.take k ++ [c] := by
  rw [List.take_succ_eq_append_getElem hk, hc, List.getD_eq_getElem?_getD, List.getElem?_eq_getElem hk]; rfl
theorem place_next (l : List Int) (k p m : Nat) (c : Int) (hk : k < l.length) (hc : c = l.getD k 0) (hp : p = (esc (l.take k)).length) (hm : (escB c).length = m) : p + m = (esc (l.take (k + 1))).length := by
  rw [esc_take l k hk, ← hc, List.length_append, hp, hm]

/-- The digits of a u-escape, and the value behind the first j of them. -/
def dg (c : Int) (j : Nat) : Int := if j < 2 then 0 else if j = 2 then c / 16 else c % 16
def pv (c : Int) (j : Nat) : Int := if j ≤ 2 then 0 else if j = 3 then c / 16 else c
theorem dg_bd (c : Int) (j : Nat) (h0 : 0 ≤ c) (h1 : c < 32) : 0 ≤ dg c j ∧ dg c j < 16 := by unfold dg; split <;> (try split) <;> omega
theorem pv_bd (c : Int) (j : Nat) (h0 : 0 ≤ c) (h1 : c < 32) : 0 ≤ pv c j ∧ pv c j < 32 := by unfold pv; split <;> (try split) <;> omega
theorem pv_next (c : Int) (j : Nat) (hj : j < 4) (h0 : 0 ≤ c) (h1 : c < 32) : pv c j * 16 + dg c j = pv c (j + 1) := by
  unfold pv dg
  have : j = 0 ∨ j = 1 ∨ j = 2 ∨ j = 3 := by omega
  rcases this with rfl | rfl | rfl | rfl <;> simp <;> omega
theorem pv_end (c : Int) : pv c 4 = c := rfl
theorem dg_cells {w : World} {b off p : Nat} {c : Int} (c2 : At w b (off + (p + 2)) 48) (c3 : At w b (off + (p + 3)) 48) (c4 : At w b (off + (p + 4)) (hexD (c / 16))) (c5 : At w b (off + (p + 5)) (hexD (c % 16))) :
    ∀ j, j < 4 → w.cell? ⟨b, off + (p + 2 + j), none⟩ = some (.int .u8 (hexD (dg c j))) := by
  intro j hj
  have : j = 0 ∨ j = 1 ∨ j = 2 ∨ j = 3 := by omega
  rcases this with rfl | rfl | rfl | rfl
  · exact c2
  · exact c3
  · exact c4
  · exact c5

set_option maxHeartbeats 4000000 in
set_option maxRecDepth 100000 in
theorem decode_any (a : Option Addr) (n cap : Nat) (l : List Int) (w : World) (hS : Sl w a n cap (esc l)) (hl : l.length ≤ 1073741824) (hby : ∀ c ∈ l, 0 ≤ c ∧ c ≤ 255) :
    Calls Try.prog 8 #[.slice a n cap] w fun e w' => ∃ v', e = .returned (.tuple #[v', .bool true]) ∧ Own w.heap.size v' l w' ∧ Below w.heap.size w w' := by
  obtain ⟨i0, hi, hz0, hz1, hz2⟩ := info_parts info5
  obtain ⟨l1, l2, l3, l4, l5⟩ := hS
  have hn6 : n ≤ 6442450944 := by have := (esc_len l).2; omega
  have L1 : Hid ((esc l).length = n) := l1
  clear l1 l2 l3 l4
  go_enter Try.func8, Try.ntmps8
  go_wp2_with (at_make; refine wpList_make_own _ rfl _ _ 22 rfl w.heap.size 5 i0 (.int .u8 0) 1 Try.underlying22 hi hz0 hz1 .i64 .i64 _ n rfl rfl ?_ ?_ ?_ (Nat.le_refl _) ?_; (· omega); (· rw [hz2]; omega); (· unfold maxLen; omega); intro w1 hown1 hgrow1; have ho1 : Own w.heap.size _ [] w1 := ⟨hown1, hgrow1.size⟩; have hb1 : Below w.heap.size w w1 := (Below.refl _ _).grown hgrow1 (Nat.le_refl _) (fun k hk => by cases hk); clear hown1 hgrow1)
  go_loopw [4, 5] (fun v i wr => ∃ (k p : Nat), k ≤ l.length ∧ p ≤ n ∧ i = .int .i64 p ∧ Own w.heap.size v (l.take k) wr ∧ Below w.heap.size w wr ∧ Hid (p = (esc (l.take k)).length)) (fun _ i _ => n - (intOf i).toNat)
  case atStart => exact ⟨0, 0, Nat.zero_le _, Nat.zero_le _, rfl, ho1, hb1, rfl⟩
  case round =>
    obtain ⟨k, p, hk, hpn, rfl, hcur, hbel, hp⟩ := hrel
    by_cases hlt : k < l.length
    · have hn0 : 0 < n := by have := (esc_len l).1; have := L1.out; omega
      obtain ⟨b, off, rfl, hc⟩ := l5 hn0
      have hcw : ∀ i, i < n → wr.cell? ⟨b, off + i, none⟩ = some (.int .u8 ((esc l).getD i 0)) := fun i hi => by
        have h0 := hc i hi
        rw [hbel.cell (World.block_lt_of_cell? w _ h0)]; exact h0
      obtain ⟨c, hcc⟩ : ∃ c, Hid (c = l.getD k 0) := ⟨_, rfl⟩
      have T := fun E hE => text_cells L1.out hcw k p hlt hp.out c hcc.out E hE
      clear hc hcw l5
      by_cases h34 : c = 34
      · subst h34
        obtain ⟨t1, c0, c1⟩ := text_two (T [92, 34] rfl)
        unfold At at c0 c1
        have i0' : (p : Int) < (n : Int) := by omega
        have i1 : ¬ (n : Int) ≤ (p : Int) + 1 := by omega
        have i2 : (p : Int) + 1 < (n : Int) := by omega
        clear T
        go_wp2_with (at_builtin; refine law_new rfl (.tmp 56) (.tmp 58) rfl w.heap.size _ _ rfl _ hcur [34] 1 rfl rfl rfl ?_ ?_; (· rw [List.length_take]; simp; omega); intro v2 w2 ho2 hb2)
        go_roundw
        case rel => exact ⟨k + 1, p + 2, by omega, by omega, by go_num, by rw [take_next l k _ hlt hcc.out]; exact ho2, hbel.trans hb2, place_next l k p 2 _ hlt hcc.out hp.out rfl⟩
        case measure => simp [intOf]; omega
      by_cases h92 : c = 92
      · subst h92
        obtain ⟨t1, c0, c1⟩ := text_two (T [92, 92] rfl)
        unfold At at c0 c1
        have i0' : (p : Int) < (n : Int) := by omega
        have i1 : ¬ (n : Int) ≤ (p : Int) + 1 := by omega
        have i2 : (p : Int) + 1 < (n : Int) := by omega
        clear T
        go_wp2_with (at_builtin; refine law_new rfl (.tmp 56) (.tmp 58) rfl w.heap.size _ _ rfl _ hcur [92] 1 rfl rfl rfl ?_ ?_; (· rw [List.length_take]; simp; omega); intro v2 w2 ho2 hb2)
        go_roundw
        case rel => exact ⟨k + 1, p + 2, by omega, by omega, by go_num, by rw [take_next l k _ hlt hcc.out]; exact ho2, hbel.trans hb2, place_next l k p 2 _ hlt hcc.out hp.out rfl⟩
        case measure => simp [intOf]; omega
      by_cases h8 : c = 8
      · subst h8
        obtain ⟨t1, c0, c1⟩ := text_two (T [92, 98] rfl)
        unfold At at c0 c1
        have i0' : (p : Int) < (n : Int) := by omega
        have i1 : ¬ (n : Int) ≤ (p : Int) + 1 := by omega
        have i2 : (p : Int) + 1 < (n : Int) := by omega
        clear T
        go_wp2_with (at_builtin; refine law_new rfl (.tmp 65) (.tmp 66) rfl w.heap.size _ _ rfl _ hcur [8] 1 rfl rfl rfl ?_ ?_; (· rw [List.length_take]; simp; omega); intro v2 w2 ho2 hb2)
        go_roundw
        case rel => exact ⟨k + 1, p + 2, by omega, by omega, by go_num, by rw [take_next l k _ hlt hcc.out]; exact ho2, hbel.trans hb2, place_next l k p 2 _ hlt hcc.out hp.out rfl⟩
        case measure => simp [intOf]; omega
      by_cases h12 : c = 12
      · subst h12
        obtain ⟨t1, c0, c1⟩ := text_two (T [92, 102] rfl)
        unfold At at c0 c1
        have i0' : (p : Int) < (n : Int) := by omega
        have i1 : ¬ (n : Int) ≤ (p : Int) + 1 := by omega
        have i2 : (p : Int) + 1 < (n : Int) := by omega
        clear T
        go_wp2_with (at_builtin; refine law_new rfl (.tmp 72) (.tmp 73) rfl w.heap.size _ _ rfl _ hcur [12] 1 rfl rfl rfl ?_ ?_; (· rw [List.length_take]; simp; omega); intro v2 w2 ho2 hb2)
        go_roundw
        case rel => exact ⟨k + 1, p + 2, by omega, by omega, by go_num, by rw [take_next l k _ hlt hcc.out]; exact ho2, hbel.trans hb2, place_next l k p 2 _ hlt hcc.out hp.out rfl⟩
        case measure => simp [intOf]; omega
      by_cases h10 : c = 10
      · subst h10
        obtain ⟨t1, c0, c1⟩ := text_two (T [92, 110] rfl)
        unfold At at c0 c1
        have i0' : (p : Int) < (n : Int) := by omega
        have i1 : ¬ (n : Int) ≤ (p : Int) + 1 := by omega
        have i2 : (p : Int) + 1 < (n : Int) := by omega
        clear T
        go_wp2_with (at_builtin; refine law_new rfl (.tmp 79) (.tmp 80) rfl w.heap.size _ _ rfl _ hcur [10] 1 rfl rfl rfl ?_ ?_; (· rw [List.length_take]; simp; omega); intro v2 w2 ho2 hb2)
        go_roundw
        case rel => exact ⟨k + 1, p + 2, by omega, by omega, by go_num, by rw [take_next l k _ hlt hcc.out]; exact ho2, hbel.trans hb2, place_next l k p 2 _ hlt hcc.out hp.out rfl⟩
        case measure => simp [intOf]; omega
      by_cases h13 : c = 13
      · subst h13
        obtain ⟨t1, c0, c1⟩ := text_two (T [92, 114] rfl)
        unfold At at c0 c1
        have i0' : (p : Int) < (n : Int) := by omega
        have i1 : ¬ (n : Int) ≤ (p : Int) + 1 := by omega
        have i2 : (p : Int) + 1 < (n : Int) := by omega
        clear T
        go_wp2_with (at_builtin; refine law_new rfl (.tmp 86) (.tmp 87) rfl w.heap.size _ _ rfl _ hcur [13] 1 rfl rfl rfl ?_ ?_; (· rw [List.length_take]; simp; omega); intro v2 w2 ho2 hb2)
        go_roundw
        case rel => exact ⟨k + 1, p + 2, by omega, by omega, by go_num, by rw [take_next l k _ hlt hcc.out]; exact ho2, hbel.trans hb2, place_next l k p 2 _ hlt hcc.out hp.out rfl⟩
        case measure => simp [intOf]; omega
      by_cases h9 : c = 9
      · subst h9
        obtain ⟨t1, c0, c1⟩ := text_two (T [92, 116] rfl)
        unfold At at c0 c1
        have i0' : (p : Int) < (n : Int) := by omega
        have i1 : ¬ (n : Int) ≤ (p : Int) + 1 := by omega
        have i2 : (p : Int) + 1 < (n : Int) := by omega
        clear T
        go_wp2_with (at_builtin; refine law_new rfl (.tmp 93) (.tmp 94) rfl w.heap.size _ _ rfl _ hcur [9] 1 rfl rfl rfl ?_ ?_; (· rw [List.length_take]; simp; omega); intro v2 w2 ho2 hb2)
        go_roundw
        case rel => exact ⟨k + 1, p + 2, by omega, by omega, by go_num, by rw [take_next l k _ hlt hcc.out]; exact ho2, hbel.trans hb2, place_next l k p 2 _ hlt hcc.out hp.out rfl⟩
        case measure => simp [intOf]; omega
      by_cases h32 : 32 ≤ c
      · obtain ⟨t1, c0⟩ := text_one (T [c] (escB_plain c ((plain_iff c).2 ⟨h32, h34, h92⟩)))
        unfold At at c0
        have i0' : (p : Int) < (n : Int) := by omega
        have g0 : ¬ c < 32 := by omega
        have g1 : (c == 34) = false := by simpa using h34
        have g2 : (c != 92) = true := by simpa using h92
        clear T
        go_wp2_with (at_builtin; refine law_new rfl (.tmp 30) (.tmp 32) rfl w.heap.size _ _ rfl _ hcur [c] 1 rfl rfl rfl ?_ ?_; (· rw [List.length_take]; simp; omega); intro v2 w2 ho2 hb2)
        go_roundw
        case rel => exact ⟨k + 1, p + 1, by omega, by omega, by go_num, by rw [take_next l k _ hlt hcc.out]; exact ho2, hbel.trans hb2, place_next l k p 1 _ hlt hcc.out hp.out (by rw [escB_plain c ((plain_iff c).2 ⟨h32, h34, h92⟩)]; rfl)⟩
        case measure => simp [intOf]; omega
      have hc0 : 0 ≤ c := (hby c (by rw [hcc.out, List.getD_eq_getElem?_getD, List.getElem?_eq_getElem hlt]; exact List.getElem_mem _)).1
      have hc1 : c < 32 := by omega
      obtain ⟨t1, c0, c1, c2, c3, c4, c5⟩ := text_six (T [92, 117, 48, 48, hexD (c / 16), hexD (c % 16)] (escB_hex c hc1 h8 h12 h10 h13 h9))
      have hdg := dg_cells c2 c3 c4 c5
      unfold At at c0 c1
      have i0' : (p : Int) < (n : Int) := by omega
      have i1 : ¬ (n : Int) ≤ (p : Int) + 1 := by omega
      have i2 : (p : Int) + 1 < (n : Int) := by omega
      have i3 : ¬ (n : Int) < (p : Int) + 6 := by omega
      clear T c2 c3 c4 c5
      go_wp2
      go_loop [8, 9] (fun t i => ∃ j : Nat, j ≤ 4 ∧ i = .int .i64 ((p : Int) + 2 + (j : Int)) ∧ t = .int .i64 (pv c j)) (fun _ i => (p + 6) - (intOf i).toNat)
      case atStart => exact ⟨0, by omega, by simp, rfl⟩
      case round =>
        obtain ⟨j, hj, rfl, rfl⟩ := hrel
        obtain ⟨b1, b2⟩ := pv_bd c j hc0 hc1
        by_cases hj4 : j < 4
        · have hcell := hdg j hj4
          obtain ⟨d1, d2⟩ := dg_bd c j hc0 hc1
          have hnx := pv_next c j hj4 hc0 hc1
          have k1 : (p : Int) + 2 + (j : Int) < (p : Int) + 6 := by omega
          have k2 : (p : Int) + 2 + (j : Int) < (n : Int) := by omega
          have k3 : ¬ dg c j < 0 := by omega
          clear hdg
          go_wp2_with (go_at_call 15; refine (hex_any _ _ d1 d2).mono ?_; rintro e w3 ⟨rfl, rfl⟩)
          go_round
          case rel => exact ⟨j + 1, by omega, by go_num, rfl⟩
          case measure => simp [intOf]; omega
        · have hje : j = 4 := by omega
          subst hje
          have k1 : ¬ (p : Int) + 2 + ((4 : Nat) : Int) < (p : Int) + 6 := by omega
          rw [pv_end] at b1 b2 ⊢
          clear hdg
          go_wp2_with (at_builtin; refine law_new rfl (.tmp 134) (.tmp 137) rfl w.heap.size _ _ rfl _ hcur [c] 1 rfl rfl rfl ?_ ?_; (· rw [List.length_take]; simp; omega); intro v2 w2 ho2 hb2)
          go_roundw
          case rel => exact ⟨k + 1, p + 6, by omega, by omega, by go_num, by rw [take_next l k _ hlt hcc.out]; exact ho2, hbel.trans hb2, place_next l k p 6 _ hlt hcc.out hp.out (by rw [escB_hex c hc1 h8 h12 h10 h13 h9]; rfl)⟩
          case measure => simp [intOf]; omega
    · have hpe : ¬ (p : Int) < (n : Int) := by
        have h1 := hp.out
        have h2 := L1.out
        rw [List.take_of_length_le (by omega)] at h1
        omega
      go_wp2
      go_ret2
      refine ⟨_, rfl, ?_, hbel⟩
      rw [List.take_of_length_le (by omega)] at hcur
      exact hcur
end Go.Proofs.Qxb6631319a
