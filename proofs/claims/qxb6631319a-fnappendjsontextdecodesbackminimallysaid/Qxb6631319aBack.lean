/-
  THE WALK OF THE LAW 'decodes back minimally'.
-/
import Derived.Test.Qxb6631319aDecode
import Derived.Test.Qxb6631319aAppendR
import Derived.Test.Qxb6631319aSplits
namespace Go.Proofs.Qxb6631319a
open Go.RowKit Js
set_option linter.unusedVariables false

theorem zzR_any (N : Nat) (row : Option Nat) (v : Value) (xs : List Int) (s : ByteArray) (w : World) (hown : OwnR N row v xs w) (hs : s.size ≤ 1073741824) (hx : xs.length ≤ 1099511627776) :
    Calls Try.prog 7 #[v, .string s] w fun e w' => ∃ v', e = .returned v' ∧ OwnR N row v' (xs ++ esc (bs s)) w' ∧ Kp N row w w' := by
  go_enter Try.func7, Try.ntmps7
  go_wp2_with (go_at_call 14; refine (appendR_any N row v xs s _ hown hs hx).mono ?_; rintro e w' ⟨v', rfl, ho, hb⟩)
  go_ret
  exact ⟨_, rfl, ho, hb⟩

theorem own_kp {B : Nat} {row : Option Nat} {v : Value} {l : List Int} {w w' : World} (h : Own B v l w) (hk : Kp w.heap.size row w w') (hr : ∀ g, row = some g → g < B) : Own B v l w' := by
  refine ⟨⟨h.1.1, ?_⟩, Nat.le_trans h.2 hk.size⟩
  rcases h.1.2 with hn | ⟨g, cap, cur, rfl, hB, hg, rest⟩
  · exact .inl hn
  · refine .inr ⟨g, cap, cur, rfl, hB, ?_, rest⟩
    rw [hk.block g (Array.getElem?_eq_some_iff.1 hg).1 (fun e => by have := hr g e.symm; omega)]; exact hg

theorem own_sl {B : Nat} {a : Option Addr} {n c : Nat} {l : List Int} {w : World} (h : Own B (.slice a n c) l w) : Sl w a n c l := by
  obtain ⟨a', c', he, hs⟩ := h.form
  simp only [Value.slice.injEq] at he
  obtain ⟨rfl, rfl, rfl⟩ := he
  exact hs
theorem getD_front (l m : List Int) (i : Nat) (h : i < l.length) : (l ++ m).getD i 0 = l.getD i 0 := by
  rw [List.getD_eq_getElem?_getD, List.getElem?_append_left h, ← List.getD_eq_getElem?_getD]
theorem getD_back (l m : List Int) (i : Nat) : (l ++ m).getD (l.length + i) 0 = m.getD i 0 := by
  rw [List.getD_eq_getElem?_getD, List.getElem?_append_right (by omega), Nat.add_sub_cancel_left, ← List.getD_eq_getElem?_getD]

theorem tail_one {w : World} {ao : Option Addr} {co : Nat} {l m P : List Int} (h : Sl w ao P.length co P) (hP : P = l ++ m) (hco : ¬ co = l.length) :
    Sl w (Option.map (fun x => x.add l.length) ao) (P.length - l.length) (co - l.length) m := by
  obtain ⟨t1, t2, t3, t4, t5⟩ := h
  have hl : P.length = l.length + m.length := by rw [hP, List.length_append]
  refine ⟨by omega, by omega, by omega, fun h0 => ?_, fun h0 => ?_⟩
  · cases ao with
    | none => have := t4 rfl; omega
    | some x => cases h0
  · obtain ⟨b, off, rfl, hc⟩ := t5 (by omega)
    refine ⟨b, off + l.length, ?_, fun i hi => ?_⟩
    · have hadd : (⟨b, off, none⟩ : Addr).add l.length = ⟨b, off + l.length, none⟩ := by unfold Addr.add; split <;> simp_all
      simp only [Option.map_some, hadd]
    · have := hc (l.length + i) (by omega)
      rw [Nat.add_assoc, this, hP, getD_back]
theorem fin_len {l m P : List Int} (hP : P = l ++ m) : (((P.length - l.length : Nat) : Int) == (m.length : Int)) = true := by
  rw [hP, List.length_append]; simp
theorem tail_two {w : World} {ao : Option Addr} {co : Nat} {l m P : List Int} (h : Sl w ao P.length co P) (hP : P = l ++ m) (hco : co = l.length) :
    Sl w ao (P.length - l.length) 0 m := by
  obtain ⟨t1, t2, t3, t4, t5⟩ := h
  have hl : P.length = l.length + m.length := by rw [hP, List.length_append]
  exact ⟨by omega, by omega, by omega, fun _ => rfl, fun h0 => by omega⟩

/-- The bound on lengths, laid by program. -/
theorem bytes1_yes (a : Option Addr) (n cap : Nat) (s1 : ByteArray) (w : World) (h : n + s1.size ≤ 1048576) :
    Calls Try.prog 5 #[.slice a n cap, .string s1] w fun e w' => e = .returned (.bool true) ∧ w = w' := by
  have h1 : ¬ 1048576 < (n : Int) := by omega
  have h2 : ¬ 1048576 < (s1.size : Int) := by omega
  have h3 : ¬ 1048576 < (n : Int) + (s1.size : Int) := by omega
  go_enter Try.func5, Try.ntmps5
  go_wp2
  go_ret
  exact ⟨rfl, rfl⟩
theorem bytes1_no (a : Option Addr) (n cap : Nat) (s1 : ByteArray) (w : World) (hn : n ≤ 9223372036854775807) (hs1 : s1.size ≤ 9223372036854775807) (h : ¬ n + s1.size ≤ 1048576) :
    Calls Try.prog 5 #[.slice a n cap, .string s1] w fun e w' => e = .returned (.bool false) ∧ w = w' := by
  by_cases h1 : 1048576 < (n : Int)
  · go_enter Try.func5, Try.ntmps5
    go_wp2
    go_ret
    exact ⟨rfl, rfl⟩
  by_cases h2 : 1048576 < (s1.size : Int)
  · go_enter Try.func5, Try.ntmps5
    go_wp2
    go_ret
    exact ⟨rfl, rfl⟩
  have h3 : 1048576 < (n : Int) + (s1.size : Int) := by omega
  go_enter Try.func5, Try.ntmps5
  go_wp2
  go_ret
  exact ⟨rfl, rfl⟩

set_option maxHeartbeats 4000000 in
theorem back_in (a0 : Option Addr) (n0 c0 : Nat) (l : List Int) (s : ByteArray) (w : World) (hS : Sl w a0 n0 c0 l) (hn : n0 + s.size ≤ 1048576) :
    Calls Try.prog 3 #[.slice a0 n0 c0, .string s] w fun e w' => e = .returned (.bool true) ∧ Below w.heap.size w w' := by
  have h1 : ¬ 1048576 < (n0 : Int) := by omega
  have h2 : ¬ 1048576 < (s.size : Int) := by omega
  have h3 : ¬ 1048576 < (n0 : Int) + (s.size : Int) := by omega
  obtain ⟨PX, hPX⟩ : ∃ PX, Hid (PX = l ++ esc (bs s)) := ⟨_, rfl⟩
  have hpl : l.length ≤ PX.length := by rw [hPX.out, List.length_append]; omega
  have hpl2 : PX.length ≤ 7340032 := by have := (esc_len (bs s)).2; rw [bs_length] at this; rw [hPX.out, List.length_append]; have := hS.1; omega
  have hl0 : l.length ≤ 1048576 := by have := hS.1; omega
  have q1 : s.size ≤ 1073741824 := by omega
  have hdf : decide (PX.length < l.length) = false := by simp; omega
  go_enter Try.func3, Try.ntmps3
  go_wp2_with (first
    | (go_at_call 5; refine (bytes1_yes _ _ _ _ _ hn).mono ?_; rintro e w' ⟨rfl, rfl⟩)
    | (go_at_call_of 6 a0; refine (clone_any a0 n0 c0 l _ hS (by omega)).mono ?_; rintro e w1 ⟨v1, rfl, ho1, hb1⟩; obtain ⟨ad, cd, rfl, hd1⟩ := ho1.form)
    | (go_at_call_of 6 ad; refine (clone_any ad l.length cd l w1 hd1 (by omega)).mono ?_; rintro e w2 ⟨v2, rfl, ho2, hb2⟩; obtain ⟨aw, cw, rfl, hw2⟩ := ho2.form)
    | (go_at_call_of 7 ad; refine (zzR_any w2.heap.size (Value.ownBlock (.slice ad l.length cd)) _ l s w2 (ho1.below hb2).toR q1 (by omega)).mono ?_; rintro e w3 ⟨v3, rfl, ho3, hk3⟩; rw [← hPX.out] at ho3; obtain ⟨ao, co, rfl, ht3⟩ := ho3.toOwn.form; have hw3 := own_kp ho2 hk3 (fun g hg => (ho1.1.lt g hg).2); have k3 : Below w.heap.size w w3 := chain (chain hb1 hb2 hb1.size) (hk3.below (Nat.le_trans hb1.size hb2.size) (fun g hg => (ho1.1.lt g hg).1)) (Nat.le_refl _); clear ho3 hk3 ho1 hd1 hw2)
    | fail)
  have hsw := own_sl hw3
  obtain ⟨-, -, -, -, l5⟩ := hsw
  obtain ⟨t1, t2, t3, t4, t5⟩ := ht3
  clear hw3
  go_loopw [7] (fun i wr => ∃ k q : Nat, k ≤ l.length ∧ i = .int .i64 k ∧ wr = w3.drewN q) (fun i _ => l.length - (intOf i).toNat)
  case atStart => exact ⟨0, 0, Nat.zero_le _, rfl, rfl⟩
  case round =>
    obtain ⟨k, q, hk, rfl, rfl⟩ := hrel
    by_cases hlt : k < l.length
    · obtain ⟨b, off, rfl, hc⟩ := l5 (by omega)
      obtain ⟨b', off', rfl, hc'⟩ := t5 (by omega)
      obtain ⟨x, hx, hx'⟩ : ∃ x : Int, w3.cell? ⟨b, off + k, none⟩ = some (.int .u8 x) ∧ w3.cell? ⟨b', off' + k, none⟩ = some (.int .u8 x) :=
        ⟨_, hc k hlt, by rw [hc' k (by omega), hPX.out, getD_front l _ k hlt]⟩
      have hki : (k : Int) < (l.length : Int) := by omega
      have hki' : (k : Int) < (PX.length : Int) := by omega
      clear hc hc' l5 t5
      go_wp2
      go_quiet (fail)
      go_wp2
      go_roundw
      case rel => exact ⟨k + 1, _, by omega, by go_num, rfl⟩
      case measure => simp [intOf]; omega
    · have hke : ¬ (k : Int) < (l.length : Int) := by omega
      have hT : Hid (Sl w3 ao PX.length co PX) := ⟨t1, t2, t3, t4, t5⟩
      clear t1 t2 t3 t4 t5 l5
      by_cases hco : co = l.length
      · subst hco
        have hS2 := tail_two hT.out hPX.out rfl
        clear hT
        go_wp2_with (first
          | (go_at_call 8; refine (decode_any _ _ _ (bs s) _ ?_ ?_ (bs_bound s)).mono ?_; (· exact hS2.below (below_drewN (Below.refl _ _) _)); (· rw [bs_length]; exact q1); rintro e w4 ⟨v4, rfl, ho4, hb4⟩; obtain ⟨ax, cx, rfl, hx4⟩ := ho4.form)
          | (go_at_call 9; refine (eqs_any ax _ cx (bs s) s _ hx4 q1).mono ?_; rintro e w5 ⟨rfl, qx, rfl⟩)
          | (go_at_call 10; refine (cost_any s _ q1).mono ?_; rintro e w6 ⟨rfl, rfl⟩))
        go_ret
        exact ⟨ret_bool (fin_len hPX.out), below_drewN (chain (below_drewN k3 q) hb4 k3.size) _⟩
      · have hS2 := tail_one hT.out hPX.out hco
        clear hT
        go_wp2_with (first
          | (go_at_call 8; refine (decode_any _ _ _ (bs s) _ ?_ ?_ (bs_bound s)).mono ?_; (· exact hS2.below (below_drewN (Below.refl _ _) _)); (· rw [bs_length]; exact q1); rintro e w4 ⟨v4, rfl, ho4, hb4⟩; obtain ⟨ax, cx, rfl, hx4⟩ := ho4.form)
          | (go_at_call 9; refine (eqs_any ax _ cx (bs s) s _ hx4 q1).mono ?_; rintro e w5 ⟨rfl, qx, rfl⟩)
          | (go_at_call 10; refine (cost_any s _ q1).mono ?_; rintro e w6 ⟨rfl, rfl⟩))
        go_ret
        exact ⟨ret_bool (fin_len hPX.out), below_drewN (chain (below_drewN k3 q) hb4 k3.size) _⟩

theorem back_out (a0 : Option Addr) (n0 c0 : Nat) (s : ByteArray) (w : World) (hn : n0 ≤ 9223372036854775807) (hs : s.size ≤ 9223372036854775807) (h : ¬ n0 + s.size ≤ 1048576) :
    Calls Try.prog 3 #[.slice a0 n0 c0, .string s] w fun e w' => e = .returned (.bool true) ∧ Below w.heap.size w w' := by
  go_enter Try.func3, Try.ntmps3
  go_wp2_with (go_at_call 5; refine (bytes1_no _ _ _ _ _ hn hs h).mono ?_; rintro e w' ⟨rfl, rfl⟩)
  go_ret
  exact ⟨rfl, Below.refl _ _⟩

theorem back_any (a0 : Option Addr) (len0 cap0 : Nat) (z0 : List Int) (a1 : ByteArray) (w : World) (w0 : IsRow .u8 w a0 len0 cap0 z0) (w1 : a1.size ≤ maxLen) :
    Calls Try.prog 3 #[.slice a0 len0 cap0, .string a1] w fun e w' => e = .returned (.bool true) ∧ Below w.heap.size w w' := by
  have hS := sl_of_row w0
  unfold maxLen at w1
  have h3 := hS.2.2.1
  have h2 := hS.2.1
  unfold maxLen at h3
  by_cases h : len0 + a1.size ≤ 1048576
  · exact back_in a0 len0 cap0 _ a1 w hS h
  · exact back_out a0 len0 cap0 a1 w (by omega) (by omega) h
end Go.Proofs.Qxb6631319a
