/-
  THE WALK OF THE LAW 'splits at any cut'.
-/
import Derived.Test.Qxb6631319aEqs
import Derived.OpenShut
import Derived.Deep.RegionWith
namespace Go.Proofs.Qxb6631319a
open Go.RowKit Js
set_option linter.unusedVariables false

/-- WHAT THE WALK IS TOLD OF A SLICE OF INTEGERS THAT CAME IN: it is nil; or it leads to a row of 'cap' cells, the numbers 'zs' (the first 'len' are its elements, the rest its spare room), each fitting its kind. -/
def IsRow (k : IntKind) (w : World) (a : Option Addr) (len cap : Nat) (zs : List Int) : Prop :=
  (a = none ∧ len = 0 ∧ cap = 0 ∧ zs = []) ∨
  ∃ x, a = some x ∧ len ≤ cap ∧ cap ≤ maxLen ∧ zs.length = cap ∧ (∀ i, i < zs.length → w.cell? (x.add i) = some (.int k (zs.getD i 0))) ∧ ∀ n ∈ zs, (Lit.int k n).wf = true


/-- A slice that came in, as it is read. -/
theorem sl_of_row {w : World} {a : Option Addr} {len cap : Nat} {zs : List Int} (h : IsRow .u8 w a len cap zs) : Sl w a len cap (zs.take len) := by
  rcases h with ⟨rfl, rfl, rfl, rfl⟩ | ⟨x, rfl, h1, h2, h3, h4, h5⟩
  · exact ⟨rfl, Nat.le_refl _, by unfold maxLen; omega, fun _ => rfl, fun h => by omega⟩
  · refine ⟨by rw [List.length_take]; omega, h1, h2, fun h => (by cases h), fun hn => ?_⟩
    obtain ⟨b, off, rfl, hc⟩ := ints_at h4 (by omega)
    refine ⟨b, off, rfl, fun i hi => ?_⟩
    rw [hc i (by omega)]
    congr 2
    rw [List.getD_eq_getElem?_getD, List.getD_eq_getElem?_getD, List.getElem?_take, if_pos hi]

/-- The bound on lengths, laid by program. -/
theorem bytes2_yes (a : Option Addr) (n cap : Nat) (s1 s2 : ByteArray) (w : World) (h : n + s1.size + s2.size ≤ 1048576) :
    Calls Try.prog 11 #[.slice a n cap, .string s1, .string s2] w fun e w' => e = .returned (.bool true) ∧ w = w' := by
  have h1 : ¬ 1048576 < (n : Int) := by omega
  have h2 : ¬ 1048576 < (s1.size : Int) := by omega
  have h3 : ¬ 1048576 < (n : Int) + (s1.size : Int) := by omega
  have h4 : ¬ 1048576 < (s2.size : Int) := by omega
  have h5 : ¬ 1048576 < (n : Int) + (s1.size : Int) + (s2.size : Int) := by omega
  go_enter Try.func11, Try.ntmps11
  go_wp2
  go_ret
  exact ⟨rfl, rfl⟩
theorem bytes2_no (a : Option Addr) (n cap : Nat) (s1 s2 : ByteArray) (w : World) (hn : n ≤ 9223372036854775807) (hs1 : s1.size ≤ 9223372036854775807) (hs2 : s2.size ≤ 9223372036854775807) (h : ¬ n + s1.size + s2.size ≤ 1048576) :
    Calls Try.prog 11 #[.slice a n cap, .string s1, .string s2] w fun e w' => e = .returned (.bool false) ∧ w = w' := by
  by_cases h1 : 1048576 < (n : Int)
  · go_enter Try.func11, Try.ntmps11
    go_wp2
    go_ret
    exact ⟨rfl, rfl⟩
  by_cases h2 : 1048576 < (s1.size : Int)
  · go_enter Try.func11, Try.ntmps11
    go_wp2
    go_ret
    exact ⟨rfl, rfl⟩
  by_cases h3 : 1048576 < (n : Int) + (s1.size : Int)
  · go_enter Try.func11, Try.ntmps11
    go_wp2
    go_ret
    exact ⟨rfl, rfl⟩
  by_cases h4 : 1048576 < (s2.size : Int)
  · go_enter Try.func11, Try.ntmps11
    go_wp2
    go_ret
    exact ⟨rfl, rfl⟩
  have h5 : 1048576 < (n : Int) + (s1.size : Int) + (s2.size : Int) := by omega
  go_enter Try.func11, Try.ntmps11
  go_wp2
  go_ret
  exact ⟨rfl, rfl⟩

/-- Two steps, the second below a number that is no smaller. -/
theorem chain {B B' : Nat} {w w1 w2 : World} (h : Below B w w1) (h' : Below B' w1 w2) (hB : B ≤ B') : Below B w w2 := h.trans (h'.mono hB)

set_option maxHeartbeats 4000000 in
theorem splits_in (a0 : Option Addr) (n0 c0 : Nat) (l : List Int) (s1 s2 : ByteArray) (w : World) (hS : Sl w a0 n0 c0 l) (hn : n0 + s1.size + s2.size ≤ 1048576) :
    Calls Try.prog 4 #[.slice a0 n0 c0, .string s1, .string s2] w fun e w' => e = .returned (.bool true) ∧ Below w.heap.size w w' := by
  have h1 : ¬ 1048576 < (n0 : Int) := by omega
  have h2 : ¬ 1048576 < (s1.size : Int) := by omega
  have h3 : ¬ 1048576 < (s2.size : Int) := by omega
  have h4 : ¬ 1048576 < (n0 : Int) + (s1.size : Int) + (s2.size : Int) := by omega
  obtain ⟨i0, hi, hz0, hz1, hz2⟩ := info_parts info5
  obtain ⟨PA, hPA⟩ : ∃ PA, Hid (PA = esc (bs s1)) := ⟨_, rfl⟩
  obtain ⟨PB, hPB⟩ : ∃ PB, Hid (PB = esc (bs s2)) := ⟨_, rfl⟩
  have hla : PA.length ≤ 6291456 := by have := (esc_len (bs s1)).2; rw [bs_length] at this; rw [hPA.out]; omega
  have hlb : PB.length ≤ 6291456 := by have := (esc_len (bs s2)).2; rw [bs_length] at this; rw [hPB.out]; omega
  obtain ⟨W, hW⟩ : ∃ W, Hid (W = l ++ PA ++ PB) := ⟨_, rfl⟩
  obtain ⟨X, hX⟩ : ∃ X, Hid (X = l ++ PA) := ⟨_, rfl⟩
  have eW : Hid (l ++ esc (bs (s1 ++ s2)) = W) := by show _ = _; rw [bs_append, esc_append, ← hPA.out, ← hPB.out, hW.out, List.append_assoc]
  have hXl : X.length ≤ 7340032 := by rw [hX.out, List.length_append]; have := hS.1; omega
  have hfin : Hid (((bs s1).all plain == decide (PA = bs s1)) = true) := by show _ = _; rw [hPA.out, esc_same]; simp
  have hl0 : l.length ≤ 1048576 := by have := hS.1; omega
  have q1 : s1.size ≤ 1073741824 := by omega
  have q2 : s2.size ≤ 1073741824 := by omega
  have q3 : (s1 ++ s2).size ≤ 1073741824 := by rw [ByteArray.size_append]; omega
  go_enter Try.func4, Try.ntmps4
  go_wp2_with (first
    | (go_at_call_of 7 v11; refine (zz_any w9.heap.size v11 X s2 w11 ho11 q2 (by omega)).mono ?_; rintro e w12 ⟨v12, rfl, ho12, hb12⟩; rw [← hPB.out, hX.out, ← hW.out] at ho12; have p12 := hb10.trans (hb11.trans hb12); have hp12 := hp9.below p12; have hw12 := hw9.below p12; have hh12 := hh9.below p12; have k12 := chain k9 p12 k9.size; obtain ⟨at', ct, rfl, ht12⟩ := ho12.form; clear hb12 ho12 ho11 hb11 hb10)
    | (go_at_call_of 7 v10; refine (zz_any w9.heap.size v10 l s1 w10 ho10 q1 (by omega)).mono ?_; rintro e w11 ⟨v11, rfl, ho11, hb11⟩; rw [← hPA.out, ← hX.out] at ho11; clear ho10)
    | (go_at_call_of 7 v8; refine (zz_any w7.heap.size v8 l (s1 ++ s2) w8 ho8 q3 (by omega)).mono ?_; rintro e w9 ⟨v9, rfl, ho9, hb9⟩; rw [eW.out] at ho9; have n9 := hb8.trans hb9; have hd9 := hd7.below n9; have hp9 := hp7.below n9; have hw9 := hw7.below n9; have k9 := chain k7 n9 k7.size; obtain ⟨ah, ch, rfl, hh9⟩ := ho9.form; clear hb9 ho9 ho8 hb8)
    | (go_at_call_of 7 s1; refine (zz_any w1.heap.size _ [] s1 _ (Own.nil _) q1 (by simp)).mono ?_; rintro e w2 ⟨v2, rfl, ho2, hb2⟩; rw [List.nil_append, ← hPA.out] at ho2; obtain ⟨ap, cp, rfl, hp2⟩ := ho2.form; have hd2 := hd1.below hb2; have k2 := chain hb1 hb2 hb1.size; clear ho2)
    | (go_at_call_of 7 s2; refine (zz_any w2.heap.size _ [] s2 _ (Own.nil _) q2 (by simp)).mono ?_; rintro e w3 ⟨v3, rfl, ho3, hb3⟩; rw [List.nil_append, ← hPB.out] at ho3; obtain ⟨aq, cq, rfl, hq3⟩ := ho3.form; have hd3 := hd2.below hb3; have hp3 := hp2.below hb3; have k3 := chain k2 hb3 k2.size; clear ho3)
    | (go_at_call 11; refine (bytes2_yes _ _ _ _ _ _ hn).mono ?_; rintro e w' ⟨rfl, rfl⟩)
    | (go_at_call_of 6 a0; refine (clone_any a0 n0 c0 l _ hS (by omega)).mono ?_; rintro e w1 ⟨v1, rfl, ho1, hb1⟩; obtain ⟨ad, cd, rfl, hd1⟩ := ho1.form; clear ho1)
    | (go_at_call 6; have g9 := hd9; clear g9; refine (clone_any ad l.length cd l w9 hd9 (by omega)).mono ?_; rintro e w10 ⟨v10, rfl, ho10, hb10⟩)
    | (go_at_call 6; have g7 := hd7; clear g7; refine (clone_any ad l.length cd l w7 hd7 (by omega)).mono ?_; rintro e w8 ⟨v8, rfl, ho8, hb8⟩)
    | (at_make; refine wpList_make_own _ rfl _ _ 22 rfl w3.heap.size 5 i0 (.int .u8 0) 1 Try.underlying22 hi hz0 hz1 .i64 .i64 _ (l.length + PA.length + PB.length) rfl rfl ?_ ?_ ?_ (Nat.le_refl _) ?_; (· omega); (· rw [hz2]; omega); (· unfold maxLen; omega); intro w4 hown4 hgrow4; have ho4 : Own w3.heap.size _ [] w4 := ⟨hown4, hgrow4.size⟩; have m4 : Below w3.heap.size w3 w4 := (Below.refl _ _).grown hgrow4 (Nat.le_refl _) (fun k hk => by cases hk); have hd4 := hd3.below m4; clear hown4 hgrow4)
    | (at_builtin; refine law_sl rfl (.tmp 57) (.tmp 58) rfl w3.heap.size _ [] rfl ho4 _ _ _ l rfl hd4 ?_ ?_; (· simp; omega); intro v5 w5 ho5 hb5; rw [List.nil_append] at ho5; have m5 := m4.trans hb5; have hp5 := hp3.below m5; clear hb5 ho4 hd4)
    | (at_builtin; refine law_sl rfl (.tmp 60) (.tmp 61) rfl w3.heap.size _ l rfl ho5 _ _ _ PA rfl hp5 ?_ ?_; (· omega); intro v6 w6 ho6 hb6; rw [← hX.out] at ho6; have m6 := m5.trans hb6; have hq6 := hq3.below m6; clear hb6 ho5 hp5)
    | (at_builtin; refine law_sl rfl (.tmp 63) (.tmp 64) rfl w3.heap.size _ X rfl ho6 _ _ _ PB rfl hq6 ?_ ?_; (· omega); intro v7 w7 ho7 hb7; rw [hX.out, ← hW.out] at ho7; have m7 := m6.trans hb7; have hd7 := hd3.below m7; have hp7 := hp3.below m7; have k7 := chain k3 m7 k3.size; obtain ⟨aw, cw, rfl, hw7⟩ := ho7.form; clear hb7 ho6 hq6 ho7)
    | (go_at_call_of 12 at'; refine (eq_same at' aw W.length ct cw W _ ?_ ?_).mono ?_; (· exact ht12.below (below_drewN (Below.refl _ _) _)); (· exact hw12.below (below_drewN (Below.refl _ _) _)); rintro e w13 ⟨rfl, qb, rfl⟩)
    | (go_at_call_of 12 ah; refine (eq_same ah aw W.length ch cw W w12 hh12 hw12).mono ?_; rintro e w13 ⟨rfl, qa, rfl⟩)
    | (go_at_call 13; refine (noesc_any s1 _ q1).mono ?_; rintro e w14 ⟨rfl, rfl⟩)
    | (go_at_call 9; refine (eqs_any ap PA.length cp PA s1 _ ?_ q1).mono ?_; (· exact hp12.below (below_drewN (Below.refl _ _) _)); rintro e w15 ⟨rfl, qc, rfl⟩))
  go_ret
  exact ⟨ret_bool hfin.out, by first | exact below_drewN k12 _ | exact below_drewN (below_drewN k12 _) _ | exact below_drewN (below_drewN (below_drewN k12 _) _) _⟩

theorem splits_out (a0 : Option Addr) (n0 c0 : Nat) (s1 s2 : ByteArray) (w : World) (hn : n0 ≤ 9223372036854775807) (hs1 : s1.size ≤ 9223372036854775807) (hs2 : s2.size ≤ 9223372036854775807) (h : ¬ n0 + s1.size + s2.size ≤ 1048576) :
    Calls Try.prog 4 #[.slice a0 n0 c0, .string s1, .string s2] w fun e w' => e = .returned (.bool true) ∧ Below w.heap.size w w' := by
  go_enter Try.func4, Try.ntmps4
  go_wp2_with (go_at_call 11; refine (bytes2_no _ _ _ _ _ _ hn hs1 hs2 h).mono ?_; rintro e w' ⟨rfl, rfl⟩)
  go_ret
  exact ⟨rfl, Below.refl _ _⟩

theorem splits_any (a0 : Option Addr) (len0 cap0 : Nat) (z0 : List Int) (a1 : ByteArray) (a2 : ByteArray) (w : World) (w0 : IsRow .u8 w a0 len0 cap0 z0) (w1 : a1.size ≤ maxLen) (w2 : a2.size ≤ maxLen) :
    Calls Try.prog 4 #[.slice a0 len0 cap0, .string a1, .string a2] w fun e w' => e = .returned (.bool true) ∧ Below w.heap.size w w' := by
  have hS := sl_of_row w0
  unfold maxLen at w1 w2
  have h3 := hS.2.2.1
  have h2 := hS.2.1
  unfold maxLen at h3
  by_cases h : len0 + a1.size + a2.size ≤ 1048576
  · exact splits_in a0 len0 cap0 _ a1 a2 w hS h
  · exact splits_out a0 len0 cap0 a1 a2 w (by omega) (by omega) (by omega) h
end Go.Proofs.Qxb6631319a
