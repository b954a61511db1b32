/-
  THE WALKS OF THE SMALL FUNCTIONS: ZZappendJSONText, zzB1Clone, zzB1Eq, zzB1EqStr, zzB1NoEscape.
-/
import Derived.Test.Qxb6631319aAppend
import Derived.WalkSpells
import Derived.WalkLawsBesides
import Derived.Deep.QuietTactic
import Derived.BigQuiet
namespace Go.Proofs.Qxb6631319a
open Go.RowKit Js
set_option linter.unusedVariables false

theorem zz_any (B : Nat) (v : Value) (xs : List Int) (s : ByteArray) (w : World) (hown : Own B v xs w) (hs : s.size ≤ 1073741824) (hx : xs.length ≤ 1099511627776) :
    Calls Try.prog 7 #[v, .string s] w fun e w' => ∃ v', e = .returned v' ∧ Own B v' (xs ++ esc (bs s)) w' ∧ Below B w w' := by
  go_enter Try.func7, Try.ntmps7
  go_wp2_with (go_at_call 14; refine (append_any B v xs s _ hown hs hx).mono ?_; rintro e w' ⟨v', rfl, ho, hb⟩)
  go_ret
  exact ⟨_, rfl, ho, hb⟩

theorem sl_src {w : World} {ad : Addr} {n cap : Nat} {l : List Int} (h : Sl w (some ad) n cap l) : ∀ j v, (cells l)[j]? = some v → w.cell? (ad.add j) = some v := by
  intro j u hj
  obtain ⟨hj', rfl⟩ := cells_get l j u hj
  obtain ⟨b, off, he, hcell⟩ := h.2.2.2.2 (by have := h.1; omega)
  simp only [Option.some.injEq] at he
  subst he
  have hadd : (⟨b, off, none⟩ : Addr).add j = ⟨b, off + j, none⟩ := by unfold Addr.add; split <;> simp_all
  rw [hadd]; exact hcell j (by have := h.1; omega)
/-- A guard: the goal stands at a call of the builtin copy. -/
theorem at_copy {P : Program} {ops : Array Oper} {rest : List Oper} {d : Option Nat} {x : Array Operand} {y : Array TypeId} {t : TypeId} {p : String} {af : Array Edge} {g : Option (Nat × Bool)} {a : Act} {w : World} {Q : Exit → Act → World → Prop}
    (h : wpList P ops Q ({ dst := d, op := .call { callee := .builtin .copy, args := x, argTypes := y }, type := t, pos := p, after := af, guard := g } :: rest) a w) : wpList P ops Q ({ dst := d, op := .call { callee := .builtin .copy, args := x, argTypes := y }, type := t, pos := p, after := af, guard := g } :: rest) a w := h
theorem made_cur {w : World} {B g n : Nat} {xs : List Value} (h : w.ownsRow B 5 1 (.slice (some ⟨g, 0, none⟩) n n) n xs) : ∃ cur : List Value, w.heap[g]? = some (.cells cur.toArray 5 (0, 0)) ∧ cur.length = n := by
  rcases h.2 with ⟨h0, _⟩ | ⟨g', cap, cur, hv, _, hg, _, _, hs, _⟩
  · cases h0
  · simp only [Value.slice.injEq, Option.some.injEq, Addr.mk.injEq] at hv
    obtain ⟨⟨rfl, _⟩, _, rfl⟩ := hv
    exact ⟨cur.toList, by simpa using hg, by simpa using hs⟩
theorem clone_own {w w2 : World} {g n : Nat} {l : List Int} {cur : List Value} (hg : w.heap.size = g) (hl : l.length = n) (hc : cur.length = n) (hn : n ≤ maxLen) (hb : Below g w w2)
    (h : w2.heap[g]? = some (.cells (splice cur 0 (cells l)).toArray 5 (0, 0))) : Own w.heap.size (.slice (some ⟨g, 0, none⟩) n n) l w2 := by
  have he : splice cur 0 (cells l) = cells l := by
    unfold splice
    rw [List.take_zero, List.nil_append, List.drop_of_length_le (by rw [cells_length]; omega), List.append_nil]
  rw [he] at h
  subst hl
  refine ⟨⟨by rw [cells_length]; omega, .inr ⟨g, _, _, rfl, by omega, h, Nat.le_refl _, hn, by simp [cells_length], ?_⟩⟩, hb.size⟩
  rw [List.toList_toArray, List.take_of_length_le (by rw [cells_length]; omega)]

/-- zzB1Clone. -/
theorem clone_any (a : Option Addr) (n cap : Nat) (l : List Int) (w : World) (h : Sl w a n cap l) (hn : n ≤ 1099511627776) :
    Calls Try.prog 6 #[.slice a n cap] w fun e w' => ∃ v', e = .returned v' ∧ Own w.heap.size v' l w' ∧ Below w.heap.size w w' := by
  have hsl := h
  obtain ⟨l1, l2, l3, l4, l5⟩ := h
  obtain ⟨i0, hi, hz0, hz1, hz2⟩ := info_parts info5
  have hsz : (Try.prog.info? 5).map (·.size) = some 1 := by rw [hi]; simp [hz1]
  cases a with
  | none =>
    have hc : cap = 0 := l4 rfl
    subst hc
    have hm : n = 0 := by omega
    subst hm
    have hl0 : l = [] := List.eq_nil_of_length_eq_zero l1
    subst hl0
    have hnil := fun (w : World) => Lib.run_eql_slice_nil (P := Try.prog) w 22 5 none 0 0 0 0 Try.underlying22
    go_enter Try.func6, Try.ntmps6
    go_wp2
    go_ret
    exact ⟨_, rfl, Own.nil w, Below.refl _ _⟩
  | some ad =>
    have hnil := fun (w : World) => Lib.run_eql_slice_nil (P := Try.prog) w 22 5 (some ad) n cap 0 0 Try.underlying22
    clear l4 l5
    have hM : n ≤ maxLen := by unfold maxLen; omega
    go_enter Try.func6, Try.ntmps6
    go_wp2_with (first
      | (at_make; refine wpList_make_full _ rfl (.tmp 7) (.tmp 7) 22 rfl w.heap.size 5 i0 (.int .u8 0) 1 Try.underlying22 hi hz0 hz1 .i64 .i64 _ _ n rfl rfl rfl rfl ?_ hM ?_ ?_; (· rw [hz2]; omega); (· exact Nat.le_refl _); intro w1 hown1 hgrow1; obtain ⟨cur, hcur, hcl⟩ := made_cur hown1; have HC : Hid (w1.heap[w.heap.size]? = some (.cells cur.toArray 5 (0, 0))) := hcur; have hb1 : Below w.heap.size w w1 := (Below.refl _ _).grown hgrow1 (Nat.le_refl _) (fun k hk => by cases hk); clear hown1 hgrow1 hcur)
      | (with_reducible refine at_copy ?_; refine wpList_copy_splice rfl (.tmp 9) (.tmp 10) 22 22 rfl 5 Try.underlying22 hsz _ _ _ _ _ _ rfl rfl w.heap.size 0 cur 5 HC.out (cells l) ?_ ?_ ?_ (cells_one l) w.heap.size w hb1 (Nat.le_refl _) ?_; (· rw [cells_length, l1]; exact (Nat.min_self n).symm); (· intro h0; exact ⟨rfl, ad, rfl, sl_src (hsl.below hb1)⟩); (· rw [cells_length]; omega); intro w2 HG hb2))
    go_ret
    exact ⟨_, rfl, clone_own rfl l1 hcl hM hb2 HG.out, hb2⟩
end Go.Proofs.Qxb6631319a
