/-
  SLICES OF BYTES: 'Own': a slice that the call owns, with its content as whole numbers; 'Sl': a slice that is read. The laws of append, copy and make over them.
-/
import Derived.Test.Qxb6631319aRows
import Derived.Test.Qxb6631319aPlain
import Derived.WalkKit
import Derived.Lib.AppendStr
import Derived.Laws.AppendOwnNone
import Derived.Laws.CopyOwn
import Derived.Deep.Draws
namespace Go.Proofs.Qxb6631319a
open Go.RowKit Js
set_option linter.unusedVariables false

theorem info5 : (Try.prog.info? 5).map (fun i => (i.zero, i.size, i.bytes)) = some (some (.int .u8 0), 1, 1) := by kernel_rfl

/-- Bytes as cells. -/
def cells (l : List Int) : List Value := l.map (Value.int .u8)
theorem cells_length (l : List Int) : (cells l).length = l.length := by simp [cells]
theorem cells_append (l m : List Int) : cells (l ++ m) = cells l ++ cells m := by simp [cells]
theorem cells_one (l : List Int) : ∀ u ∈ cells l, u.oneCell' = true := by
  intro u hu; simp only [cells, List.mem_map] at hu; obtain ⟨c, _, rfl⟩ := hu; rfl
theorem cells_str (s : ByteArray) : Lib.strCells s = cells (bs s) := by unfold Lib.strCells cells bs; rw [List.map_map]; rfl
theorem cells_get (l : List Int) (j : Nat) (u : Value) (h : (cells l)[j]? = some u) : j < l.length ∧ u = .int .u8 (l.getD j 0) := by
  have hj : j < l.length := by rw [← cells_length l]; exact (List.getElem?_eq_some_iff.1 h).1
  refine ⟨hj, ?_⟩
  simp only [cells, List.getElem?_map, List.getElem?_eq_getElem hj, Option.map_some, Option.some.injEq] at h
  rw [← h, List.getD_eq_getElem?_getD, List.getElem?_eq_getElem hj]; rfl

/-- The slice v owns the bytes l, in a block from B on (or is nil). -/
def Own (B : Nat) (v : Value) (l : List Int) (w : World) : Prop := w.ownsRow B 5 1 v l.length (cells l) ∧ B ≤ w.heap.size

theorem Own.nil (w : World) : Own w.heap.size (.slice none 0 0) [] w := ⟨World.ownsRow_nil _ _ _ _, Nat.le_refl _⟩
theorem Own.below {B : Nat} {v : Value} {l : List Int} {w w' : World} (h : Own B v l w) (hb : Below w.heap.size w w') : Own B v l w' := by
  refine ⟨⟨h.1.1, ?_⟩, Nat.le_trans h.2 hb.size⟩
  rcases h.1.2 with hn | ⟨g, cap, cur, rfl, hB, hg, rest⟩
  · exact .inl hn
  · refine .inr ⟨g, cap, cur, rfl, hB, ?_, rest⟩
    rw [hb.block g (Array.getElem?_eq_some_iff.1 hg).1]; exact hg
theorem Own.alloc {B : Nat} {v : Value} {l : List Int} {w : World} (h : Own B v l w) (o : Obj) : Own B v l (w.alloc o) :=
  h.below ((Below.refl _ _).alloc (Nat.le_refl _) o)
theorem Own.drew {B : Nat} {v : Value} {l : List Int} {w : World} (h : Own B v l w) : Own B v l w.drew :=
  h.below (Below.refl _ _).drew
theorem Own.mono {B B' : Nat} {v : Value} {l : List Int} {w : World} (h : Own B v l w) (hB : B' ≤ B) : Own B' v l w := by
  refine ⟨⟨h.1.1, ?_⟩, Nat.le_trans hB h.2⟩
  rcases h.1.2 with hn | ⟨g, cap, cur, rfl, hg, rest⟩
  · exact .inl hn
  · exact .inr ⟨g, cap, cur, rfl, Nat.le_trans hB hg, rest⟩

/-- The slice (a, n, cap) reads as the bytes l. -/
def Sl (w : World) (a : Option Addr) (n cap : Nat) (l : List Int) : Prop :=
  l.length = n ∧ n ≤ cap ∧ cap ≤ maxLen ∧ (a = none → cap = 0) ∧ (0 < n → ∃ b off, a = some ⟨b, off, none⟩ ∧ ∀ i, i < n → w.cell? ⟨b, off + i, none⟩ = some (.int .u8 (l.getD i 0)))

theorem Sl.below {w w' : World} {a : Option Addr} {n cap : Nat} {l : List Int} (h : Sl w a n cap l) (hb : Below w.heap.size w w') : Sl w' a n cap l := by
  obtain ⟨h1, h2, h3, h4, h5⟩ := h
  refine ⟨h1, h2, h3, h4, fun hn => ?_⟩
  obtain ⟨b, off, ha, hc⟩ := h5 hn
  refine ⟨b, off, ha, fun i hi => ?_⟩
  have := World.block_lt_of_cell? w _ (hc i hi)
  rw [hb.cell this]; exact hc i hi

/-- An owned slice's shape. -/
theorem Own.form {B : Nat} {v : Value} {l : List Int} {w : World} (h : Own B v l w) : ∃ a cap, v = .slice a l.length cap ∧ Sl w a l.length cap l := by
  rcases h.1.2 with ⟨rfl, hn⟩ | ⟨g, cap, cur, rfl, hB, hg, hnc, hcm, hcs, ht⟩
  · refine ⟨none, 0, by rw [hn], rfl, by omega, by unfold maxLen; omega, fun _ => rfl, fun h0 => by omega⟩
  · refine ⟨_, cap, rfl, rfl, hnc, hcm, fun h0 => (by cases h0), fun _ => ⟨g, 0, rfl, fun i hi => ?_⟩⟩
    have hcell := h.1.cells (g := g) rfl i (.int .u8 (l.getD i 0)) (by
      rw [cells, List.getElem?_map, List.getElem?_eq_getElem hi, List.getD_eq_getElem?_getD, List.getElem?_eq_getElem hi]; rfl)
    have hadd : (⟨g, 0, none⟩ : Addr).add i = ⟨g, 0 + i, none⟩ := by unfold Addr.add; split <;> simp_all
    rw [← hadd]; exact hcell

section
variable {ops : Array Oper} {rest : List Oper} {o : Oper} {a : Act} {Q : Exit → Act → World → Prop} {w : World}

theorem own_grown {B : Nat} {v v' : Value} {xs ys : List Int} {w w' : World} (h : Own B v xs w) (ho : w'.ownsRow B 5 1 v' ys.length (cells ys)) (hg : w.grownBy w' v.ownBlock) : Own B v' ys w' ∧ Below B w w' :=
  ⟨⟨ho, Nat.le_trans h.2 hg.size⟩, (Below.refl B w).grown hg h.2 (fun k hk => (h.1.lt k hk).1)⟩

/-- 'append(v, s...)', s a string. -/
theorem law_str (hgd : o.guard = none) (sl x : Operand) (ho : o.op = .call { callee := .builtin .append, args := #[sl, x], argTypes := #[22, 9] })
    (B : Nat) (v : Value) (xs : List Int) (hs : a.eval sl = v) (hown : Own B v xs w) (s : ByteArray) (hx : a.eval x = .string s) (hlen : xs.length + s.size ≤ 140737488355328)
    (h : ∀ v' w', Own B v' (xs ++ bs s) w' → Below B w w' → wpList Try.prog ops Q rest (a.put o.dst v') w') : wpList Try.prog ops Q (o :: rest) a w := by
  obtain ⟨i0, hi, hz0, hz1, hz2⟩ := info_parts info5
  refine Lib.wpList_append_own_string w hgd sl x 22 9 ho B 5 i0 Try.underlying22 Try.underlying9 hi hz0 hz1 hz2 v xs.length (cells xs) hs hown.1 s hx (by unfold maxLen; omega) hlen hown.2 ?_
  intro v' w' h1 h2 _
  have h1' : w'.ownsRow B 5 1 v' (xs ++ bs s).length (cells (xs ++ bs s)) := by
    rw [List.length_append, bs_length, cells_append, ← cells_str]; exact h1
  obtain ⟨r1, r2⟩ := own_grown hown h1' h2
  exact h v' w' r1 r2

/-- 'append(v, x...)', x a slice that reads as l (nil among them). -/
theorem law_sl (hgd : o.guard = none) (sl x : Operand) (ho : o.op = .call { callee := .builtin .append, args := #[sl, x], argTypes := #[22, 22] })
    (B : Nat) (v : Value) (xs : List Int) (hs : a.eval sl = v) (hown : Own B v xs w) (ao : Option Addr) (m c : Nat) (l : List Int) (hx : a.eval x = .slice ao m c) (hl : Sl w ao m c l) (hlen : xs.length + l.length ≤ 140737488355328)
    (h : ∀ v' w', Own B v' (xs ++ l) w' → Below B w w' → wpList Try.prog ops Q rest (a.put o.dst v') w') : wpList Try.prog ops Q (o :: rest) a w := by
  obtain ⟨i0, hi, hz0, hz1, hz2⟩ := info_parts info5
  obtain ⟨l1, l2, l3, l4, l5⟩ := hl
  cases ao with
  | none =>
    have hc : c = 0 := l4 rfl
    subst hc
    have hm : m = 0 := by omega
    subst hm
    have hl0 : l = [] := List.eq_nil_of_length_eq_zero l1
    subst hl0
    refine wpList_append_own_none hgd sl x 22 ho B 5 i0 1 Try.underlying22 hi v xs.length (cells xs) hs hown.1 hx ?_
    exact h v w (by rw [List.append_nil]; exact hown) (Below.refl _ _)
  | some ad =>
    refine wpList_append_own w hgd sl x 22 ho B 5 i0 (.int .u8 0) 1 1 Try.underlying22 hi hz0 hz1 hz2 rfl (by decide) v xs.length (cells xs) hs hown.1 ad m c (cells l) hx (by rw [cells_length]; omega) ?_ (cells_one l) (by unfold maxLen; omega) (by omega) hown.2 ?_
    · intro j u hj
      obtain ⟨hj', rfl⟩ := cells_get l j u hj
      obtain ⟨b, off, he, hcell⟩ := l5 (by omega)
      simp only [Option.some.injEq] at he
      subst he
      have hadd : (⟨b, off, none⟩ : Addr).add j = ⟨b, off + j, none⟩ := by unfold Addr.add; split <;> simp_all
      rw [hadd]; exact hcell j (by omega)
    · intro v' w' h1 h2 _
      have h1' : w'.ownsRow B 5 1 v' (xs ++ l).length (cells (xs ++ l)) := by
        rw [List.length_append, cells_append, l1]; exact h1
      obtain ⟨r1, r2⟩ := own_grown hown h1' h2
      exact h v' w' r1 r2

/-- 'append(v, b0, b1, ..)': the bytes lie in the block that the statement has just laid. -/
theorem law_new (hgd : o.guard = none) (sl x : Operand) (ho : o.op = .call { callee := .builtin .append, args := #[sl, x], argTypes := #[22, 22] })
    (B : Nat) (v : Value) (xs : List Int) (hs : a.eval sl = v) (w0 : World) (hown : Own B v xs w0) (l : List Int) (m : Nat) (hm : l.length = m) (hx : a.eval x = .slice (some ⟨w0.heap.size, 0, none⟩) m m) (hW : w = w0.alloc (.cells (cells l).toArray 5)) (hlen : xs.length + l.length ≤ 140737488355328)
    (h : ∀ v' w', Own B v' (xs ++ l) w' → Below B w0 w' → wpList Try.prog ops Q rest (a.put o.dst v') w') : wpList Try.prog ops Q (o :: rest) a w := by
  subst hm
  subst hW
  refine law_sl hgd sl x ho B v xs hs (hown.alloc _) _ _ _ l hx ⟨rfl, Nat.le_refl _, by unfold maxLen; omega, fun h0 => (by cases h0), fun _ => ⟨_, _, rfl, fun i hi => ?_⟩⟩ hlen ?_
  · rw [cell_of_row _ w0.heap.size (0 + i) (cells l).toArray 5 (0, 0) (heap_alloc_new _ _)]
    simp only [cells, Nat.zero_add]
    simp [List.getElem?_eq_getElem hi, List.getD_eq_getElem?_getD]
  · intro v' w' h1 h2
    exact h v' w' h1 (((Below.refl B w0).alloc hown.2 _).trans h2)

/-- The same at a step of a region that draws its order: the bytes lie in a block that is known whole. -/
theorem law_step {K : Act → World → Prop} {E : Prop} (hgd : o.guard = none) (sl x : Operand) (ho : o.op = .call { callee := .builtin .append, args := #[sl, x], argTypes := #[22, 22] })
    (B : Nat) (v : Value) (xs : List Int) (hs : a.eval sl = v) (hown : Own B v xs w) (l : List Int) (m g : Nat) (hm : l.length = m) (hx : a.eval x = .slice (some ⟨g, 0, none⟩) m m)
    (hg : w.heap[g]? = some (.cells (cells l).toArray 5 (0, 0))) (hlen : xs.length + l.length ≤ 140737488355328)
    (h : ∀ v' w', Own B v' (xs ++ l) w' → Below B w w' → K (a.put o.dst v') w') : if Region.wanted o (yielded ops a.tmps) = true then Oper.wp Try.prog o a w K Q else E := by
  have hw : Region.wanted o (yielded ops a.tmps) = true := by simp [Region.wanted, hgd]
  rw [if_pos hw]
  subst hm
  obtain ⟨i0, hi, hz0, hz1, hz2⟩ := info_parts info5
  refine wp_append_own w sl x 22 ho B 5 i0 (.int .u8 0) 1 1 Try.underlying22 hi hz0 hz1 hz2 rfl (by decide) v xs.length (cells xs) hs hown.1 ⟨g, 0, none⟩ _ _ (cells l) hx (by rw [cells_length]; omega) ?_ (cells_one l) (by unfold maxLen; omega) (by omega) hown.2 ?_
  · intro j u hj
    have hadd : (⟨g, 0, none⟩ : Addr).add j = ⟨g, j, none⟩ := by unfold Addr.add; split <;> simp_all
    rw [hadd, cell_of_row w g j _ 5 (0, 0) hg]
    simpa using hj
  · intro v' w' h1 h2 _
    have h1' : w'.ownsRow B 5 1 v' (xs ++ l).length (cells (xs ++ l)) := by
      rw [List.length_append, cells_append]; exact h1
    obtain ⟨r1, r2⟩ := own_grown hown h1' h2
    exact h v' w' r1 r2
end
end Go.Proofs.Qxb6631319a
