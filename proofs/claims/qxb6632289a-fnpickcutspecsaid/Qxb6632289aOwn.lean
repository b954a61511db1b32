/-
  SLICES OF STRINGS: 'Own': a slice that the call owns; 'Sl': a slice that is read. The laws of append, copy and make over them.
-/
import Derived.Test.Qxb6632289aRows
import Derived.Test.Qxb6632289aPlain
import Derived.WalkKit
import Derived.Laws.AppendOwnNone
import Derived.Laws.CopyOwn
import Derived.Deep.Draws
namespace Go.Proofs.Qxb6632289a
open Go.RowKit Pk
set_option linter.unusedVariables false

theorem info9 : (Try.prog.info? 9).map (fun i => (i.zero, i.size, i.bytes)) = some (some (.string ByteArray.empty), 1, 16) := by kernel_rfl

def cells (l : List ByteArray) : List Value := l.map Value.string
theorem cells_length (l : List ByteArray) : (cells l).length = l.length := by simp [cells]
theorem cells_append (l m : List ByteArray) : cells (l ++ m) = cells l ++ cells m := by simp [cells]
theorem cells_one (l : List ByteArray) : ∀ u ∈ cells l, u.oneCell' = true := by
  intro u hu; simp only [cells, List.mem_map] at hu; obtain ⟨c, _, rfl⟩ := hu; rfl
theorem cells_get (l : List ByteArray) (j : Nat) (u : Value) (h : (cells l)[j]? = some u) : j < l.length ∧ u = .string (el l j) := by
  have hj : j < l.length := by rw [← cells_length l]; exact (List.getElem?_eq_some_iff.1 h).1
  refine ⟨hj, ?_⟩
  simp only [cells, List.getElem?_map, List.getElem?_eq_getElem hj, Option.map_some, Option.some.injEq] at h
  unfold el
  rw [← h, List.getD_eq_getElem?_getD, List.getElem?_eq_getElem hj]; rfl

def Own (B : Nat) (v : Value) (l : List ByteArray) (w : World) : Prop := w.ownsRow B 9 1 v l.length (cells l) ∧ B ≤ w.heap.size

theorem Own.below {B : Nat} {v : Value} {l : List ByteArray} {w w' : World} (h : Own B v l w) (hb : Below w.heap.size w w') : Own B v l w' := by
  refine ⟨⟨h.1.1, ?_⟩, Nat.le_trans h.2 hb.size⟩
  rcases h.1.2 with hn | ⟨g, cap, cur, rfl, hB, hg, rest⟩
  · exact .inl hn
  · refine .inr ⟨g, cap, cur, rfl, hB, ?_, rest⟩
    rw [hb.block g (Array.getElem?_eq_some_iff.1 hg).1]; exact hg
theorem Own.alloc {B : Nat} {v : Value} {l : List ByteArray} {w : World} (h : Own B v l w) (o : Obj) : Own B v l (w.alloc o) :=
  h.below ((Below.refl _ _).alloc (Nat.le_refl _) o)

/-- The slice (a, n, cap) reads as the strings l. -/
def Sl (w : World) (a : Option Addr) (n cap : Nat) (l : List ByteArray) : Prop :=
  l.length = n ∧ n ≤ cap ∧ cap ≤ maxLen ∧ (a = none → cap = 0) ∧ (0 < n → ∃ b off, a = some ⟨b, off, none⟩ ∧ ∀ i, i < n → w.cell? ⟨b, off + i, none⟩ = some (.string (el l i)))

theorem Sl.below {w w' : World} {a : Option Addr} {n cap : Nat} {l : List ByteArray} (h : Sl w a n cap l) (hb : Below w.heap.size w w') : Sl w' a n cap l := by
  obtain ⟨h1, h2, h3, h4, h5⟩ := h
  refine ⟨h1, h2, h3, h4, fun hn => ?_⟩
  obtain ⟨b, off, ha, hc⟩ := h5 hn
  refine ⟨b, off, ha, fun i hi => ?_⟩
  have := World.block_lt_of_cell? w _ (hc i hi)
  rw [hb.cell this]; exact hc i hi

theorem Own.form {B : Nat} {v : Value} {l : List ByteArray} {w : World} (h : Own B v l w) : ∃ a cap, v = .slice a l.length cap ∧ Sl w a l.length cap l := by
  rcases h.1.2 with ⟨rfl, hn⟩ | ⟨g, cap, cur, rfl, hB, hg, hnc, hcm, hcs, ht⟩
  · refine ⟨none, 0, by rw [hn], rfl, by omega, by unfold maxLen; omega, fun _ => rfl, fun h0 => by omega⟩
  · refine ⟨_, cap, rfl, rfl, hnc, hcm, fun h0 => (by cases h0), fun _ => ⟨g, 0, rfl, fun i hi => ?_⟩⟩
    have hcell := h.1.cells (g := g) rfl i (.string (el l i)) (by
      unfold el
      rw [cells, List.getElem?_map, List.getElem?_eq_getElem hi, List.getD_eq_getElem?_getD, List.getElem?_eq_getElem hi]; rfl)
    have hadd : (⟨g, 0, none⟩ : Addr).add i = ⟨g, 0 + i, none⟩ := by unfold Addr.add; split <;> simp_all
    rw [← hadd]; exact hcell

theorem sl_src {w : World} {ad : Addr} {n cap : Nat} {l : List ByteArray} (h : Sl w (some ad) n cap l) : ∀ j v, (cells l)[j]? = some v → w.cell? (ad.add j) = some v := by
  intro j u hj
  obtain ⟨hj', rfl⟩ := cells_get l j u hj
  obtain ⟨b, off, he, hcell⟩ := h.2.2.2.2 (by have := h.1; omega)
  simp only [Option.some.injEq] at he
  subst he
  have hadd : (⟨b, off, none⟩ : Addr).add j = ⟨b, off + j, none⟩ := by unfold Addr.add; split <;> simp_all
  rw [hadd]; exact hcell j (by have := h.1; omega)

/-- A guard: the goal stands at a call of the builtin copy. -/
theorem at_copy {P : Program} {ops : Array Oper} {rest : List Oper} {d : Option Nat} {x : Array Operand} {y : Array TypeId} {t : TypeId} {p : String} {af : Array Edge} {g : Option (Nat × Bool)} {a : Act} {w : World} {Q : Exit → Act → World → Prop}
    (h : wpList P ops Q ({ dst := d, op := .call { callee := .builtin .copy, args := x, argTypes := y }, type := t, pos := p, after := af, guard := g } :: rest) a w) : wpList P ops Q ({ dst := d, op := .call { callee := .builtin .copy, args := x, argTypes := y }, type := t, pos := p, after := af, guard := g } :: rest) a w := h

theorem made_cur {w : World} {B g n : Nat} {xs : List Value} (h : w.ownsRow B 9 1 (.slice (some ⟨g, 0, none⟩) n n) n xs) : ∃ cur : List Value, w.heap[g]? = some (.cells cur.toArray 9 (0, 0)) ∧ cur.length = n := by
  rcases h.2 with ⟨h0, _⟩ | ⟨g', cap, cur, hv, _, hg, _, _, hs, _⟩
  · cases h0
  · simp only [Value.slice.injEq, Option.some.injEq, Addr.mk.injEq] at hv
    obtain ⟨⟨rfl, _⟩, _, rfl⟩ := hv
    exact ⟨cur.toList, by simpa using hg, by simpa using hs⟩
theorem clone_own {w w2 : World} {g n : Nat} {l : List ByteArray} {cur : List Value} (hg : w.heap.size = g) (hl : l.length = n) (hc : cur.length = n) (hn : n ≤ maxLen) (hb : Below g w w2)
    (h : w2.heap[g]? = some (.cells (splice cur 0 (cells l)).toArray 9 (0, 0))) : Own w.heap.size (.slice (some ⟨g, 0, none⟩) n n) l w2 := by
  have he : splice cur 0 (cells l) = cells l := by
    unfold splice
    rw [List.take_zero, List.nil_append, List.drop_of_length_le (by rw [cells_length]; omega), List.append_nil]
  rw [he] at h
  subst hl
  refine ⟨⟨by rw [cells_length]; omega, .inr ⟨g, _, _, rfl, by omega, h, Nat.le_refl _, hn, by simp [cells_length], ?_⟩⟩, hb.size⟩
  rw [List.toList_toArray, List.take_of_length_le (by rw [cells_length]; omega)]

section
variable {ops : Array Oper} {rest : List Oper} {o : Oper} {a : Act} {Q : Exit → Act → World → Prop} {w : World}
/-- 'append(v, x)': the string lies in the block that the statement has just laid. -/
theorem law_new (hgd : o.guard = none) (sl x : Operand) (ho : o.op = .call { callee := .builtin .append, args := #[sl, x], argTypes := #[22, 22] })
    (B : Nat) (v : Value) (xs : List ByteArray) (hs : a.eval sl = v) (w0 : World) (hown : Own B v xs w0) (y : ByteArray) (hx : a.eval x = .slice (some ⟨w0.heap.size, 0, none⟩) 1 1) (hW : w = w0.alloc (.cells #[.string y] 9)) (hlen : xs.length ≤ 1048576)
    (h : ∀ v' w', Own B v' (xs ++ [y]) w' → Below B w0 w' → wpList Try.prog ops Q rest (a.put o.dst v') w') : wpList Try.prog ops Q (o :: rest) a w := by
  subst hW
  obtain ⟨i0, hi, hz0, hz1, hz2⟩ := info_parts info9
  have hown' := hown.alloc (.cells #[.string y] 9)
  refine wpList_append_own _ hgd sl x 22 ho B 9 i0 (.string ByteArray.empty) 1 16 Try.underlying22 hi hz0 hz1 hz2 rfl (by decide) v xs.length (cells xs) hs hown'.1 ⟨w0.heap.size, 0, none⟩ _ _ (cells [y]) hx (by rw [cells_length]; rfl) ?_ (cells_one [y]) (by unfold maxLen; omega) (by omega) hown'.2 ?_
  · intro j u hj
    have hadd : (⟨w0.heap.size, 0, none⟩ : Addr).add j = ⟨w0.heap.size, j, none⟩ := by unfold Addr.add; split <;> simp_all
    rw [hadd, cell_of_row _ w0.heap.size j _ 9 (0, 0) (heap_alloc_new _ _)]
    simpa [cells] using hj
  · intro v' w' h1 h2 _
    have h1' : w'.ownsRow B 9 1 v' (xs ++ [y]).length (cells (xs ++ [y])) := by
      rw [List.length_append, cells_append]; exact h1
    exact h v' w' ⟨h1', Nat.le_trans hown'.2 h2.size⟩ (((Below.refl B w0).alloc hown.2 _).grown h2 hown'.2 (fun k hk => (hown'.1.lt k hk).1))
end
end Go.Proofs.Qxb6632289a
