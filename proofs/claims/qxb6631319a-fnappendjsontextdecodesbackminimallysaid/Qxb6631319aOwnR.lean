/-
  SLICES OF BYTES, MORE: 'OwnR N row v l w': the slice v owns the bytes l; its block is 'row', or one from N on. 'Kp N row w w'': of the blocks below N none but 'row' has turned.
-/
import Derived.Test.Qxb6631319aOwn
import Derived.Maps.AppendAt
import Derived.Deep.AppendLies
namespace Go.Proofs.Qxb6631319a
open Go.RowKit Js
set_option linter.unusedVariables false

structure Kp (N : Nat) (row : Option Nat) (w w' : World) : Prop where
  os : w'.os = w.os
  tape : w'.tape = w.tape
  output : w'.output = w.output
  size : w.heap.size ≤ w'.heap.size
  block : ∀ k, k < N → some k ≠ row → w'.heap[k]? = w.heap[k]?

theorem Kp.refl (N : Nat) (row : Option Nat) (w : World) : Kp N row w w := ⟨rfl, rfl, rfl, Nat.le_refl _, fun _ _ _ => rfl⟩
theorem Kp.trans {N : Nat} {row : Option Nat} {a b c : World} (h : Kp N row a b) (k : Kp N row b c) : Kp N row a c :=
  ⟨k.os.trans h.os, k.tape.trans h.tape, k.output.trans h.output, Nat.le_trans h.size k.size, fun i hi hr => (k.block i hi hr).trans (h.block i hi hr)⟩
theorem Kp.drew {N : Nat} {row : Option Nat} {a w : World} (h : Kp N row a w) : Kp N row a w.drew := ⟨h.os, h.tape, h.output, h.size, h.block⟩
theorem Kp.alloc {N : Nat} {row : Option Nat} {a w : World} (h : Kp N row a w) (hN : N ≤ w.heap.size) (o : Obj) : Kp N row a (w.alloc o) :=
  h.trans ⟨rfl, rfl, rfl, by simp, fun k hk _ => Below.heap_alloc _ _ _ (by omega)⟩
/-- Below a number that is no greater, and under which 'row' does not lie. -/
theorem Kp.below {N B : Nat} {row : Option Nat} {w w' : World} (h : Kp N row w w') (hB : B ≤ N) (hr : ∀ k, row = some k → B ≤ k) : Below B w w' :=
  ⟨h.os, h.tape, h.output, h.size, fun k hk => h.block k (by omega) (fun e => by have := hr k e.symm; omega)⟩

def OwnR (N : Nat) (row : Option Nat) (v : Value) (l : List Int) (w : World) : Prop :=
  w.ownsRow 0 5 1 v l.length (cells l) ∧ N ≤ w.heap.size ∧ ∀ g, v.ownBlock = some g → some g = row ∨ N ≤ g

/-- What is owned from B on, in a world of N blocks: by its own block. -/
theorem Own.toR {B : Nat} {v : Value} {l : List Int} {w : World} (h : Own B v l w) : OwnR w.heap.size v.ownBlock v l w :=
  ⟨(h.mono (Nat.zero_le B)).1, Nat.le_refl _, fun g hg => .inl hg.symm⟩
theorem OwnR.toOwn {N : Nat} {row : Option Nat} {v : Value} {l : List Int} {w : World} (h : OwnR N row v l w) : Own 0 v l w := ⟨h.1, Nat.zero_le _⟩
theorem OwnR.alloc {N : Nat} {row : Option Nat} {v : Value} {l : List Int} {w : World} (h : OwnR N row v l w) (o : Obj) : OwnR N row v l (w.alloc o) :=
  ⟨(h.toOwn.alloc o).1, Nat.le_trans h.2.1 (by simp), h.2.2⟩
theorem OwnR.drew {N : Nat} {row : Option Nat} {v : Value} {l : List Int} {w : World} (h : OwnR N row v l w) : OwnR N row v l w.drew :=
  ⟨(h.toOwn.drew).1, h.2.1, h.2.2⟩

section
variable {ops : Array Oper} {rest : List Oper} {o : Oper} {a : Act} {Q : Exit → Act → World → Prop} {w : World}

theorem ownR_grown {N : Nat} {row : Option Nat} {v v' : Value} {xs ys : List Int} {w w' : World} (h : OwnR N row v xs w) (ho : w'.ownsRow 0 5 1 v' ys.length (cells ys)) (hg : w.grownBy w' v.ownBlock)
    (hat : v'.ownBlock = v.ownBlock ∨ v'.ownBlock = some w.heap.size) : OwnR N row v' ys w' ∧ Kp N row w w' := by
  refine ⟨⟨ho, Nat.le_trans h.2.1 hg.size, fun g hv => ?_⟩, ⟨hg.os, hg.tape, hg.output, hg.size, fun k hk hr => hg.block k (by have := h.2.1; omega) (fun e => ?_)⟩⟩
  · rcases hat with hat | hat
    · exact h.2.2 g (hat ▸ hv)
    · rw [hat] at hv
      simp only [Option.some.injEq] at hv
      exact .inr (by have := h.2.1; omega)
  · rcases h.2.2 k e.symm with h1 | h1
    · exact hr h1
    · omega

/-- 'append(v, s...)', s a string. -/
theorem lawR_str (hgd : o.guard = none) (sl x : Operand) (ho : o.op = .call { callee := .builtin .append, args := #[sl, x], argTypes := #[22, 9] })
    (N : Nat) (row : Option Nat) (v : Value) (xs : List Int) (hs : a.eval sl = v) (hown : OwnR N row v xs w) (s : ByteArray) (hx : a.eval x = .string s) (hlen : xs.length + s.size ≤ 140737488355328)
    (h : ∀ v' w', OwnR N row v' (xs ++ bs s) w' → Kp N row w w' → wpList Try.prog ops Q rest (a.put o.dst v') w') : wpList Try.prog ops Q (o :: rest) a w := by
  obtain ⟨i0, hi, hz0, hz1, hz2⟩ := info_parts info5
  refine wpList_plain hgd fun K hK => ?_
  have h63 : xs.length + s.size ≤ maxLen := by unfold maxLen; omega
  obtain ⟨v', w', hr, h2, h3, h4⟩ := Lib.run_append_own_string (P := Try.prog) w 0 22 9 o.type 5 i0 Try.underlying22 Try.underlying9 hi hz0 hz1 hz2 v xs.length (cells xs) hown.1 s h63 hlen (Nat.zero_le _)
  have hat : v'.ownBlock = v.ownBlock ∨ v'.ownBlock = some w.heap.size := by
    rcases hown.1.2 with ⟨rfl, hn0⟩ | ⟨g, cap, cur, rfl, _, hg, hnc, hcm, hcs, htake⟩
    · by_cases hm : s.size = 0
      · left; rw [h4.2 ⟨rfl, hm⟩]
      · right
        have hr' := run_append_nil_string (P := Try.prog) w 22 9 o.type 5 i0 (.int .u8 0) Try.underlying22 Try.underlying9 hi hz0 s (by omega) (by omega) (by rw [hz2]; omega)
        rw [hr] at hr'
        simp only [Result.ok.injEq] at hr'
        rw [hr'.1]; rfl
    · by_cases hroom : xs.length + s.size ≤ cap
      · left
        have hr' := Lib.run_append_room_string (P := Try.prog) w 22 9 o.type 5 i0 Try.underlying22 Try.underlying9 hi hz1 g xs.length cap cur hg s hroom (by omega)
        rw [hr] at hr'
        simp only [Result.ok.injEq] at hr'
        rw [hr'.1]; rfl
      · right
        have hr' := Lib.run_append_grow_string (P := Try.prog) w 22 9 o.type 5 i0 (.int .u8 0) Try.underlying22 Try.underlying9 hi hz0 ⟨g, 0, none⟩ xs.length cap (cells xs) (by rw [cells_length, hz1, Nat.mul_one]) (hown.1.cells (g := g) rfl) s (by omega) (by omega) (by rw [hz2]; exact growslice_fits (by omega) (by omega))
        rw [hr] at hr'
        simp only [Result.ok.injEq] at hr'
        rw [hr'.1]; rfl
  have h1' : w'.ownsRow 0 5 1 v' (xs ++ bs s).length (cells (xs ++ bs s)) := by
    rw [List.length_append, bs_length, cells_append, ← cells_str]; exact h2
  obtain ⟨r1, r2⟩ := ownR_grown hown h1' h3 hat
  unfold Oper.wp execOp
  simp only [ho, resolve, invoke, builtin, Sem.run_bind, Sem.run_pure, Result.andThen_ok, List.map_toArray, List.map_cons, List.map_nil, hs, hx, hr]
  exact hK _ _ (h v' w' r1 r2)

/-- 'append(v, b0, b1, ..)': the bytes lie in the block that the statement has just laid. -/
theorem lawR_new (hgd : o.guard = none) (sl x : Operand) (ho : o.op = .call { callee := .builtin .append, args := #[sl, x], argTypes := #[22, 22] })
    (N : Nat) (row : Option Nat) (v : Value) (xs : List Int) (hs : a.eval sl = v) (w0 : World) (hown : OwnR N row v xs w0) (l : List Int) (m : Nat) (hm : l.length = m) (hx : a.eval x = .slice (some ⟨w0.heap.size, 0, none⟩) m m) (hW : w = w0.alloc (.cells (cells l).toArray 5)) (hlen : xs.length + l.length ≤ 140737488355328)
    (h : ∀ v' w', OwnR N row v' (xs ++ l) w' → Kp N row w0 w' → wpList Try.prog ops Q rest (a.put o.dst v') w') : wpList Try.prog ops Q (o :: rest) a w := by
  subst hm
  subst hW
  obtain ⟨i0, hi, hz0, hz1, hz2⟩ := info_parts info5
  have hown' := hown.alloc (.cells (cells l).toArray 5)
  refine wpList_append_own_at _ hgd sl x 22 ho 0 5 i0 (.int .u8 0) 1 1 Try.underlying22 hi hz0 hz1 hz2 rfl (by decide) v xs.length (cells xs) hs hown'.1 ⟨w0.heap.size, 0, none⟩ _ _ (cells l) hx (by rw [cells_length]; omega) ?_ (cells_one l) (by unfold maxLen; omega) (by omega) (Nat.zero_le _) ?_
  · intro j u hj
    have hadd : (⟨w0.heap.size, 0, none⟩ : Addr).add j = ⟨w0.heap.size, j, none⟩ := by unfold Addr.add; split <;> simp_all
    rw [hadd, cell_of_row _ w0.heap.size j _ 5 (0, 0) (heap_alloc_new _ _)]
    simpa using hj
  · intro v' w' h1 h2 _ hat
    have h1' : w'.ownsRow 0 5 1 v' (xs ++ l).length (cells (xs ++ l)) := by
      rw [List.length_append, cells_append]; exact h1
    obtain ⟨r1, r2⟩ := ownR_grown hown' h1' h2 hat
    exact h v' w' r1 (((Kp.refl N row w0).alloc hown.2.1 _).trans r2)

/-- The same at a step of a region that draws its order: the bytes lie in a block that is known whole. -/
theorem lawR_step {K : Act → World → Prop} {E : Prop} (hgd : o.guard = none) (sl x : Operand) (ho : o.op = .call { callee := .builtin .append, args := #[sl, x], argTypes := #[22, 22] })
    (N : Nat) (row : Option Nat) (v : Value) (xs : List Int) (hs : a.eval sl = v) (hown : OwnR N row v xs w) (l : List Int) (m g : Nat) (hm : l.length = m) (hm0 : 0 < m) (hx : a.eval x = .slice (some ⟨g, 0, none⟩) m m)
    (hg : w.heap[g]? = some (.cells (cells l).toArray 5 (0, 0))) (hlen : xs.length + l.length ≤ 140737488355328)
    (h : ∀ v' w', OwnR N row v' (xs ++ l) w' → Kp N row w w' → K (a.put o.dst v') w') : if Region.wanted o (yielded ops a.tmps) = true then Oper.wp Try.prog o a w K Q else E := by
  subst hm
  obtain ⟨i0, hi, hz0, hz1, hz2⟩ := info_parts info5
  refine step_append_lies w hgd sl x 22 ho 0 5 i0 (.int .u8 0) 1 1 Try.underlying22 hi hz0 hz1 hz2 rfl (by decide) v xs.length (cells xs) hs hown.1 ⟨g, 0, none⟩ _ _ (cells l) hx (by rw [cells_length]; omega) ?_ (cells_one l) hm0 (by unfold maxLen; omega) (by omega) (Nat.zero_le _) _ rfl ?_
  · intro j u hj
    have hadd : (⟨g, 0, none⟩ : Addr).add j = ⟨g, j, none⟩ := by unfold Addr.add; split <;> simp_all
    rw [hadd, cell_of_row w g j _ 5 (0, 0) hg]
    simpa using hj
  · intro g' cap w' h1 h2 hat _
    have h1' : w'.ownsRow 0 5 1 (.slice (some ⟨g', 0, none⟩) (xs.length + l.length) cap) (xs ++ l).length (cells (xs ++ l)) := by
      rw [List.length_append, cells_append]; exact h1
    have hat' : (Value.slice (some ⟨g', 0, none⟩) (xs.length + l.length) cap).ownBlock = v.ownBlock ∨ (Value.slice (some ⟨g', 0, none⟩) (xs.length + l.length) cap).ownBlock = some w.heap.size := by
      rcases hat with hat | hat
      · exact .inl hat.symm
      · exact .inr (by rw [hat]; rfl)
    obtain ⟨r1, r2⟩ := ownR_grown hown h1' h2 hat'
    exact h _ w' r1 r2
end
end Go.Proofs.Qxb6631319a
