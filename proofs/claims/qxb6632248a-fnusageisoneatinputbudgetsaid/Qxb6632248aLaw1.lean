/-
  THE WALK OF THE LAW 'usage is one at the input budget'.
-/
import Derived.Test.Qxb6632248aWalks
import Derived.Deep.RegionHeld3
import Derived.RowKit3
namespace Go.Proofs.Qxb6632248a
open Go.RowKit Fl
set_option linter.unusedVariables false

/-- A float stored into a cell (the kit's law for the other kinds, once more). -/
theorem store_float (P : Program) (w : World) (a : Addr) (m : _) (k : FloatKind) (b : Nat) : (store a (.float k b) m).run P w = stored P w a (.float k b) m := run_store P w a _ m rfl
attribute [local go_sem] store_float

set_option maxHeartbeats 1000000 in
theorem law1_fin (a b t n : Int) (f : Nat) (w : World) (hn : wrap64 (a - b) = n) (h : 0 < n) (h' : n ≤ 9223372036854775807) (ht : -9223372036854775808 ≤ t) (ht' : t ≤ 9223372036854775807) :
    Calls Try.prog 3 #[.int .i64 a, .int .i64 b, .float .f64 f, .int .i64 t] w fun e w' => e = .returned (.bool true) ∧ Grown w w' := by
  have HN : Hid (wrap64 (a - b) = n) := hn
  have u1 := us_self n h h'
  have u2 := us_fin t n ht ht' h h'
  have g : ¬ n ≤ 0 := by omega
  have o1 := one_one
  go_enter Try.func3, Try.ntmps3
  go_wp2_with (go_at_call 5; refine (usage_fin _ _ _ _ _ _ HN.out h h' ht ht').mono ?_; rintro e w' ⟨rfl, c1, c2, rfl⟩)
  go_region_held3 (fun w' => w'.cell? ⟨w.heap.size, 0, none⟩ = some (.int .i64 a) ∧ w'.cell? ⟨w.heap.size, 1, none⟩ = some (.int .i64 b) ∧ w'.cell? ⟨w.heap.size, 2, none⟩ = some (.float .f64 f)) (simp [go_sem, World.cell?_alloc_past])
    (first
      | (go_at_call 6; refine (input_any _ _ _ _).mono ?_; rintro e w' ⟨rfl, c3, rfl⟩; rw [HN.out])
      | (go_at_call 5; refine (usage_fin _ _ _ _ _ _ HN.out h h' (by omega) h').mono ?_; rintro e w' ⟨rfl, c4, c5, rfl⟩; rw [u1]))
  by_cases q1 : t ≤ n
  · have l1 := us_le t n ht ht' h h' q1
    by_cases q2 : n ≤ t
    · have l2 := us_ge t n ht ht' h h' q2
      go_wp2
      go_ret
      exact ⟨rfl, by repeat (first | exact Grown.refl _ | apply Grown.drew | apply Grown.alloc)⟩
    · have q3 : t < n := by omega
      go_wp2
      go_ret
      exact ⟨rfl, by repeat (first | exact Grown.refl _ | apply Grown.drew | apply Grown.alloc)⟩
  · have q3 : n < t := by omega
    have l2 := us_ge t n ht ht' h h' (by omega)
    go_wp2
    go_ret
    exact ⟨rfl, by repeat (first | exact Grown.refl _ | apply Grown.drew | apply Grown.alloc)⟩

set_option maxHeartbeats 1000000 in
theorem law1_inf (a b t : Int) (f : Nat) (w : World) (hn : wrap64 (a - b) ≤ 0) :
    Calls Try.prog 3 #[.int .i64 a, .int .i64 b, .float .f64 f, .int .i64 t] w fun e w' => e = .returned (.bool true) ∧ Grown w w' := by
  have HN : Hid (wrap64 (a - b) ≤ 0) := hn
  have o1 := inf_max
  go_enter Try.func3, Try.ntmps3
  go_wp2_with (go_at_call 5; refine (usage_inf _ _ _ _ _ HN.out).mono ?_; rintro e w' ⟨rfl, c1, c2, rfl⟩)
  go_region_held3 (fun w' => w'.cell? ⟨w.heap.size, 0, none⟩ = some (.int .i64 a) ∧ w'.cell? ⟨w.heap.size, 1, none⟩ = some (.int .i64 b) ∧ w'.cell? ⟨w.heap.size, 2, none⟩ = some (.float .f64 f)) (simp [go_sem, World.cell?_alloc_past])
    (first
      | (go_at_call 6; refine (input_any _ _ _ _).mono ?_; rintro e w' ⟨rfl, c3, rfl⟩)
      | (go_at_call 5; refine (usage_inf _ _ _ _ _ HN.out).mono ?_; rintro e w' ⟨rfl, c4, c5, rfl⟩))
  go_wp2_with (go_at_call 7; refine (posinf_any _ _).mono ?_; rintro e w' ⟨rfl, rfl⟩; rw [o1])
  go_ret
  exact ⟨rfl, by repeat (first | exact Grown.refl _ | apply Grown.drew | apply Grown.alloc)⟩

theorem law1_any (a b t : Int) (f : Nat) (w : World) (ht : -9223372036854775808 ≤ t) (ht' : t ≤ 9223372036854775807) :
    Calls Try.prog 3 #[.int .i64 a, .int .i64 b, .float .f64 f, .int .i64 t] w fun e w' => e = .returned (.bool true) ∧ Grown w w' := by
  by_cases h : wrap64 (a - b) ≤ 0
  · exact law1_inf a b t f w h
  · exact law1_fin a b t _ f w rfl (by omega) (by unfold wrap64; omega) ht ht'
end Go.Proofs.Qxb6632248a
