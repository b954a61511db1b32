/-
  THE WALK OF THE LAW 'usage hangs on the room alone'.
-/
import Derived.Test.Qxb6632248aWalks
import Derived.RowKit3
namespace Go.Proofs.Qxb6632248a
open Go.RowKit Fl
set_option linter.unusedVariables false

/-- A float stored into a cell (the kit's law for the other kinds, once more). -/
theorem store_float (P : Program) (w : World) (a : Addr) (m : _) (k : FloatKind) (b : Nat) : (store a (.float k b) m).run P w = stored P w a (.float k b) m := run_store P w a _ m rfl
attribute [local go_sem] store_float

theorem least_neg : wrap64 9223372036854775808 = -9223372036854775808 := by unfold wrap64; omega
theorem moved (a b s : Int) : wrap64 (wrap64 (a + s) - wrap64 (b + s)) = wrap64 (a - b) := by unfold wrap64; omega

set_option maxHeartbeats 1000000 in
theorem law2_inf (a b t s : Int) (f : Nat) (w : World) (hn : wrap64 (a - b) ≤ 0) :
    Calls Try.prog 4 #[.int .i64 a, .int .i64 b, .float .f64 f, .int .i64 t, .int .i64 s] w fun e w' => e = .returned (.bool true) ∧ Grown w w' := by
  have HN : Hid (wrap64 (a - b) ≤ 0) := hn
  have HM : Hid (wrap64 (wrap64 (a + s) - wrap64 (b + s)) ≤ 0) := by show _ ≤ _; rw [moved]; exact hn
  have o1 := inf_max
  have o2 := inf_inf
  go_enter Try.func4, Try.ntmps4
  go_wp2_with (first
    | (go_at_call 5; refine (usage_inf _ _ _ _ _ ?_).mono ?_; (first | with_reducible exact HN.out | with_reducible exact HM.out); rintro e w' ⟨rfl, c1, c2, rfl⟩)
    | (go_at_call 7; refine (posinf_any _ _).mono ?_; rintro e w' ⟨rfl, rfl⟩; rw [o1]))
  go_ret
  exact ⟨rfl, by repeat (first | exact Grown.refl _ | apply Grown.drew | apply Grown.alloc)⟩

set_option maxHeartbeats 2000000 in
theorem law2_fin (a b t n s : Int) (f : Nat) (w : World) (hn : wrap64 (a - b) = n) (h : 0 < n) (h' : n ≤ 9223372036854775807) (ht : -9223372036854775808 ≤ t) (ht' : t ≤ 9223372036854775807) :
    Calls Try.prog 4 #[.int .i64 a, .int .i64 b, .float .f64 f, .int .i64 t, .int .i64 s] w fun e w' => e = .returned (.bool true) ∧ Grown w w' := by
  have HN : Hid (wrap64 (a - b) = n) := hn
  have HM : Hid (wrap64 (wrap64 (a + s) - wrap64 (b + s)) = n) := by show _ = _; rw [moved]; exact hn
  have u1 := us_same t n ht ht' h h'
  have u2 := us_sign t n ht ht' h h'
  have g : ¬ n ≤ 0 := by omega
  have hng : ∀ b w, (Op.unary .neg (.float .f64 b)).run Try.prog w = .ok (.float .f64 (Op.negFloat .f64 b)) w := fun b w => rfl
  by_cases t1 : 0 < t
  · have u3 : FloatKind.f64.format.order (us t n) 0 = some .gt := by rw [u2, if_neg (by omega), if_pos t1]
    have u4 := us_neg t n (by omega) ht' h h'
    have t2 : ¬ t < 0 := by omega
    have t3 : (t != 0) = true := by simp; omega
    have t4 : (-t == t) = false := by simp; omega
    clear u2
    go_enter Try.func4, Try.ntmps4
    go_wp2_with (go_at_call 5; refine (usage_fin _ _ _ n _ _ ?_ h h' (by omega) (by omega)).mono ?_; (first | with_reducible exact HN.out | with_reducible exact HM.out); rintro e w' ⟨rfl, c1, c2, rfl⟩)
    go_ret
    exact ⟨rfl, by repeat (first | exact Grown.refl _ | apply Grown.drew | apply Grown.alloc)⟩
  by_cases t0 : t = 0
  · subst t0
    have u3 : FloatKind.f64.format.order (us 0 n) 0 = some .eq := by rw [u2]; rfl
    have u4 : FloatKind.f64.format.order (us 0 n) (Op.negFloat .f64 (us 0 n)) = some .eq := us_neg 0 n (by omega) ht' h h'
    clear u2
    go_enter Try.func4, Try.ntmps4
    go_wp2_with (go_at_call 5; refine (usage_fin _ _ _ n _ _ ?_ h h' (by omega) (by omega)).mono ?_; (first | with_reducible exact HN.out | with_reducible exact HM.out); rintro e w' ⟨rfl, c1, c2, rfl⟩)
    go_ret
    exact ⟨rfl, by repeat (first | exact Grown.refl _ | apply Grown.drew | apply Grown.alloc)⟩
  by_cases tm : t = -9223372036854775808
  · subst tm
    have u3 : FloatKind.f64.format.order (us (-9223372036854775808) n) 0 = some .lt := by rw [u2]; rfl
    have hwm := least_neg
    clear u2
    go_enter Try.func4, Try.ntmps4
    go_wp2_with (go_at_call 5; refine (usage_fin _ _ _ n _ _ ?_ h h' (by omega) (by omega)).mono ?_; (first | with_reducible exact HN.out | with_reducible exact HM.out); rintro e w' ⟨rfl, c1, c2, rfl⟩)
    go_ret
    exact ⟨rfl, by repeat (first | exact Grown.refl _ | apply Grown.drew | apply Grown.alloc)⟩
  · have u3 : FloatKind.f64.format.order (us t n) 0 = some .lt := by rw [u2, if_pos (by omega)]
    have u4 := us_neg t n (by omega) ht' h h'
    have t2 : t < 0 := by omega
    have t3 : (t != 0) = true := by simp; omega
    have t4 : (-t == t) = false := by simp; omega
    have t5 : -9223372036854775807 ≤ t := by omega
    clear u2
    go_enter Try.func4, Try.ntmps4
    go_wp2_with (go_at_call 5; refine (usage_fin _ _ _ n _ _ ?_ h h' (by omega) (by omega)).mono ?_; (first | with_reducible exact HN.out | with_reducible exact HM.out); rintro e w' ⟨rfl, c1, c2, rfl⟩)
    go_ret
    exact ⟨rfl, by repeat (first | exact Grown.refl _ | apply Grown.drew | apply Grown.alloc)⟩

theorem law2_any (a b t s : Int) (f : Nat) (w : World) (ht : -9223372036854775808 ≤ t) (ht' : t ≤ 9223372036854775807) :
    Calls Try.prog 4 #[.int .i64 a, .int .i64 b, .float .f64 f, .int .i64 t, .int .i64 s] w fun e w' => e = .returned (.bool true) ∧ Grown w w' := by
  by_cases h : wrap64 (a - b) ≤ 0
  · exact law2_inf a b t s f w h
  · exact law2_fin a b t _ s f w rfl (by omega) (by unfold wrap64; omega) ht ht'
end Go.Proofs.Qxb6632248a
