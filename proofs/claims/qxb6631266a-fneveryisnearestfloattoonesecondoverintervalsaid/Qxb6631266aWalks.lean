/-
  THE WALKS OF 'Every' AND 'ZZEveryNs'.
-/
import Derived.Test.Qxb6631266aRows
import Derived.Test.Qxb6631266aEvery
import Derived.WalkKit
import Derived.WalkLawsBesides
import Derived.Laws.FloatArith
namespace Go.Proofs.Qxb6631266a
open Go.RowKit
set_option linter.unusedVariables false

theorem floatOfInt_pos (n : Int) (h : 0 < n) : floatOfInt .f64 n = Ieee.double.nearest false n.toNat 0 := by
  show Ieee.double.nearest (decide (n < 0)) n.natAbs 0 = _
  rw [show decide (n < 0) = false by simp; omega, show n.natAbs = n.toNat by omega]

theorem every_inf (n : Int) (w : World) (h : n ≤ 0) :
    Calls Try.prog 9 #[.int .i64 n] w fun e w' => e = .returned (.float .f64 9218868437227405311) ∧ w' = w := by
  go_enter Try.func9, Try.ntmps9
  go_wp2
  go_ret
  exact ⟨rfl, rfl⟩

theorem every_pos (n : Int) (w : World) (h : 0 < n) (h' : n < 9007199254740992) :
    Calls Try.prog 9 #[.int .i64 n] w fun e w' => e = .returned (.float .f64 (Fl.ev n.toNat)) ∧ w' = w := by
  have hop : ∀ t w, (binOp .quo t (.float .f64 4741671816366391296) (.float .f64 (floatOfInt .f64 n))).run Try.prog w = .ok (.float .f64 (Fl.ev n.toNat)) w := by
    intro t w
    refine run_float_arith w .quo t .f64 _ _ _ ?_
    rw [floatOfInt_pos n h]
    exact (Fl.ev_div n.toNat (by omega) (by omega)).1
  have hn : ¬ n ≤ 0 := by omega
  go_enter Try.func9, Try.ntmps9
  go_wp2_with (simp only [hop])
  go_ret
  exact ⟨rfl, rfl⟩

theorem zz_inf (n : Int) (w : World) (h : n ≤ 0) :
    Calls Try.prog 5 #[.int .i64 n] w fun e w' => e = .returned (.float .f64 9218868437227405311) ∧ w' = w := by
  go_enter Try.func5, Try.ntmps5
  go_wp2_with (go_at_call 9; refine (every_inf _ _ h).mono ?_; rintro e w' ⟨rfl, rfl⟩)
  go_ret
  exact ⟨rfl, rfl⟩

theorem zz_pos (n : Int) (w : World) (h : 0 < n) (h' : n < 9007199254740992) :
    Calls Try.prog 5 #[.int .i64 n] w fun e w' => e = .returned (.float .f64 (Fl.ev n.toNat)) ∧ w' = w := by
  go_enter Try.func5, Try.ntmps5
  go_wp2_with (go_at_call 9; refine (every_pos _ _ h h').mono ?_; rintro e w' ⟨rfl, rfl⟩)
  go_ret
  exact ⟨rfl, rfl⟩

end Go.Proofs.Qxb6631266a
