/-
  THE WALKS OF InputBudget, math.Inf, Usage, zzIsPosInf.
-/
import Derived.Test.Qxb6632248aRows
import Derived.Test.Qxb6632248aTests
import Derived.WalkKit
import Derived.WalkLawsBesides
namespace Go.Proofs.Qxb6632248a
open Go.RowKit Fl
set_option linter.unusedVariables false

/-- A budget as a value. -/
def bud (a b : Int) (f : Nat) : Value := .agg #[.int .i64 a, .int .i64 b, .float .f64 f]

theorem input_any (a b : Int) (f : Nat) (w : World) :
    Calls Try.prog 6 #[.agg #[.int .i64 a, .int .i64 b, .float .f64 f]] w fun e w' => e = .returned (.int .i64 (wrap64 (a - b))) ∧ ∃ c : Array Value, w' = w.alloc (.cells c 24) := by
  go_enter Try.func6, Try.ntmps6
  go_wp2
  go_ret
  exact ⟨rfl, _, rfl⟩

theorem frombits : ∀ w, (callFunc 9 #[.int .u64 9218868437227405312]).run Try.prog w = .ok (.value (.float .f64 9218868437227405312)) w := fun w => by kernel_rfl

theorem inf_any (w : World) :
    Calls Try.prog 8 #[.int .i64 1] w fun e w' => e = .returned (.float .f64 9218868437227405312) ∧ w = w' := by
  have h := frombits
  go_enter Try.func8, Try.ntmps8
  go_wp2_with (simp only [h])
  go_ret
  exact ⟨rfl, rfl⟩

theorem posinf_any (u : Nat) (w : World) :
    Calls Try.prog 7 #[.float .f64 u] w fun e w' => e = .returned (.bool (FloatKind.f64.format.order u 9218868437227405311 == some .gt)) ∧ w = w' := by
  go_enter Try.func7, Try.ntmps7
  go_wp2
  go_ret
  exact ⟨rfl, rfl⟩

theorem usage_inf (a b t : Int) (f : Nat) (w : World) (h : wrap64 (a - b) ≤ 0) :
    Calls Try.prog 5 #[.agg #[.int .i64 a, .int .i64 b, .float .f64 f], .int .i64 t] w fun e w' => e = .returned (.float .f64 9218868437227405312) ∧ ∃ c d : Array Value, w' = (w.alloc (.cells c 24)).alloc (.cells d 24) := by
  obtain ⟨n, hn⟩ : ∃ n, Hid (wrap64 (a - b) = n) := ⟨_, rfl⟩
  have h' : n ≤ 0 := by rw [← hn.out]; exact h
  clear h
  go_enter Try.func5, Try.ntmps5
  go_wp2_with (first
    | (go_at_call 6; refine (input_any _ _ _ _).mono ?_; rintro e w' ⟨rfl, c, rfl⟩; rw [hn.out])
    | (go_at_call 8; refine (inf_any _).mono ?_; rintro e w' ⟨rfl, rfl⟩))
  go_ret
  exact ⟨rfl, _, _, rfl⟩

theorem usage_fin (a b t n : Int) (f : Nat) (w : World) (hn : wrap64 (a - b) = n) (h : 0 < n) (h' : n ≤ 9223372036854775807) (ht : -9223372036854775808 ≤ t) (ht' : t ≤ 9223372036854775807) :
    Calls Try.prog 5 #[.agg #[.int .i64 a, .int .i64 b, .float .f64 f], .int .i64 t] w fun e w' => e = .returned (.float .f64 (us t n)) ∧ ∃ c d : Array Value, w' = (w.alloc (.cells c 24)).alloc (.cells d 24) := by
  have HN : Hid (wrap64 (a - b) = n) := hn
  clear hn
  have hq : ∀ ty w, (binOp .quo ty (.float .f64 (floatOfInt .f64 t)) (.float .f64 (floatOfInt .f64 n))).run Try.prog w = .ok (.float .f64 (us t n)) w := fun ty w => run_float_arith w .quo ty .f64 _ _ _ (us_bits t n ht ht' h h')
  have g : ¬ n ≤ 0 := by omega
  go_enter Try.func5, Try.ntmps5
  go_wp2_with (go_at_call 6; refine (input_any _ _ _ _).mono ?_; rintro e w' ⟨rfl, c, rfl⟩; rw [HN.out])
  go_ret
  exact ⟨rfl, _, _, rfl⟩
end Go.Proofs.Qxb6632248a
