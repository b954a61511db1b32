/-
  The proof of 'Rows.FnEveryHalvesWhenIntervalDoublesSaid'; its frame was written by program (proof-skeleton.mjs).
  The walk is filled in; all else is the guide's template at this function's number and types.
-/
import Derived.Test.Qxb6631266aRows
import Derived.WalkKit
import Derived.ProofKit
import Derived.OpenShut
import Derived.ShutString
import Derived.Test.Qxb6631266aWalks
namespace Go.Proofs.Qxb6631266a.fnEveryHalvesWhenIntervalDoubles
open Go.ChangeShapes Go.WideShapes Go.ChangeAt Go.RowKit
open Go.ChangeMaps (open_string shut_string)
set_option linter.unusedVariables false      -- a walk need not use every 'w<i>' (that an integer argument fits its kind)

theorem own : ownKnob Try.prog.godebug = none := by kernel_rfl

/-! ### STEP 1: THE WALK: the Go text returns true. -/
theorem order_eq (n : Nat) (h0 : n ≠ 0) (h : n < 4503599627370496) : Ieee.double.order (Fl.ev (2 * n)) (Fl.ev (2 * n)) = some .eq := by
  obtain ⟨-, s, k, e1, -, s1, s2, k1, k2⟩ := Fl.ev_two n h0 h
  rw [e1, Fl.order_wd _ _ _ _ (by omega) (by omega) k1 k2 k1 k2, Std.compare_self]

theorem order_ge (n : Nat) (h0 : n ≠ 0) (h : n < 4503599627370496) : Ieee.double.order (Fl.ev n) (Fl.ev (n + 1)) = some .gt ∨ Ieee.double.order (Fl.ev n) (Fl.ev (n + 1)) = some .eq := by
  have hm := Fl.ev_mono n h0 h
  obtain ⟨s, k, e1, s1, s2, k1, k2, -⟩ := Fl.ev_norm n h0 (by omega)
  obtain ⟨s', k', e1', s1', s2', k1', k2', -⟩ := Fl.ev_norm (n + 1) (by omega) (by omega)
  rw [e1, e1'] at hm ⊢
  rw [Fl.order_wd _ _ _ _ (by omega) (by omega) k1 k2 k1' k2']
  rcases Nat.lt_or_eq_of_le hm with h | h
  · left; rw [Std.compare_eq_gt.2 h]
  · right; rw [h, Std.compare_self]

/-- The last test, whatever the rounded product is: closed reckonings. -/
theorem last_lo : Ieee.double.order 13726971664225271808 0 = some .lt ∧ Ieee.double.order (Op.negFloat .f64 13726971664225271808) 4511988235370496000 = some .lt := by decide +kernel
theorem last_eq : Ieee.double.order 0 0 = some .eq ∧ Ieee.double.order 0 4511988235370496000 = some .lt := by decide +kernel
theorem last_hi : Ieee.double.order 4503599627370496000 0 = some .gt ∧ Ieee.double.order 4503599627370496000 4511988235370496000 = some .lt := by decide +kernel

theorem walk_out (a0 : Int) (w : World) (h : a0 ≤ 0 ∨ 4503599627370496 ≤ a0) :
    Calls Try.prog 4 #[.int .i64 a0] w fun e w' => e = .returned (.bool true) ∧ Grown w w' := by
  rcases h with h | h
  · go_enter Try.func4, Try.ntmps4
    go_wp2
    go_ret
    exact ⟨rfl, Grown.refl _⟩
  · have h' : ¬ a0 ≤ 0 := by omega
    go_enter Try.func4, Try.ntmps4
    go_wp2
    go_ret
    exact ⟨rfl, Grown.refl _⟩

theorem walk_in (a0 : Int) (w : World) (h1 : 0 < a0) (h2 : a0 < 4503599627370496) :
    Calls Try.prog 4 #[.int .i64 a0] w fun e w' => e = .returned (.bool true) ∧ Grown w w' := by
  have n1 : ¬ a0 ≤ 0 := by omega
  have n2 : ¬ 4503599627370496 ≤ a0 := by omega
  have e2 : (2 * a0).toNat = 2 * a0.toNat := by omega
  have e1 : (a0 + 1).toNat = a0.toNat + 1 := by omega
  have hq : ∀ t w, (binOp .quo t (.float .f64 (Fl.ev a0.toNat)) (.float .f64 4611686018427387904)).run Try.prog w = .ok (.float .f64 (Fl.ev (2 * a0).toNat)) w := by
    intro t w
    refine run_float_arith w .quo t .f64 _ _ _ ?_
    rw [e2]
    exact (Fl.ev_two a0.toNat (by omega) (by omega)).1
  have hne : FloatKind.f64.format.order (Fl.ev (2 * a0).toNat) (Fl.ev (2 * a0).toNat) = some .eq := by
    rw [e2]; exact order_eq _ (by omega) (by omega)
  have hge : (FloatKind.f64.format.order (Fl.ev a0.toNat) (Fl.ev (a0 + 1).toNat) == some .gt || FloatKind.f64.format.order (Fl.ev a0.toNat) (Fl.ev (a0 + 1).toNat) == some .eq) = true := by
    rw [e1]
    rcases order_ge a0.toNat (by omega) (by omega) with h | h
    · rw [show FloatKind.f64.format.order (Fl.ev a0.toNat) (Fl.ev (a0.toNat + 1)) = some .gt from h]; rfl
    · rw [show FloatKind.f64.format.order (Fl.ev a0.toNat) (Fl.ev (a0.toNat + 1)) = some .eq from h]; rfl
  clear e1 e2
  have hmul : ∀ r, Ieee.double.mul (Fl.ev a0.toNat) (Ieee.double.nearest false a0.toNat 0) = some r → ∀ t w, (binOp .mul t (.float .f64 (Fl.ev a0.toNat)) (.float .f64 (floatOfInt .f64 a0))).run Try.prog w = .ok (.float .f64 r) w := by
    intro r hr t w
    refine run_float_arith w .mul t .f64 _ _ _ ?_
    rw [floatOfInt_pos a0 h1]
    exact hr
  have hng : ∀ b w, (Op.unary .neg (.float .f64 b)).run Try.prog w = .ok (.float .f64 (Op.negFloat .f64 b)) w := fun b w => rfl
  rcases Fl.ev_mul a0.toNat (by omega) (by omega) with hm | hm | hm
  · have hm' := hmul _ hm
    have hs : ∀ t w, (binOp .sub t (.float .f64 4741671816366391295) (.float .f64 4741671816366391296)).run Try.prog w = .ok (.float .f64 13726971664225271808) w := fun t w => run_float_arith w .sub t .f64 _ _ _ Fl.sub_lo
    have l1 : FloatKind.f64.format.order 13726971664225271808 0 = some .lt := last_lo.1
    have l2 : FloatKind.f64.format.order (Op.negFloat .f64 13726971664225271808) 4511988235370496000 = some .lt := last_lo.2
    clear hm hmul
    go_enter Try.func4, Try.ntmps4
    go_wp2_with (go_at_call 5; refine (zz_pos _ _ (by omega) (by omega)).mono ?_; rintro e w' ⟨rfl, rfl⟩)
    go_ret
    exact ⟨rfl, Grown.refl _⟩
  · have hm' := hmul _ hm
    have hs : ∀ t w, (binOp .sub t (.float .f64 4741671816366391296) (.float .f64 4741671816366391296)).run Try.prog w = .ok (.float .f64 0) w := fun t w => run_float_arith w .sub t .f64 _ _ _ Fl.sub_eq
    have l1 : FloatKind.f64.format.order 0 0 = some .eq := last_eq.1
    have l2 : FloatKind.f64.format.order 0 4511988235370496000 = some .lt := last_eq.2
    clear hm hmul
    go_enter Try.func4, Try.ntmps4
    go_wp2_with (go_at_call 5; refine (zz_pos _ _ (by omega) (by omega)).mono ?_; rintro e w' ⟨rfl, rfl⟩)
    go_ret
    exact ⟨rfl, Grown.refl _⟩
  · have hm' := hmul _ hm
    have hs : ∀ t w, (binOp .sub t (.float .f64 4741671816366391297) (.float .f64 4741671816366391296)).run Try.prog w = .ok (.float .f64 4503599627370496000) w := fun t w => run_float_arith w .sub t .f64 _ _ _ Fl.sub_hi
    have l1 : FloatKind.f64.format.order 4503599627370496000 0 = some .gt := last_hi.1
    have l2 : FloatKind.f64.format.order 4503599627370496000 4511988235370496000 = some .lt := last_hi.2
    clear hm hmul
    go_enter Try.func4, Try.ntmps4
    go_wp2_with (go_at_call 5; refine (zz_pos _ _ (by omega) (by omega)).mono ?_; rintro e w' ⟨rfl, rfl⟩)
    go_ret
    exact ⟨rfl, Grown.refl _⟩

theorem walk (a0 : Int) (w0 : (Lit.int .i64 a0).wf = true) (w : World) :
    Calls Try.prog 4 #[.int .i64 a0] w fun e w' => e = .returned (.bool true) ∧ Grown w w' := by
  by_cases h : a0 ≤ 0 ∨ 4503599627370496 ≤ a0
  · exact walk_out a0 w h
  · exact walk_in a0 w (by omega) (by omega)

/-! ### THE ROW's STEP: WRITTEN OUT: LEAVE IT -/
set_option maxRecDepth 100000 in
theorem lifted (os : Os) (started : os.Started) (H : Type) (enc : TypeId × Value → H) :
    ReturnsInHanded {} Try.checked os 4 .any (Rows.fnEveryHalvesWhenIntervalDoublesSpec.pre6 enc Try.prog Try.f4 Rows.fnEveryHalvesWhenIntervalDoublesRow.domain false) (Rows.fnEveryHalvesWhenIntervalDoublesSpec.post enc Try.prog Try.f4 false true false false) := by
  refine returnsInHanded_of_change (C := Try.checked) own started (by kernel_rfl) Try.func4
    (ChangeSpec.witness6 (enc := enc) (C := Try.checked) false ⟨#[], #[.int .i64 0], []⟩ 8 (by kernel_rfl) (by kernel_rfl) (by kernel_rfl) (by kernel_rfl)) ?_
  intro W base args ds gs before hval0 hW hcnd _
  have hval : ∀ (j : Nat) t v, Try.f4.params[j]? = some t → args[j]? = some v → Value.okWide Try.prog W .any base t v := hval0
  have hW' := hW
  obtain ⟨p, q, hA0, hV, rfl, hfz, hnd⟩ := hW
  have hA : DataW.TrodAll enc Try.prog W 0 (fun _ => true) true Try.f4.params.toList args.toList ds p := hA0
  rw [Try.params4] at hA hval
  obtain ⟨v0, vs0, d0, ds0, p0, q0, hargs, rfl, rfl, h0, r0⟩ := trodAll_cons hA
  obtain ⟨rfl, rfl, rfl⟩ := trodAll_nil r0
  obtain rfl : args = #[v0] := by cases args; simp_all
  obtain ⟨rfl, rfl⟩ := trodVars_none hV
  obtain ⟨a0, rfl, rfl, rfl, w0⟩ := open_int Try.underlying2 (hval 0 2 v0 rfl rfl) h0
  clear hA0 hval0
  simp only [List.append_nil] at hW'
  refine (walk a0 w0 W).mono fun e W' ⟨he, hg⟩ => ?_
  subst he
  exact ⟨_, rfl, post_of_same (pa := []) (pv := []) hW' (fun _ _ _ => (trodAll_cons_mk (shut_bool Try.underlying4 _) trodAll_mk0)) (fun sp _ => (trodAll_cons_mk (shut_int Try.underlying2 w0) trodAll_mk0)) (fun _ _ => rfl) rfl
    (hg.frame _) hg.2.1 (ok_one (by kernel_rfl) rfl (okWide_bool_mk Try.underlying4 _))⟩

theorem over : Rows.fnEveryHalvesWhenIntervalDoublesRow.holds Try.pinned (OpenSpec.ofChange Rows.fnEveryHalvesWhenIntervalDoublesSpec) :=
  OpenClaim.holds_of_wide 4 Try.f4 rfl rfl rfl rfl rfl rfl rfl ⟨rfl, rfl, rfl, rfl, rfl⟩ rfl rfl rfl rfl rfl (by kernel_rfl) Try.func4 (by kernel_rfl)
    (of_decide_eq_true (by kernel_rfl)) (by unfold Func.isWrapper; first | (rw [if_pos (by decide +kernel)]; kernel_rfl) | (rw [if_neg (by decide +kernel)]; exact ⟨rfl, rfl⟩))
    (fun os started H enc _ => lifted os started H enc)

/-- ████ THE STATEMENT ████ -/
theorem proved : Rows.FnEveryHalvesWhenIntervalDoublesSaid :=
  over
end Go.Proofs.Qxb6631266a.fnEveryHalvesWhenIntervalDoubles
