/-
  PLAIN MATHEMATICS OF 'Pick' (no program): the first place at which something holds.
-/
namespace Go.Proofs.Qxb6632289a.Pk
set_option linter.unusedVariables false

/-- k is the first place below n at which P holds; n where there is none. -/
def First (P : Nat → Prop) (n k : Nat) : Prop := k ≤ n ∧ (∀ j, j < k → ¬ P j) ∧ (k < n → P k)

theorem first_ex (P : Nat → Prop) (n : Nat) : ∃ k, First P n k := by
  induction n with
  | zero => exact ⟨0, Nat.le_refl _, fun j hj => by omega, fun h => by omega⟩
  | succ n ih =>
    obtain ⟨k, h1, h2, h3⟩ := ih
    by_cases hk : k < n
    · exact ⟨k, by omega, h2, fun _ => h3 hk⟩
    · have hkn : k = n := by omega
      subst hkn
      by_cases hP : P k
      · exact ⟨k, by omega, h2, fun _ => hP⟩
      · refine ⟨k + 1, by omega, fun j hj => ?_, fun h => by omega⟩
        by_cases hjk : j = k
        · subst hjk; exact hP
        · exact h2 j (by omega)

theorem first_eq {P : Nat → Prop} {n k j : Nat} (h : First P n k) (h' : First P n j) : k = j := by
  rcases Nat.lt_trichotomy k j with hlt | he | hlt
  · exact absurd (h.2.2 (by have := h'.1; omega)) (h'.2.1 k hlt)
  · exact he
  · exact absurd (h'.2.2 (by have := h.1; omega)) (h.2.1 j hlt)

/-- The element at a place. -/
def el (ss : List ByteArray) (j : Nat) : ByteArray := ss.getD j ByteArray.empty
/-- x stands in ss. -/
def In (ss : List ByteArray) (x : ByteArray) : Prop := ∃ j, j < ss.length ∧ el ss j = x
/-- What zzIndex answers. -/
def ixv (n k : Nat) : Int := if k < n then (k : Int) else -1
theorem ixv_yes {n k : Nat} (h : k < n) : ixv n k = k := by unfold ixv; rw [if_pos h]
theorem ixv_no {n k : Nat} (h : ¬ k < n) : ixv n k = -1 := by unfold ixv; rw [if_neg h]

theorem el_front (a b : List ByteArray) (j : Nat) (h : j < a.length) : el (a ++ b) j = el a j := by
  unfold el; rw [List.getD_eq_getElem?_getD, List.getElem?_append_left h, ← List.getD_eq_getElem?_getD]
theorem el_back (a b : List ByteArray) (j : Nat) : el (a ++ b) (a.length + j) = el b j := by
  unfold el; rw [List.getD_eq_getElem?_getD, List.getElem?_append_right (by omega), Nat.add_sub_cancel_left, ← List.getD_eq_getElem?_getD]
theorem in_append (a b : List ByteArray) (y : ByteArray) : In (a ++ b) y ↔ In a y ∨ In b y := by
  constructor
  · rintro ⟨j, hj, he⟩
    rw [List.length_append] at hj
    by_cases h : j < a.length
    · exact .inl ⟨j, h, by rw [← el_front a b j h]; exact he⟩
    · refine .inr ⟨j - a.length, by omega, ?_⟩
      rw [← el_back a b, show a.length + (j - a.length) = j by omega]; exact he
  · rintro (⟨j, hj, he⟩ | ⟨j, hj, he⟩)
    · exact ⟨j, by rw [List.length_append]; omega, by rw [el_front a b j hj]; exact he⟩
    · exact ⟨a.length + j, by rw [List.length_append]; omega, by rw [el_back]; exact he⟩
theorem in_one (x y : ByteArray) : In [x] y ↔ y = x := by
  constructor
  · rintro ⟨j, hj, he⟩
    simp at hj
    subst hj
    exact he.symm
  · rintro rfl; exact ⟨0, by simp, rfl⟩
/-- One put into a list. -/
theorem in_more (t : List ByteArray) (p : Nat) (x y : ByteArray) : In (t.take p ++ [x] ++ t.drop p) y ↔ In t y ∨ y = x := by
  rw [in_append, in_append, in_one]
  have : In t y ↔ In (t.take p) y ∨ In (t.drop p) y := by rw [← in_append, List.take_append_drop]
  rw [this]
  constructor
  · rintro ((h | h) | h)
    · exact .inl (.inl h)
    · exact .inr h
    · exact .inl (.inr h)
  · rintro ((h | h) | h)
    · exact .inl (.inl h)
    · exact .inr h
    · exact .inl (.inr h)

/-! ### The law 'insert theirs' -/
section
variable {ours theirs more : List ByteArray} {x : ByteArray} {kv kw ix iv : Nat}

/-- x not in ours: the pick is as before. -/
theorem ins_none (hm : ∀ y, In more y ↔ In theirs y ∨ y = x) (hv : First (fun j => In theirs (el ours j)) ours.length kv) (hw : First (fun j => In more (el ours j)) ours.length kw)
    (hx : First (fun j => el ours j = x) ours.length ix) (h : ¬ ix < ours.length) : kw = kv := by
  refine first_eq hw ⟨hv.1, fun j hj hin => ?_, fun hlt => (hm _).2 (.inl (hv.2.2 hlt))⟩
  rcases (hm _).1 hin with h1 | h1
  · exact hv.2.1 j hj h1
  · have h2 := hx.1
    have h3 := hv.1
    exact hx.2.1 j (by omega) h1

/-- The pick's own first place. -/
theorem pick_ix (hv : First (fun j => In theirs (el ours j)) ours.length kv) (h : kv < ours.length) (hi : First (fun j => el ours j = el ours kv) ours.length iv) : iv = kv := by
  refine first_eq hi ⟨hv.1, fun j hj he => ?_, fun _ => rfl⟩
  have h1 : ¬ In theirs (el ours j) := hv.2.1 j hj
  have he' : el ours j = el ours kv := he
  rw [he'] at h1
  exact h1 (hv.2.2 h)

/-- x in ours, the old pick earlier. -/
theorem ins_old (hm : ∀ y, In more y ↔ In theirs y ∨ y = x) (hv : First (fun j => In theirs (el ours j)) ours.length kv) (hw : First (fun j => In more (el ours j)) ours.length kw)
    (hx : First (fun j => el ours j = x) ours.length ix) (h : kv < ix) : kw = kv := by
  refine first_eq hw ⟨hv.1, fun j hj hin => ?_, fun hlt => (hm _).2 (.inl (hv.2.2 hlt))⟩
  rcases (hm _).1 hin with h1 | h1
  · exact hv.2.1 j hj h1
  · exact hx.2.1 j (by omega) h1

/-- x in ours, the old pick not earlier. -/
theorem ins_new (hm : ∀ y, In more y ↔ In theirs y ∨ y = x) (hv : First (fun j => In theirs (el ours j)) ours.length kv) (hw : First (fun j => In more (el ours j)) ours.length kw)
    (hx : First (fun j => el ours j = x) ours.length ix) (hlt : ix < ours.length) (h : ¬ kv < ix) : kw = ix := by
  refine first_eq hw ⟨hx.1, fun j hj hin => ?_, fun hl => (hm _).2 (.inr (hx.2.2 hl))⟩
  rcases (hm _).1 hin with h1 | h1
  · exact hv.2.1 j (by omega) h1
  · exact hx.2.1 j hj h1
end

/-! ### The law 'cut' -/
section
variable {ours theirs : List ByteArray} {k kv ka kb : Nat}
theorem el_take (l : List ByteArray) (k j : Nat) (h : j < k) : el (l.take k) j = el l j := by
  unfold el; rw [List.getD_eq_getElem?_getD, List.getElem?_take, if_pos h, ← List.getD_eq_getElem?_getD]
theorem el_drop (l : List ByteArray) (k j : Nat) : el (l.drop k) j = el l (k + j) := by
  unfold el; rw [List.getD_eq_getElem?_getD, List.getElem?_drop, ← List.getD_eq_getElem?_getD]
/-- The pick of the front. -/
theorem cut_front (hk : k ≤ ours.length) (hv : First (fun j => In theirs (el ours j)) ours.length kv) (ha : First (fun j => In theirs (el (ours.take k) j)) k ka) (h : ka < k) : kv = ka := by
  refine first_eq hv ⟨by omega, fun j hj hin => ?_, fun _ => ?_⟩
  · have : ¬ In theirs (el (ours.take k) j) := ha.2.1 j hj
    rw [el_take _ _ _ (by omega)] at this
    exact this hin
  · have : In theirs (el (ours.take k) ka) := ha.2.2 h
    rw [el_take _ _ _ h] at this
    exact this
/-- Nothing in the front: the pick of the back. -/
theorem cut_back (hk : k ≤ ours.length) (hv : First (fun j => In theirs (el ours j)) ours.length kv) (ha : First (fun j => In theirs (el (ours.take k) j)) k ka) (hb : First (fun j => In theirs (el (ours.drop k) j)) (ours.length - k) kb) (h : ¬ ka < k) : kv = k + kb := by
  have hb1 := hb.1
  have ha1 := ha.1
  refine first_eq hv ⟨by omega, fun j hj hin => ?_, fun hlt => ?_⟩
  · by_cases hjk : j < k
    · have : ¬ In theirs (el (ours.take k) j) := ha.2.1 j (by omega)
      rw [el_take _ _ _ hjk] at this
      exact this hin
    · have : ¬ In theirs (el (ours.drop k) (j - k)) := hb.2.1 (j - k) (by omega)
      rw [el_drop, show k + (j - k) = j by omega] at this
      exact this hin
  · have : In theirs (el (ours.drop k) kb) := hb.2.2 (by omega)
    rw [el_drop] at this
    exact this
end
end Go.Proofs.Qxb6632289a.Pk
