/-
  PLAIN MATHEMATICS of the JSON text (no program): bytes as whole numbers.
-/
namespace Go.Proofs.Qxb6631319a.Js

/-- A byte that stands raw. -/
def plain (c : Int) : Bool := decide (32 ≤ c) && (decide (c ≠ 34) && decide (c ≠ 92))
/-- A hex digit, in lower case. -/
def hexD (d : Int) : Int := if d < 10 then 48 + d else 87 + d
/-- The text of one byte. -/
def escB (c : Int) : List Int :=
  if c = 34 ∨ c = 92 then [92, c]
  else if c = 8 then [92, 98]
  else if c = 12 then [92, 102]
  else if c = 10 then [92, 110]
  else if c = 13 then [92, 114]
  else if c = 9 then [92, 116]
  else if c < 32 then [92, 117, 48, 48, hexD (c / 16), hexD (c % 16)]
  else [c]
def esc (l : List Int) : List Int := l.flatMap escB

theorem plain_iff (c : Int) : plain c = true ↔ 32 ≤ c ∧ c ≠ 34 ∧ c ≠ 92 := by unfold plain; simp
theorem escB_plain (c : Int) (h : plain c = true) : escB c = [c] := by
  rw [plain_iff] at h
  unfold escB
  rw [if_neg (by omega), if_neg (by omega), if_neg (by omega), if_neg (by omega), if_neg (by omega), if_neg (by omega), if_neg (by omega)]
theorem escB_quote (c : Int) (h : c = 34 ∨ c = 92) : escB c = [92, c] := by unfold escB; rw [if_pos h]
theorem escB_hex (c : Int) (h : c < 32) (h1 : c ≠ 8) (h2 : c ≠ 12) (h3 : c ≠ 10) (h4 : c ≠ 13) (h5 : c ≠ 9) : escB c = [92, 117, 48, 48, hexD (c / 16), hexD (c % 16)] := by
  unfold escB
  rw [if_neg (by omega), if_neg h1, if_neg h2, if_neg h3, if_neg h4, if_neg h5, if_pos h]
theorem escB_len (c : Int) : 1 ≤ (escB c).length ∧ (escB c).length ≤ 6 ∧ (plain c = false → 2 ≤ (escB c).length) := by
  by_cases hp : plain c = true
  · rw [escB_plain c hp]; simp [hp]
  · have hn : ¬ (32 ≤ c ∧ c ≠ 34 ∧ c ≠ 92) := fun h => hp ((plain_iff c).2 h)
    unfold escB
    split
    · simp
    · split
      · simp
      · split
        · simp
        · split
          · simp
          · split
            · simp
            · split
              · simp
              · split
                · simp
                · omega

theorem esc_nil : esc [] = [] := rfl
theorem esc_append (l m : List Int) : esc (l ++ m) = esc l ++ esc m := by unfold esc; exact List.flatMap_append
theorem esc_one (c : Int) : esc [c] = escB c := by simp [esc]
theorem esc_cons (c : Int) (l : List Int) : esc (c :: l) = escB c ++ esc l := by simp [esc]
theorem esc_len (l : List Int) : l.length ≤ (esc l).length ∧ (esc l).length ≤ 6 * l.length := by
  induction l with
  | nil => simp [esc]
  | cons c l ih =>
    have := escB_len c
    rw [esc_cons, List.length_append, List.length_cons]
    omega

/-- The text is the string itself just where every byte stands raw. -/
theorem esc_same (l : List Int) : decide (esc l = l) = l.all plain := by
  induction l with
  | nil => rfl
  | cons c l ih =>
    rw [esc_cons, List.all_cons]
    by_cases hp : plain c = true
    · rw [escB_plain c hp, hp, Bool.true_and, ← ih]
      simp
    · have hf : plain c = false := by simpa using hp
      rw [hf, Bool.false_and]
      have h1 := (escB_len c).2.2 hf
      have h2 := (esc_len l).1
      refine decide_eq_false fun he => ?_
      have := congrArg List.length he
      rw [List.length_append, List.length_cons] at this
      omega

/-- A string's bytes as whole numbers. -/
def bs (s : ByteArray) : List Int := s.data.toList.map fun b => (b.toNat : Int)
theorem bs_length (s : ByteArray) : (bs s).length = s.size := by unfold bs; rw [List.length_map, Array.length_toList]; rfl
theorem bs_get (s : ByteArray) (k : Nat) (h : k < s.size) : (bs s)[k]'(by rw [bs_length]; exact h) = (s[k].toNat : Int) := by
  simp [bs]; rfl
theorem bs_getD (s : ByteArray) (k : Nat) (h : k < s.size) : (bs s).getD k 0 = (s[k].toNat : Int) := by
  rw [← bs_get s k h, List.getD_eq_getElem?_getD, List.getElem?_eq_getElem (by rw [bs_length]; exact h)]; rfl
theorem bs_bound (s : ByteArray) : ∀ c ∈ bs s, 0 ≤ c ∧ c ≤ 255 := by
  intro c hc
  simp only [bs, List.mem_map] at hc
  obtain ⟨b, _, rfl⟩ := hc
  have := b.toNat_lt
  omega
theorem bs_append (a b : ByteArray) : bs (a ++ b) = bs a ++ bs b := by
  simp [bs]
theorem bs_extract (s : ByteArray) (a b : Nat) : bs (s.extract a b) = ((bs s).take b).drop a := by
  unfold bs
  rw [← List.map_take, ← List.map_drop]
  congr 1
  simp [List.drop_take]
theorem bs_take_snoc (s : ByteArray) (k : Nat) (h : k < s.size) : (bs s).take (k + 1) = (bs s).take k ++ [(s[k].toNat : Int)] := by
  rw [List.take_succ_eq_append_getElem (by rw [bs_length]; exact h), bs_get s k h]

end Go.Proofs.Qxb6631319a.Js
