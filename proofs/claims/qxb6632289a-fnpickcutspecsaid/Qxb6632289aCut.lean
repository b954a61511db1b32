/-
  THE WALK OF THE LAW 'cut'.
-/
import Derived.Test.Qxb6632289aBytes
import Derived.Deep.Cut
import Derived.WalkSpells
import Derived.WalkLawsBesides
namespace Go.Proofs.Qxb6632289a
open Go.RowKit Pk
set_option linter.unusedVariables false

theorem own_sl {B : Nat} {a : Option Addr} {n c : Nat} {l : List ByteArray} {w : World} (h : Own B (.slice a n c) l w) : Sl w a n c l := by
  obtain ⟨a', c', he, hs⟩ := h.form
  simp only [Value.slice.injEq] at he
  obtain ⟨rfl, rfl, rfl⟩ := he
  exact hs
/-- The front and the back of a slice. -/
theorem sl_front {w : World} {a : Option Addr} {n c k : Nat} {l : List ByteArray} (h : Sl w a n c l) (hk : k ≤ n) : Sl w a k c (l.take k) := by
  obtain ⟨t1, t2, t3, t4, t5⟩ := h
  refine ⟨by rw [List.length_take]; omega, by omega, t3, t4, fun h0 => ?_⟩
  obtain ⟨b, off, ha, hc⟩ := t5 (by omega)
  exact ⟨b, off, ha, fun i hi => by rw [el_take _ _ _ hi]; exact hc i (by omega)⟩
theorem sl_back {w : World} {a : Option Addr} {n c k : Nat} {l : List ByteArray} (h : Sl w a n c l) (hk : k ≤ n) (hc : ¬ c = k) : Sl w (Option.map (fun x => x.add k) a) (n - k) (c - k) (l.drop k) := by
  obtain ⟨t1, t2, t3, t4, t5⟩ := h
  refine ⟨by rw [List.length_drop]; omega, by omega, by omega, fun h0 => ?_, fun h0 => ?_⟩
  · cases a with
    | none => have := t4 rfl; omega
    | some x => cases h0
  · obtain ⟨b, off, rfl, hcell⟩ := t5 (by omega)
    refine ⟨b, off + k, ?_, fun i hi => ?_⟩
    · have hadd : (⟨b, off, none⟩ : Addr).add k = ⟨b, off + k, none⟩ := by unfold Addr.add; split <;> simp_all
      simp only [Option.map_some, hadd]
    · rw [el_drop, Nat.add_assoc]; exact hcell (k + i) (by omega)
theorem sl_back_some {w : World} {b off : Nat} {n c k : Nat} {l : List ByteArray} (h : Sl w (some ⟨b, off, none⟩) n c l) (hk : k ≤ n) (hc : ¬ c = k) : Sl w (some ⟨b, off + k, none⟩) (n - k) (c - k) (l.drop k) := by
  have := sl_back h hk hc
  have hadd : (⟨b, off, none⟩ : Addr).add k = ⟨b, off + k, none⟩ := by unfold Addr.add; split <;> simp_all
  rwa [Option.map_some, hadd] at this
theorem sl_back0 {w : World} {a : Option Addr} {n c k : Nat} {l : List ByteArray} (h : Sl w a n c l) (hk : k ≤ n) (hn : n = k) : Sl w a (n - k) 0 (l.drop k) := by
  obtain ⟨t1, t2, t3, t4, t5⟩ := h
  exact ⟨by rw [List.length_drop]; omega, by omega, by omega, fun _ => rfl, fun h0 => by omega⟩

set_option maxHeartbeats 4000000 in
set_option maxRecDepth 100000 in
theorem cut_in (a0 : Option Addr) (n c0 : Nat) (os : List ByteArray) (a1 : Option Addr) (n' c1 : Nat) (ts : List ByteArray) (p : Int) (w : World) (h : Sl w a0 n c0 os) (h' : Sl w a1 n' c1 ts)
    (hn : n ≤ 4096) (hn' : n' ≤ 4096) :
    Calls Try.prog 3 #[.slice a0 n c0, .slice a1 n' c1, .int .i64 p] w fun e w' => e = .returned (.bool true) ∧ Below w.heap.size w w' := by
  obtain ⟨i0, hi, hz0, hz1, hz2⟩ := info_parts info9
  have g1 : ¬ 4096 < (n : Int) := by omega
  have g2 : ¬ 4096 < (n' : Int) := by omega
  go_enter Try.func3, Try.ntmps3
  go_upto_if 33 with (go_at_call 5; refine (bytes5_any _ _ _ os _ _ _ ts _ _ h h').mono ?_; rintro e w' ⟨⟨b, rfl⟩, rfl⟩)
  · go_ret
    exact ⟨rfl, Below.refl _ _⟩
  go_cut [0, 7] from 19 (fun s0 s7 wx => ∃ (ao : Option Addr) (co : Nat), s0 = .slice ao n co ∧ Sl wx ao n co os ∧ Below w.heap.size w wx)
  case first =>
    have hs := h
    obtain ⟨l1, l2, l3, l4, l5⟩ := h
    cases a0 with
    | none =>
      have hc : c0 = 0 := l4 rfl
      subst hc
      go_wp2
      go_meet
      case rel => exact ⟨none, 0, rfl, hs, Below.refl _ _⟩
    | some ad =>
      clear l2 l3 l4 l5
      have hM : n ≤ maxLen := by unfold maxLen; omega
      have hsz : (Try.prog.info? 9).map (·.size) = some 1 := by rw [hi]; simp [hz1]
      go_wp2_with (first
        | (at_make; refine wpList_make_full _ rfl (.tmp 35) (.tmp 35) 22 rfl w.heap.size 9 i0 (.string ByteArray.empty) 1 Try.underlying22 hi hz0 hz1 .i64 .i64 _ _ n rfl rfl rfl rfl ?_ hM ?_ ?_; (· rw [hz2]; omega); (· exact Nat.le_refl _); intro w1 hown1 hgrow1; obtain ⟨cur, hcur, hcl⟩ := made_cur hown1; have HC : Hid (w1.heap[w.heap.size]? = some (.cells cur.toArray 9 (0, 0))) := hcur; have hb1 : Below w.heap.size w w1 := (Below.refl _ _).grown hgrow1 (Nat.le_refl _) (fun k hk => by cases hk); clear hown1 hgrow1 hcur)
        | (with_reducible refine at_copy ?_; refine wpList_copy_splice rfl (.tmp 37) (.tmp 38) 22 22 rfl 9 Try.underlying22 hsz _ _ _ _ _ _ rfl rfl w.heap.size 0 cur 9 HC.out (cells os) ?_ ?_ ?_ (cells_one os) w.heap.size w hb1 (Nat.le_refl _) ?_; (· rw [cells_length, l1]; exact (Nat.min_self n).symm); (· intro h0; exact ⟨rfl, ad, rfl, sl_src (hs.below hb1)⟩); (· rw [cells_length]; omega); intro w2 HG hb2))
      go_meet
      case rel => exact ⟨_, _, rfl, own_sl (clone_own rfl l1 hcl hM hb2 HG.out), hb2⟩
  case rest =>
  obtain ⟨ao, co, rfl, hO, k1⟩ := hcut
  obtain ⟨wA, hwA⟩ : ∃ y, y = wc := ⟨_, rfl⟩
  subst hwA
  have hT0 := h'.below k1
  clear h h'
  go_upto_if 42 with fail
  go_cut [1, 8] from 19 (fun s1 s8 wx => ∃ (ai : Option Addr) (ci : Nat), s1 = .slice ai n' ci ∧ Sl wx ai n' ci ts ∧ Below wA.heap.size wA wx)
  case first =>
    have hs := hT0
    obtain ⟨l1, l2, l3, l4, l5⟩ := hT0
    cases a1 with
    | none =>
      have hc : c1 = 0 := l4 rfl
      subst hc
      go_wp2
      go_meet
      case rel => exact ⟨none, 0, rfl, hs, Below.refl _ _⟩
    | some ad =>
      clear l2 l3 l4 l5
      have hM : n' ≤ maxLen := by unfold maxLen; omega
      have hsz : (Try.prog.info? 9).map (·.size) = some 1 := by rw [hi]; simp [hz1]
      go_wp2_with (first
        | (at_make; refine wpList_make_full _ rfl (.tmp 44) (.tmp 44) 22 rfl wA.heap.size 9 i0 (.string ByteArray.empty) 1 Try.underlying22 hi hz0 hz1 .i64 .i64 _ _ n' rfl rfl rfl rfl ?_ hM ?_ ?_; (· rw [hz2]; omega); (· exact Nat.le_refl _); intro w1 hown1 hgrow1; obtain ⟨cur, hcur, hcl⟩ := made_cur hown1; have HC : Hid (w1.heap[wA.heap.size]? = some (.cells cur.toArray 9 (0, 0))) := hcur; have hb1 : Below wA.heap.size wA w1 := (Below.refl _ _).grown hgrow1 (Nat.le_refl _) (fun k hk => by cases hk); clear hown1 hgrow1 hcur)
        | (with_reducible refine at_copy ?_; refine wpList_copy_splice rfl (.tmp 46) (.tmp 47) 22 22 rfl 9 Try.underlying22 hsz _ _ _ _ _ _ rfl rfl wA.heap.size 0 cur 9 HC.out (cells ts) ?_ ?_ ?_ (cells_one ts) wA.heap.size wA hb1 (Nat.le_refl _) ?_; (· rw [cells_length, l1]; exact (Nat.min_self n').symm); (· intro h0; exact ⟨rfl, ad, rfl, sl_src (hs.below hb1)⟩); (· rw [cells_length]; omega); intro w2 HG hb2))
      go_meet
      case rel => exact ⟨_, _, rfl, own_sl (clone_own rfl l1 hcl hM hb2 HG.out), hb2⟩
  case rest =>
  obtain ⟨ai, ci, rfl, hT, k2⟩ := hcut
  obtain ⟨wB, hwB⟩ : ∃ y, y = wc := ⟨_, rfl⟩
  subst hwB
  have hOB := hO.below k2
  have kB : Below w.heap.size w wB := k1.trans (k2.mono k1.size)
  clear hO hT0 k1 k2
  go_upto_if 61 with (go_at_call 6; refine (add_any _ _ _ _ os _ hOB (by omega) (by omega)).mono ?_; rintro e w' ⟨r1, rfl, hr1, rfl⟩; have HR1 : Hid (r1 = -1 ∨ (0 ≤ r1 ∧ r1 ≤ 1048576)) := hr1; clear hr1)
  by_cases hr : r1 < 0
  · go_wp2
    go_ret
    exact ⟨rfl, kB⟩
  have hr1' : 0 ≤ r1 ∧ r1 ≤ 1048576 := by have := HR1.out; omega
  obtain ⟨hra, hrb⟩ := hr1'
  clear HR1
  go_upto_if 66 with (go_at_call 6; refine (add_any _ _ _ _ ts _ hT hra hrb).mono ?_; rintro e w' ⟨r2, rfl, hr2, rfl⟩; clear hr2)
  by_cases hq : r2 < 0
  · go_wp2
    go_ret
    exact ⟨rfl, kB⟩
  clear hra hrb
  by_cases hp1 : p < 0
  · go_wp2
    go_ret
    exact ⟨rfl, kB⟩
  by_cases hp2 : (n : Int) < p
  · go_wp2
    go_ret
    exact ⟨rfl, kB⟩
  obtain ⟨kn, rfl⟩ := Int.eq_ofNat_of_zero_le (show 0 ≤ p by omega)
  have hkn : kn ≤ n := by omega
  have Hos : Hid (os.length = n) := hOB.1
  have Hco : Hid (n ≤ co) := hOB.2.1
  have hkc : kn ≤ co := by have := Hco.out; omega
  obtain ⟨kv, hkv⟩ := first_ex (fun j => In ts (el os j)) n
  obtain ⟨ka, hka⟩ := first_ex (fun j => In ts (el (os.take kn) j)) kn
  obtain ⟨kb, hkb⟩ := first_ex (fun j => In ts (el (os.drop kn) j)) (n - kn)
  have hSa := sl_front hOB hkn
  have F1 : Hid (First (fun j => In ts (el os j)) n kv) := hkv
  have F2 : Hid (First (fun j => In ts (el (os.take kn) j)) kn ka) := hka
  have F3 : Hid (First (fun j => In ts (el (os.drop kn) j)) (n - kn) kb) := hkb
  have B1 : ka < kn → kv = ka := fun h => cut_front (ours := os) (by rw [Hos.out]; exact hkn) (by rw [Hos.out]; exact hkv) hka h
  have B2 : ¬ ka < kn → kv = kn + kb := fun h => cut_back (ours := os) (by rw [Hos.out]; exact hkn) (by rw [Hos.out]; exact hkv) hka (by rw [Hos.out]; exact hkb) h
  have B4 : kv < n → First (fun j => el os j = el os kv) n kv := fun h => by
    obtain ⟨iv, hiv⟩ := first_ex (fun j => el os j = el os kv) n
    have e : iv = kv := pick_ix (ours := os) (by rw [Hos.out]; exact hkv) (by rw [Hos.out]; exact h) (by rw [Hos.out]; exact hiv)
    rw [← e]; rw [e]; rw [e] at hiv; exact hiv
  obtain ⟨VA, HVA⟩ : ∃ V, Hid (V = if ka < kn then el (os.take kn) ka else ⟨#[]⟩) := ⟨_, rfl⟩
  obtain ⟨VB, HVB⟩ : ∃ V, Hid (V = if kb < n - kn then el (os.drop kn) kb else ⟨#[]⟩) := ⟨_, rfl⟩
  clear hkv hka hkb
  by_cases hco : co = kn
  · have hSb : Sl wB ao (n - kn) 0 (os.drop kn) := sl_back0 hOB hkn (by have := Hco.out; omega)
    have hco' := hco.symm
    clear hco
    subst hco'
    by_cases e2 : ka < kn
    · have ekv := B1 e2
      have e1 : kv < n := by omega
      have HJ : Hid (ixv n kv = (kv : Int)) := ixv_yes e1
      have hj0 : ¬ (kv : Int) < 0 := by omega
      obtain ⟨V, HV⟩ : ∃ V, Hid (V = el os kv) := ⟨_, rfl⟩
      have HIN : Hid (In ts V) := by show In ts V; rw [HV.out]; exact F1.out.2.2 e1
      have F4 : Hid (First (fun j => el os j = V) n kv) := by rw [HV.out]; exact B4 e1
      have HA : Hid (V = if ka < kn then el (os.take kn) ka else ⟨#[]⟩) := by show _ = _; rw [if_pos e2, HV.out, el_take _ _ _ e2, ekv]
      have HV' : Hid (V = if kv < n then el os kv else ⟨#[]⟩) := by show _ = _; rw [if_pos e1]; exact HV.out
      clear B1 B2 B4 ekv HVA
      go_wp2_with (first
        | (go_at_call 7; with_reducible refine Calls.mono (pick_any ao n kn kv os ai n' ci ts _ hOB hT F1.out V HV'.out) ?_; rintro e w' ⟨rfl, rfl⟩)
        | (go_at_call 7; with_reducible refine Calls.mono (pick_any ao kn kn ka (os.take kn) ai n' ci ts _ hSa hT F2.out V HA.out) ?_; rintro e w' ⟨rfl, rfl⟩)
        | (go_at_call 7; with_reducible refine Calls.mono (pick_any _ (n - kn) _ kb (os.drop kn) ai n' ci ts _ hSb hT F3.out VB HVB.out) ?_; rintro e w' ⟨rfl, rfl⟩)
        | (go_at_call 8; refine (zzin_yes _ _ _ ts V _ hT HIN.out).mono ?_; rintro e w' ⟨rfl, rfl⟩)
        | (go_at_call 9; refine (zzindex_any ao n kn kv os V _ hOB F4.out).mono ?_; rintro e w' ⟨rfl, rfl⟩; rw [HJ.out]))
      go_loop [18] (fun i => ∃ j : Nat, j ≤ kv ∧ i = .int .i64 j) (fun i => kv - (intOf i).toNat)
      case atStart => exact ⟨0, Nat.zero_le _, rfl⟩
      case round =>
        obtain ⟨j, hj, rfl⟩ := hrel
        by_cases hjk : j < kv
        · obtain ⟨b, off, rfl, hc⟩ := hOB.2.2.2.2 (by omega)
          obtain ⟨y, hy, HY⟩ : ∃ y : ByteArray, wB.cell? ⟨b, off + j, none⟩ = some (.string y) ∧ Hid (el os j = y) := ⟨_, hc j (by omega), rfl⟩
          have hji : (j : Int) < (kv : Int) := by omega
          have hjn : (j : Int) < (n : Int) := by omega
          have hno : ¬ In ts y := by rw [← HY.out]; exact F1.out.2.1 j hjk
          clear hc
          go_wp2_with (go_at_call 8; refine (zzin_no _ _ _ ts y _ hT hno).mono ?_; rintro e w' ⟨rfl, rfl⟩)
          go_round
          case rel => exact ⟨j + 1, by omega, by go_num⟩
          case measure => simp [intOf]; omega
        · have hji : ¬ (j : Int) < (kv : Int) := by omega
          go_wp2
          go_ret
          exact ⟨rfl, kB⟩
    have ekv := B2 e2
    by_cases e3 : kb < n - kn
    · have e1 : kv < n := by omega
      have HJ : Hid (ixv n kv = (kv : Int)) := ixv_yes e1
      have hj0 : ¬ (kv : Int) < 0 := by omega
      obtain ⟨V, HV⟩ : ∃ V, Hid (V = el os kv) := ⟨_, rfl⟩
      have HIN : Hid (In ts V) := by show In ts V; rw [HV.out]; exact F1.out.2.2 e1
      have F4 : Hid (First (fun j => el os j = V) n kv) := by rw [HV.out]; exact B4 e1
      have HB : Hid (V = if kb < n - kn then el (os.drop kn) kb else ⟨#[]⟩) := by show _ = _; rw [if_pos e3, HV.out, el_drop, ekv]
      have HV' : Hid (V = if kv < n then el os kv else ⟨#[]⟩) := by show _ = _; rw [if_pos e1]; exact HV.out
      clear B1 B2 B4 ekv HVB
      go_wp2_with (first
        | (go_at_call 7; with_reducible refine Calls.mono (pick_any ao n kn kv os ai n' ci ts _ hOB hT F1.out V HV'.out) ?_; rintro e w' ⟨rfl, rfl⟩)
        | (go_at_call 7; with_reducible refine Calls.mono (pick_any ao kn kn ka (os.take kn) ai n' ci ts _ hSa hT F2.out VA HVA.out) ?_; rintro e w' ⟨rfl, rfl⟩)
        | (go_at_call 7; with_reducible refine Calls.mono (pick_any _ (n - kn) _ kb (os.drop kn) ai n' ci ts _ hSb hT F3.out V HB.out) ?_; rintro e w' ⟨rfl, rfl⟩)
        | (go_at_call 8; refine (zzin_yes _ _ _ ts V _ hT HIN.out).mono ?_; rintro e w' ⟨rfl, rfl⟩)
        | (go_at_call 9; refine (zzindex_any ao n kn kv os V _ hOB F4.out).mono ?_; rintro e w' ⟨rfl, rfl⟩; rw [HJ.out]))
      go_loop [18] (fun i => ∃ j : Nat, j ≤ kv ∧ i = .int .i64 j) (fun i => kv - (intOf i).toNat)
      case atStart => exact ⟨0, Nat.zero_le _, rfl⟩
      case round =>
        obtain ⟨j, hj, rfl⟩ := hrel
        by_cases hjk : j < kv
        · obtain ⟨b, off, rfl, hc⟩ := hOB.2.2.2.2 (by omega)
          obtain ⟨y, hy, HY⟩ : ∃ y : ByteArray, wB.cell? ⟨b, off + j, none⟩ = some (.string y) ∧ Hid (el os j = y) := ⟨_, hc j (by omega), rfl⟩
          have hji : (j : Int) < (kv : Int) := by omega
          have hjn : (j : Int) < (n : Int) := by omega
          have hno : ¬ In ts y := by rw [← HY.out]; exact F1.out.2.1 j hjk
          clear hc
          go_wp2_with (go_at_call 8; refine (zzin_no _ _ _ ts y _ hT hno).mono ?_; rintro e w' ⟨rfl, rfl⟩)
          go_round
          case rel => exact ⟨j + 1, by omega, by go_num⟩
          case measure => simp [intOf]; omega
        · have hji : ¬ (j : Int) < (kv : Int) := by omega
          go_wp2
          go_ret
          exact ⟨rfl, kB⟩
    have e1 : ¬ kv < n := by have := F3.out.1; have := F1.out.1; omega
    have hkvn : n ≤ kv := by omega
    clear B1 B2 B4 ekv
    go_wp2_with (first
      | (go_at_call 7; with_reducible refine Calls.mono (pick_any ao n kn kv os ai n' ci ts _ hOB hT F1.out ⟨#[]⟩ (by rw [if_neg e1])) ?_; rintro e w' ⟨rfl, rfl⟩)
      | (go_at_call 7; with_reducible refine Calls.mono (pick_any ao kn kn ka (os.take kn) ai n' ci ts _ hSa hT F2.out VA HVA.out) ?_; rintro e w' ⟨rfl, rfl⟩)
      | (go_at_call 7; with_reducible refine Calls.mono (pick_any _ (n - kn) _ kb (os.drop kn) ai n' ci ts _ hSb hT F3.out VB HVB.out) ?_; rintro e w' ⟨rfl, rfl⟩))
    go_loop [16] (fun i => ∃ j : Nat, j ≤ n ∧ i = .int .i64 j) (fun i => n - (intOf i).toNat)
    case atStart => exact ⟨0, Nat.zero_le _, rfl⟩
    case round =>
      obtain ⟨j, hj, rfl⟩ := hrel
      by_cases hjk : j < n
      · obtain ⟨b, off, rfl, hc⟩ := hOB.2.2.2.2 (by omega)
        obtain ⟨y, hy, HY⟩ : ∃ y : ByteArray, wB.cell? ⟨b, off + j, none⟩ = some (.string y) ∧ Hid (el os j = y) := ⟨_, hc j (by omega), rfl⟩
        have hji : (j : Int) < (n : Int) := by omega
        have hno : ¬ In ts y := by rw [← HY.out]; exact F1.out.2.1 j (by omega)
        clear hc
        go_wp2_with (go_at_call 8; refine (zzin_no _ _ _ ts y _ hT hno).mono ?_; rintro e w' ⟨rfl, rfl⟩)
        go_round
        case rel => exact ⟨j + 1, by omega, by go_num⟩
        case measure => simp [intOf]; omega
      · have hji : ¬ (j : Int) < (n : Int) := by omega
        go_wp2
        go_ret
        exact ⟨rfl, kB⟩
  · by_cases hn0 : 0 < n
    · obtain ⟨b, off, rfl, hc0⟩ := hOB.2.2.2.2 hn0
      have HC : Hid (∀ i, i < n → wB.cell? ⟨b, off + i, none⟩ = some (.string (el os i))) := hc0
      have hSb := sl_back_some hOB hkn hco
      clear hc0
      by_cases e2 : ka < kn
      · have ekv := B1 e2
        have e1 : kv < n := by omega
        have HJ : Hid (ixv n kv = (kv : Int)) := ixv_yes e1
        have hj0 : ¬ (kv : Int) < 0 := by omega
        obtain ⟨V, HV⟩ : ∃ V, Hid (V = el os kv) := ⟨_, rfl⟩
        have HIN : Hid (In ts V) := by show In ts V; rw [HV.out]; exact F1.out.2.2 e1
        have F4 : Hid (First (fun j => el os j = V) n kv) := by rw [HV.out]; exact B4 e1
        have HA : Hid (V = if ka < kn then el (os.take kn) ka else ⟨#[]⟩) := by show _ = _; rw [if_pos e2, HV.out, el_take _ _ _ e2, ekv]
        have HV' : Hid (V = if kv < n then el os kv else ⟨#[]⟩) := by show _ = _; rw [if_pos e1]; exact HV.out
        clear B1 B2 B4 ekv HVA
        go_wp2_with (first
          | (go_at_call 7; with_reducible refine Calls.mono (pick_any (some ⟨b, off, none⟩) n co kv os ai n' ci ts _ hOB hT F1.out V HV'.out) ?_; rintro e w' ⟨rfl, rfl⟩)
          | (go_at_call 7; with_reducible refine Calls.mono (pick_any (some ⟨b, off, none⟩) kn co ka (os.take kn) ai n' ci ts _ hSa hT F2.out V HA.out) ?_; rintro e w' ⟨rfl, rfl⟩)
          | (go_at_call 7; with_reducible refine Calls.mono (pick_any _ (n - kn) _ kb (os.drop kn) ai n' ci ts _ hSb hT F3.out VB HVB.out) ?_; rintro e w' ⟨rfl, rfl⟩)
          | (go_at_call 8; refine (zzin_yes _ _ _ ts V _ hT HIN.out).mono ?_; rintro e w' ⟨rfl, rfl⟩)
          | (go_at_call 9; refine (zzindex_any (some ⟨b, off, none⟩) n co kv os V _ hOB F4.out).mono ?_; rintro e w' ⟨rfl, rfl⟩; rw [HJ.out]))
        go_loop [18] (fun i => ∃ j : Nat, j ≤ kv ∧ i = .int .i64 j) (fun i => kv - (intOf i).toNat)
        case atStart => exact ⟨0, Nat.zero_le _, rfl⟩
        case round =>
          obtain ⟨j, hj, rfl⟩ := hrel
          by_cases hjk : j < kv
          · have hc := HC.out
            obtain ⟨y, hy, HY⟩ : ∃ y : ByteArray, wB.cell? ⟨b, off + j, none⟩ = some (.string y) ∧ Hid (el os j = y) := ⟨_, hc j (by omega), rfl⟩
            have hji : (j : Int) < (kv : Int) := by omega
            have hjn : (j : Int) < (n : Int) := by omega
            have hno : ¬ In ts y := by rw [← HY.out]; exact F1.out.2.1 j hjk
            clear hc
            go_wp2_with (go_at_call 8; refine (zzin_no _ _ _ ts y _ hT hno).mono ?_; rintro e w' ⟨rfl, rfl⟩)
            go_round
            case rel => exact ⟨j + 1, by omega, by go_num⟩
            case measure => simp [intOf]; omega
          · have hji : ¬ (j : Int) < (kv : Int) := by omega
            go_wp2
            go_ret
            exact ⟨rfl, kB⟩
      have ekv := B2 e2
      by_cases e3 : kb < n - kn
      · have e1 : kv < n := by omega
        have HJ : Hid (ixv n kv = (kv : Int)) := ixv_yes e1
        have hj0 : ¬ (kv : Int) < 0 := by omega
        obtain ⟨V, HV⟩ : ∃ V, Hid (V = el os kv) := ⟨_, rfl⟩
        have HIN : Hid (In ts V) := by show In ts V; rw [HV.out]; exact F1.out.2.2 e1
        have F4 : Hid (First (fun j => el os j = V) n kv) := by rw [HV.out]; exact B4 e1
        have HB : Hid (V = if kb < n - kn then el (os.drop kn) kb else ⟨#[]⟩) := by show _ = _; rw [if_pos e3, HV.out, el_drop, ekv]
        have HV' : Hid (V = if kv < n then el os kv else ⟨#[]⟩) := by show _ = _; rw [if_pos e1]; exact HV.out
        clear B1 B2 B4 ekv HVB
        go_wp2_with (first
          | (go_at_call 7; with_reducible refine Calls.mono (pick_any (some ⟨b, off, none⟩) n co kv os ai n' ci ts _ hOB hT F1.out V HV'.out) ?_; rintro e w' ⟨rfl, rfl⟩)
          | (go_at_call 7; with_reducible refine Calls.mono (pick_any (some ⟨b, off, none⟩) kn co ka (os.take kn) ai n' ci ts _ hSa hT F2.out VA HVA.out) ?_; rintro e w' ⟨rfl, rfl⟩)
          | (go_at_call 7; with_reducible refine Calls.mono (pick_any _ (n - kn) _ kb (os.drop kn) ai n' ci ts _ hSb hT F3.out V HB.out) ?_; rintro e w' ⟨rfl, rfl⟩)
          | (go_at_call 8; refine (zzin_yes _ _ _ ts V _ hT HIN.out).mono ?_; rintro e w' ⟨rfl, rfl⟩)
          | (go_at_call 9; refine (zzindex_any (some ⟨b, off, none⟩) n co kv os V _ hOB F4.out).mono ?_; rintro e w' ⟨rfl, rfl⟩; rw [HJ.out]))
        go_loop [18] (fun i => ∃ j : Nat, j ≤ kv ∧ i = .int .i64 j) (fun i => kv - (intOf i).toNat)
        case atStart => exact ⟨0, Nat.zero_le _, rfl⟩
        case round =>
          obtain ⟨j, hj, rfl⟩ := hrel
          by_cases hjk : j < kv
          · have hc := HC.out
            obtain ⟨y, hy, HY⟩ : ∃ y : ByteArray, wB.cell? ⟨b, off + j, none⟩ = some (.string y) ∧ Hid (el os j = y) := ⟨_, hc j (by omega), rfl⟩
            have hji : (j : Int) < (kv : Int) := by omega
            have hjn : (j : Int) < (n : Int) := by omega
            have hno : ¬ In ts y := by rw [← HY.out]; exact F1.out.2.1 j hjk
            clear hc
            go_wp2_with (go_at_call 8; refine (zzin_no _ _ _ ts y _ hT hno).mono ?_; rintro e w' ⟨rfl, rfl⟩)
            go_round
            case rel => exact ⟨j + 1, by omega, by go_num⟩
            case measure => simp [intOf]; omega
          · have hji : ¬ (j : Int) < (kv : Int) := by omega
            go_wp2
            go_ret
            exact ⟨rfl, kB⟩
      have e1 : ¬ kv < n := by have := F3.out.1; have := F1.out.1; omega
      have hkvn : n ≤ kv := by omega
      clear B1 B2 B4 ekv
      go_wp2_with (first
        | (go_at_call 7; with_reducible refine Calls.mono (pick_any (some ⟨b, off, none⟩) n co kv os ai n' ci ts _ hOB hT F1.out ⟨#[]⟩ (by rw [if_neg e1])) ?_; rintro e w' ⟨rfl, rfl⟩)
        | (go_at_call 7; with_reducible refine Calls.mono (pick_any (some ⟨b, off, none⟩) kn co ka (os.take kn) ai n' ci ts _ hSa hT F2.out VA HVA.out) ?_; rintro e w' ⟨rfl, rfl⟩)
        | (go_at_call 7; with_reducible refine Calls.mono (pick_any _ (n - kn) _ kb (os.drop kn) ai n' ci ts _ hSb hT F3.out VB HVB.out) ?_; rintro e w' ⟨rfl, rfl⟩))
      go_loop [16] (fun i => ∃ j : Nat, j ≤ n ∧ i = .int .i64 j) (fun i => n - (intOf i).toNat)
      case atStart => exact ⟨0, Nat.zero_le _, rfl⟩
      case round =>
        obtain ⟨j, hj, rfl⟩ := hrel
        by_cases hjk : j < n
        · have hc := HC.out
          obtain ⟨y, hy, HY⟩ : ∃ y : ByteArray, wB.cell? ⟨b, off + j, none⟩ = some (.string y) ∧ Hid (el os j = y) := ⟨_, hc j (by omega), rfl⟩
          have hji : (j : Int) < (n : Int) := by omega
          have hno : ¬ In ts y := by rw [← HY.out]; exact F1.out.2.1 j (by omega)
          clear hc
          go_wp2_with (go_at_call 8; refine (zzin_no _ _ _ ts y _ hT hno).mono ?_; rintro e w' ⟨rfl, rfl⟩)
          go_round
          case rel => exact ⟨j + 1, by omega, by go_num⟩
          case measure => simp [intOf]; omega
        · have hji : ¬ (j : Int) < (n : Int) := by omega
          go_wp2
          go_ret
          exact ⟨rfl, kB⟩
    · have hSb := sl_back hOB hkn hco
      have e2 : ¬ ka < kn := by omega
      have e1 : ¬ kv < n := by omega
      have e3 : ¬ kb < n - kn := by omega
      clear B1 B2 B4
      go_wp2_with (first
        | (go_at_call 7; with_reducible refine Calls.mono (pick_any ao n co kv os ai n' ci ts _ hOB hT F1.out ⟨#[]⟩ (by rw [if_neg e1])) ?_; rintro e w' ⟨rfl, rfl⟩)
        | (go_at_call 7; with_reducible refine Calls.mono (pick_any ao kn co ka (os.take kn) ai n' ci ts _ hSa hT F2.out VA HVA.out) ?_; rintro e w' ⟨rfl, rfl⟩)
        | (go_at_call 7; with_reducible refine Calls.mono (pick_any _ (n - kn) _ kb (os.drop kn) ai n' ci ts _ hSb hT F3.out VB HVB.out) ?_; rintro e w' ⟨rfl, rfl⟩))
      go_loop [16] (fun i => ∃ j : Nat, j ≤ n ∧ i = .int .i64 j) (fun i => n - (intOf i).toNat)
      case atStart => exact ⟨0, Nat.zero_le _, rfl⟩
      case round =>
        obtain ⟨j, hj, rfl⟩ := hrel
        have hji : ¬ (j : Int) < (n : Int) := by omega
        go_wp2
        go_ret
        exact ⟨rfl, kB⟩

set_option maxHeartbeats 1000000 in
set_option maxRecDepth 100000 in
theorem cut_big (a0 : Option Addr) (n c0 : Nat) (os : List ByteArray) (a1 : Option Addr) (n' c1 : Nat) (ts : List ByteArray) (p : Int) (w : World) (h : Sl w a0 n c0 os) (h' : Sl w a1 n' c1 ts)
    (hb : 4096 < n ∨ 4096 < n') :
    Calls Try.prog 3 #[.slice a0 n c0, .slice a1 n' c1, .int .i64 p] w fun e w' => e = .returned (.bool true) ∧ Below w.heap.size w w' := by
  by_cases hb2 : 4096 < (n : Int)
  · go_enter Try.func3, Try.ntmps3
    go_wp2_with (go_at_call 5; refine (bytes5_any _ _ _ os _ _ _ ts _ _ h h').mono ?_; rintro e w' ⟨⟨b, rfl⟩, rfl⟩)
    all_goals (go_ret; exact ⟨rfl, Below.refl _ _⟩)
  · have g1 : 4096 < (n' : Int) := by omega
    clear hb
    go_enter Try.func3, Try.ntmps3
    go_wp2_with (go_at_call 5; refine (bytes5_any _ _ _ os _ _ _ ts _ _ h h').mono ?_; rintro e w' ⟨⟨b, rfl⟩, rfl⟩)
    all_goals (go_ret; exact ⟨rfl, Below.refl _ _⟩)

theorem cut_any (a0 : Option Addr) (n c0 : Nat) (os : List ByteArray) (a1 : Option Addr) (n' c1 : Nat) (ts : List ByteArray) (p : Int) (w : World) (h : Sl w a0 n c0 os) (h' : Sl w a1 n' c1 ts) :
    Calls Try.prog 3 #[.slice a0 n c0, .slice a1 n' c1, .int .i64 p] w fun e w' => e = .returned (.bool true) ∧ Below w.heap.size w w' := by
  by_cases hb : 4096 < n ∨ 4096 < n'
  · exact cut_big a0 n c0 os a1 n' c1 ts p w h h' hb
  · exact cut_in a0 n c0 os a1 n' c1 ts p w h h' (by omega) (by omega)
end Go.Proofs.Qxb6632289a
