/-
  THE WALK OF THE LAW 'insert theirs'.
-/
import Derived.Test.Qxb6632289aBytes
import Derived.Deep.Cut
import Derived.WalkSpells
import Derived.WalkLawsBesides
namespace Go.Proofs.Qxb6632289a
open Go.RowKit Pk
set_option linter.unusedVariables false

theorem take_next (l : List ByteArray) (k : Nat) (c : ByteArray) (hk : k < l.length) (hc : el l k = c) : l.take (k + 1) = l.take k ++ [c] := by
  unfold el at hc
  rw [List.take_succ_eq_append_getElem hk, ← hc, List.getD_eq_getElem?_getD, List.getElem?_eq_getElem hk]; rfl
theorem drop_take_self (l : List ByteArray) (j : Nat) : (l.take j).drop j = [] := List.drop_of_length_le (by rw [List.length_take]; omega)
theorem more_next (l : List ByteArray) (j q : Nat) (x y : ByteArray) (hj : j ≤ q) (hq : q < l.length) (hy : el l q = y) : (l.take j ++ [x]) ++ (l.take (q + 1)).drop j = ((l.take j ++ [x]) ++ (l.take q).drop j) ++ [y] := by
  rw [take_next l q y hq hy, List.drop_append_of_le_length (by rw [List.length_take]; omega), List.append_assoc (l.take j ++ [x])]
theorem own_sl {B : Nat} {a : Option Addr} {n c : Nat} {l : List ByteArray} {w : World} (h : Own B (.slice a n c) l w) : Sl w a n c l := by
  obtain ⟨a', c', he, hs⟩ := h.form
  simp only [Value.slice.injEq] at he
  obtain ⟨rfl, rfl, rfl⟩ := he
  exact hs

set_option maxHeartbeats 4000000 in
set_option maxRecDepth 100000 in
theorem insert_in (a0 : Option Addr) (n c0 : Nat) (os : List ByteArray) (a1 : Option Addr) (n' c1 : Nat) (ts : List ByteArray) (x : ByteArray) (p : Int) (w : World) (h : Sl w a0 n c0 os) (h' : Sl w a1 n' c1 ts)
    (hn : n ≤ 4096) (hn' : n' ≤ 4096) (hx : x.size ≤ 9223372036854775807) :
    Calls Try.prog 4 #[.slice a0 n c0, .slice a1 n' c1, .string x, .int .i64 p] w fun e w' => e = .returned (.bool true) ∧ Below w.heap.size w w' := by
  obtain ⟨i0, hi, hz0, hz1, hz2⟩ := info_parts info9
  have g1 : ¬ 4096 < (n : Int) := by omega
  have g2 : ¬ 4096 < (n' : Int) := by omega
  go_enter Try.func4, Try.ntmps4
  go_upto_if 36 with (go_at_call 10; refine (bytes10_any _ _ _ os _ _ _ ts _ _ _ h h').mono ?_; rintro e w' ⟨⟨b, rfl⟩, rfl⟩)
  · go_ret
    exact ⟨rfl, Below.refl _ _⟩
  go_cut [0, 9] from 21 (fun s0 s9 wx => ∃ (ao : Option Addr) (co : Nat), s0 = .slice ao n co ∧ Sl wx ao n co os ∧ Below w.heap.size w wx)
  case first =>
    have hs := h
    obtain ⟨l1, l2, l3, l4, l5⟩ := h
    cases a0 with
    | none =>
      have hc : c0 = 0 := l4 rfl
      subst hc
      go_wp2
      go_meet
      case rel => exact ⟨none, 0, rfl, hs, Below.refl _ _⟩
    | some ad =>
      clear l2 l3 l4 l5
      have hM : n ≤ maxLen := by unfold maxLen; omega
      have hsz : (Try.prog.info? 9).map (·.size) = some 1 := by rw [hi]; simp [hz1]
      go_wp2_with (first
        | (at_make; refine wpList_make_full _ rfl (.tmp 38) (.tmp 38) 22 rfl w.heap.size 9 i0 (.string ByteArray.empty) 1 Try.underlying22 hi hz0 hz1 .i64 .i64 _ _ n rfl rfl rfl rfl ?_ hM ?_ ?_; (· rw [hz2]; omega); (· exact Nat.le_refl _); intro w1 hown1 hgrow1; obtain ⟨cur, hcur, hcl⟩ := made_cur hown1; have HC : Hid (w1.heap[w.heap.size]? = some (.cells cur.toArray 9 (0, 0))) := hcur; have hb1 : Below w.heap.size w w1 := (Below.refl _ _).grown hgrow1 (Nat.le_refl _) (fun k hk => by cases hk); clear hown1 hgrow1 hcur)
        | (with_reducible refine at_copy ?_; refine wpList_copy_splice rfl (.tmp 40) (.tmp 41) 22 22 rfl 9 Try.underlying22 hsz _ _ _ _ _ _ rfl rfl w.heap.size 0 cur 9 HC.out (cells os) ?_ ?_ ?_ (cells_one os) w.heap.size w hb1 (Nat.le_refl _) ?_; (· rw [cells_length, l1]; exact (Nat.min_self n).symm); (· intro h0; exact ⟨rfl, ad, rfl, sl_src (hs.below hb1)⟩); (· rw [cells_length]; omega); intro w2 HG hb2))
      go_meet
      case rel => exact ⟨_, _, rfl, own_sl (clone_own rfl l1 hcl hM hb2 HG.out), hb2⟩
  case rest =>
  obtain ⟨ao, co, rfl, hO, k1⟩ := hcut
  obtain ⟨wA, hwA⟩ : ∃ y, y = wc := ⟨_, rfl⟩
  subst hwA
  have hT0 := h'.below k1
  clear h h'
  go_upto_if 45 with fail
  go_cut [1, 10] from 21 (fun s1 s10 wx => ∃ (ai : Option Addr) (ci : Nat), s1 = .slice ai n' ci ∧ Sl wx ai n' ci ts ∧ Below wA.heap.size wA wx)
  case first =>
    have hs := hT0
    obtain ⟨l1, l2, l3, l4, l5⟩ := hT0
    cases a1 with
    | none =>
      have hc : c1 = 0 := l4 rfl
      subst hc
      go_wp2
      go_meet
      case rel => exact ⟨none, 0, rfl, hs, Below.refl _ _⟩
    | some ad =>
      clear l2 l3 l4 l5
      have hM : n' ≤ maxLen := by unfold maxLen; omega
      have hsz : (Try.prog.info? 9).map (·.size) = some 1 := by rw [hi]; simp [hz1]
      go_wp2_with (first
        | (at_make; refine wpList_make_full _ rfl (.tmp 47) (.tmp 47) 22 rfl wA.heap.size 9 i0 (.string ByteArray.empty) 1 Try.underlying22 hi hz0 hz1 .i64 .i64 _ _ n' rfl rfl rfl rfl ?_ hM ?_ ?_; (· rw [hz2]; omega); (· exact Nat.le_refl _); intro w1 hown1 hgrow1; obtain ⟨cur, hcur, hcl⟩ := made_cur hown1; have HC : Hid (w1.heap[wA.heap.size]? = some (.cells cur.toArray 9 (0, 0))) := hcur; have hb1 : Below wA.heap.size wA w1 := (Below.refl _ _).grown hgrow1 (Nat.le_refl _) (fun k hk => by cases hk); clear hown1 hgrow1 hcur)
        | (with_reducible refine at_copy ?_; refine wpList_copy_splice rfl (.tmp 49) (.tmp 50) 22 22 rfl 9 Try.underlying22 hsz _ _ _ _ _ _ rfl rfl wA.heap.size 0 cur 9 HC.out (cells ts) ?_ ?_ ?_ (cells_one ts) wA.heap.size wA hb1 (Nat.le_refl _) ?_; (· rw [cells_length, l1]; exact (Nat.min_self n').symm); (· intro h0; exact ⟨rfl, ad, rfl, sl_src (hs.below hb1)⟩); (· rw [cells_length]; omega); intro w2 HG hb2))
      go_meet
      case rel => exact ⟨_, _, rfl, own_sl (clone_own rfl l1 hcl hM hb2 HG.out), hb2⟩
  case rest =>
  obtain ⟨ai, ci, rfl, hT, k2⟩ := hcut
  obtain ⟨wB, hwB⟩ : ∃ y, y = wc := ⟨_, rfl⟩
  subst hwB
  have hOB := hO.below k2
  have kB : Below w.heap.size w wB := k1.trans (k2.mono k1.size)
  clear hO hT0 k1 k2
  by_cases hxs : 1048576 - (16 * (n : Int) + 16 * (n' : Int) + 16) < (x.size : Int)
  · go_wp2
    go_ret
    exact ⟨rfl, kB⟩
  have hxs' : (x.size : Int) ≤ 1048576 - (16 * (n : Int) + 16 * (n' : Int) + 16) := by omega
  go_upto_if 74 with (go_at_call 6; refine (add_any _ _ _ _ os _ hOB (by omega) (by omega)).mono ?_; rintro e w' ⟨r1, rfl, hr1, rfl⟩; have HR1 : Hid (r1 = -1 ∨ (0 ≤ r1 ∧ r1 ≤ 1048576)) := hr1; clear hr1)
  clear hxs hxs'
  by_cases hr : r1 < 0
  · go_wp2
    go_ret
    exact ⟨rfl, kB⟩
  have hr1' : 0 ≤ r1 ∧ r1 ≤ 1048576 := by have := HR1.out; omega
  obtain ⟨hra, hrb⟩ := hr1'
  clear HR1
  go_upto_if 79 with (go_at_call 6; refine (add_any _ _ _ _ ts _ hT hra hrb).mono ?_; rintro e w' ⟨r2, rfl, hr2, rfl⟩; clear hr2)
  by_cases hq : r2 < 0
  · go_wp2
    go_ret
    exact ⟨rfl, kB⟩
  clear hra hrb
  by_cases hp1 : p < 0
  · go_wp2
    go_ret
    exact ⟨rfl, kB⟩
  by_cases hp2 : (n' : Int) < p
  · go_wp2
    go_ret
    exact ⟨rfl, kB⟩
  obtain ⟨pn, rfl⟩ := Int.eq_ofNat_of_zero_le (show 0 ≤ p by omega)
  have hpn : pn ≤ n' := by omega
  obtain ⟨kv, hkv⟩ := first_ex (fun j => In ts (el os j)) n
  obtain ⟨ix, hix⟩ := first_ex (fun j => el os j = x) n
  have hts : ts.length = n' := hT.1
  have hos : os.length = n := hOB.1
  have Hos : Hid (os.length = n) := hos
  have Hts : Hid (ts.length = n') := hts
  clear hos hts
  go_wp2_with (at_make; refine wpList_make_own _ rfl _ _ 22 rfl wB.heap.size 9 i0 (.string ByteArray.empty) 1 Try.underlying22 hi hz0 hz1 .i64 .i64 _ (n' + 1) rfl rfl ?_ ?_ ?_ (Nat.le_refl _) ?_; (· omega); (· rw [hz2]; omega); (· unfold maxLen; omega); intro w3 hown3 hgrow3; have ho3 : Own wB.heap.size _ [] w3 := ⟨hown3, hgrow3.size⟩; have b3 : Below wB.heap.size wB w3 := (Below.refl _ _).grown hgrow3 (Nat.le_refl _) (fun k hk => by cases hk); clear hown3 hgrow3)
  go_loopw [12, 13] (fun v i wr => ∃ j : Nat, j ≤ pn ∧ i = .int .i64 j ∧ Own wB.heap.size v (ts.take j) wr ∧ Below wB.heap.size wB wr) (fun _ i _ => pn - (intOf i).toNat)
  case atStart => exact ⟨0, Nat.zero_le _, rfl, ho3, b3⟩
  case round =>
    obtain ⟨j, hj, rfl, hcur, bcur⟩ := hrel
    by_cases hjp : j < pn
    · obtain ⟨b, off, rfl, hc⟩ := (hT.below bcur).2.2.2.2 (by omega)
      obtain ⟨y, hy, HY⟩ : ∃ y : ByteArray, wr.cell? ⟨b, off + j, none⟩ = some (.string y) ∧ Hid (el ts j = y) := ⟨_, hc j (by omega), rfl⟩
      have hji : (j : Int) < (pn : Int) := by omega
      have hjn : (j : Int) < (n' : Int) := by omega
      clear hc
      go_wp2_with (at_builtin; refine law_new rfl (.tmp 97) (.tmp 102) rfl wB.heap.size _ _ rfl _ hcur y rfl rfl ?_ ?_; (· rw [List.length_take]; omega); intro v4 w4 ho4 b4)
      go_roundw
      case rel => exact ⟨j + 1, by omega, by go_num, by rw [take_next ts j y (by have := Hts.out; omega) HY.out]; exact ho4, bcur.trans b4⟩
      case measure => simp [intOf]; omega
    · have hje : j = pn := by omega
      subst hje
      have hji : ¬ (j : Int) < (j : Int) := by omega
      go_wp2_with (at_builtin; refine law_new rfl (.tmp 104) (.tmp 106) rfl wB.heap.size _ _ rfl _ hcur x rfl rfl ?_ ?_; (· rw [List.length_take]; omega); intro v4 w4 ho4 b4)
      have b4' := bcur.trans b4
      clear hcur bcur b4
      go_loopw [12, 14] (fun v i wr => ∃ q : Nat, j ≤ q ∧ q ≤ n' ∧ i = .int .i64 q ∧ Own wB.heap.size v ((ts.take j ++ [x]) ++ (ts.take q).drop j) wr ∧ Below wB.heap.size wB wr) (fun _ i _ => n' - (intOf i).toNat)
      case atStart => exact ⟨j, Nat.le_refl _, by omega, rfl, by rw [drop_take_self, List.append_nil]; exact ho4, b4'⟩
      case round =>
        obtain ⟨q, hq1, hq2, rfl, hcur, bcur⟩ := hrel
        by_cases hqn : q < n'
        · obtain ⟨b, off, rfl, hc⟩ := (hT.below bcur).2.2.2.2 (by omega)
          obtain ⟨y, hy, HY⟩ : ∃ y : ByteArray, wr.cell? ⟨b, off + q, none⟩ = some (.string y) ∧ Hid (el ts q = y) := ⟨_, hc q (by omega), rfl⟩
          have hqi : (q : Int) < (n' : Int) := by omega
          clear hc
          go_wp2_with (at_builtin; refine law_new rfl (.tmp 115) (.tmp 120) rfl wB.heap.size _ _ rfl _ hcur y rfl rfl ?_ ?_; (· simp only [List.length_append, List.length_take, List.length_drop, List.length_singleton]; omega); intro v5 w5 ho5 b5)
          go_roundw
          case rel => exact ⟨q + 1, by omega, by omega, by go_num, by rw [more_next ts j q x y hq1 (by have := Hts.out; omega) HY.out]; exact ho5, bcur.trans b5⟩
          case measure => simp [intOf]; omega
        · have hqe : q = n' := by omega
          subst hqe
          have hqi : ¬ (q : Int) < (q : Int) := by omega
          obtain ⟨MM, hMM⟩ : ∃ MM, Hid (MM = (ts.take j ++ [x]) ++ (ts.take q).drop j) := ⟨_, rfl⟩
          rw [← hMM.out] at hcur
          have hin : ∀ y, In MM y ↔ In ts y ∨ y = x := fun y => by
            have et : ts.take q = ts := List.take_of_length_le (by have := Hts.out; omega)
            rw [hMM.out, et]; exact in_more ts j x y
          obtain ⟨am, cm, rfl, hM⟩ := hcur.form
          have hOr := hOB.below bcur
          have hTr := hT.below bcur
          have kr : Below w.heap.size w wr := kB.trans (bcur.mono kB.size)
          clear hcur bcur hOB hT hMM
          obtain ⟨kw, hkw⟩ := first_ex (fun j => In MM (el os j)) n
          have A1 : First (fun j => In ts (el os j)) os.length kv := by rw [Hos.out]; exact hkv
          have A2 : First (fun j => el os j = x) os.length ix := by rw [Hos.out]; exact hix
          have A3 : First (fun j => In MM (el os j)) os.length kw := by rw [Hos.out]; exact hkw
          have B1 : ¬ ix < n → kw = kv := fun h => ins_none hin A1 A3 A2 (by rw [Hos.out]; exact h)
          have B2 : kv < ix → kw = kv := fun h => ins_old hin A1 A3 A2 h
          have B3 : ix < n → ¬ kv < ix → kw = ix := fun h h' => ins_new hin A1 A3 A2 (by rw [Hos.out]; exact h) h'
          have B4 : kv < n → First (fun j => el os j = el os kv) n kv := fun h => by
            obtain ⟨iv, hiv⟩ := first_ex (fun j => el os j = el os kv) n
            have e : iv = kv := pick_ix A1 (by rw [Hos.out]; exact h) (by rw [Hos.out]; exact hiv)
            rw [← e]; rw [e]; rw [e] at hiv; exact hiv
          have F1 : Hid (First (fun j => In ts (el os j)) n kv) := hkv
          have F2 : Hid (First (fun j => el os j = x) n ix) := hix
          have F3 : Hid (First (fun j => In MM (el os j)) n kw) := hkw
          obtain ⟨V, HV⟩ : ∃ V, Hid (V = if kv < n then el os kv else ⟨#[]⟩) := ⟨_, rfl⟩
          clear A1 A2 A3 hkv hix hkw hin
          by_cases e1 : ix < n
          · have HI : Hid (ixv n ix = (ix : Int)) := ixv_yes e1
            have i0' : ¬ (ix : Int) < 0 := by omega
            have HX : Hid (el os ix = x) := F2.out.2.2 e1
            by_cases e2 : kv < n
            · have HJ : Hid (ixv n kv = (kv : Int)) := ixv_yes e2
              have HVe : V = el os kv := by have := HV.out; rw [if_pos e2] at this; exact this
              have F4 : Hid (First (fun j => el os j = V) n kv) := by rw [HVe]; exact B4 e2
              have j0 : 0 ≤ (kv : Int) := by omega
              clear HVe
              by_cases e3 : kv < ix
              · have ekw := B2 e3
                subst ekw
                have HW : Hid (V = if kw < n then el os kw else ⟨#[]⟩) := HV
                have j1 : (kw : Int) < (ix : Int) := by omega
                clear B1 B2 B3 B4
                go_wp2_with (first
                  | (go_at_call_of 7 am; refine (pick_any ao n co kw os am MM.length cm MM _ hOr hM F3.out V HW.out).mono ?_; rintro e w' ⟨rfl, rfl⟩)
                  | (go_at_call 7; refine (pick_any ao n co kw os ai q ci ts _ hOr hTr F1.out V HV.out).mono ?_; rintro e w' ⟨rfl, rfl⟩)
                  | (go_at_call_of 9 x; refine (zzindex_any ao n co ix os x _ hOr F2.out).mono ?_; rintro e w' ⟨rfl, rfl⟩; rw [HI.out])
                  | (go_at_call 9; refine (zzindex_any ao n co kw os V _ hOr F4.out).mono ?_; rintro e w' ⟨rfl, rfl⟩; rw [HJ.out]))
                go_ret
                exact ⟨by first | rfl | (simp; done), kr⟩
              · have ekw := B3 e1 e3
                subst ekw
                have HW : Hid (x = if kw < n then el os kw else ⟨#[]⟩) := by show _ = _; rw [if_pos e1]; exact HX.out.symm
                have j1 : ¬ (kv : Int) < (kw : Int) := by omega
                clear B1 B2 B3 B4
                go_wp2_with (first
                  | (go_at_call_of 7 am; refine (pick_any ao n co kw os am MM.length cm MM _ hOr hM F3.out x HW.out).mono ?_; rintro e w' ⟨rfl, rfl⟩)
                  | (go_at_call 7; refine (pick_any ao n co kv os ai q ci ts _ hOr hTr F1.out V HV.out).mono ?_; rintro e w' ⟨rfl, rfl⟩)
                  | (go_at_call_of 9 x; refine (zzindex_any ao n co kw os x _ hOr F2.out).mono ?_; rintro e w' ⟨rfl, rfl⟩; rw [HI.out])
                  | (go_at_call 9; refine (zzindex_any ao n co kv os V _ hOr F4.out).mono ?_; rintro e w' ⟨rfl, rfl⟩; rw [HJ.out]))
                go_ret
                exact ⟨by first | rfl | (simp; done), kr⟩
            · have ekw := B3 e1 (by have := F1.out.1; omega)
              subst ekw
              have HW : Hid (x = if kw < n then el os kw else ⟨#[]⟩) := by show _ = _; rw [if_pos e1]; exact HX.out.symm
              clear B1 B2 B3 B4
              go_wp2_with (first
                | (go_at_call_of 7 am; refine (pick_any ao n co kw os am MM.length cm MM _ hOr hM F3.out x HW.out).mono ?_; rintro e w' ⟨rfl, rfl⟩)
                | (go_at_call 7; refine (pick_any ao n co kv os ai q ci ts _ hOr hTr F1.out V HV.out).mono ?_; rintro e w' ⟨rfl, rfl⟩)
                | (go_at_call_of 9 x; refine (zzindex_any ao n co kw os x _ hOr F2.out).mono ?_; rintro e w' ⟨rfl, rfl⟩; rw [HI.out]))
              go_ret
              exact ⟨by first | rfl | (simp; done), kr⟩
          · have HI : Hid (ixv n ix = -1) := ixv_no e1
            have ekw := B1 e1
            subst ekw
            have HW : Hid (V = if kw < n then el os kw else ⟨#[]⟩) := HV
            clear B1 B2 B3 B4
            go_wp2_with (first
              | (go_at_call_of 7 am; refine (pick_any ao n co kw os am MM.length cm MM _ hOr hM F3.out V HW.out).mono ?_; rintro e w' ⟨rfl, rfl⟩)
              | (go_at_call 7; refine (pick_any ao n co kw os ai q ci ts _ hOr hTr F1.out V HV.out).mono ?_; rintro e w' ⟨rfl, rfl⟩)
              | (go_at_call_of 9 x; refine (zzindex_any ao n co ix os x _ hOr F2.out).mono ?_; rintro e w' ⟨rfl, rfl⟩; rw [HI.out]))
            go_ret
            exact ⟨by first | rfl | (simp; done), kr⟩

set_option maxHeartbeats 1000000 in
set_option maxRecDepth 100000 in
theorem insert_big (a0 : Option Addr) (n c0 : Nat) (os : List ByteArray) (a1 : Option Addr) (n' c1 : Nat) (ts : List ByteArray) (x : ByteArray) (p : Int) (w : World) (h : Sl w a0 n c0 os) (h' : Sl w a1 n' c1 ts)
    (hb : 4096 < n ∨ 4096 < n') :
    Calls Try.prog 4 #[.slice a0 n c0, .slice a1 n' c1, .string x, .int .i64 p] w fun e w' => e = .returned (.bool true) ∧ Below w.heap.size w w' := by
  rcases hb with hb | hb
  · have g1 : 4096 < (n : Int) := by omega
    go_enter Try.func4, Try.ntmps4
    go_wp2_with (go_at_call 10; refine (bytes10_any _ _ _ os _ _ _ ts _ _ _ h h').mono ?_; rintro e w' ⟨⟨b, rfl⟩, rfl⟩)
    all_goals (go_ret; exact ⟨rfl, Below.refl _ _⟩)
  · by_cases hb2 : 4096 < (n : Int)
    · go_enter Try.func4, Try.ntmps4
      go_wp2_with (go_at_call 10; refine (bytes10_any _ _ _ os _ _ _ ts _ _ _ h h').mono ?_; rintro e w' ⟨⟨b, rfl⟩, rfl⟩)
      all_goals (go_ret; exact ⟨rfl, Below.refl _ _⟩)
    · have g1 : 4096 < (n' : Int) := by omega
      go_enter Try.func4, Try.ntmps4
      go_wp2_with (go_at_call 10; refine (bytes10_any _ _ _ os _ _ _ ts _ _ _ h h').mono ?_; rintro e w' ⟨⟨b, rfl⟩, rfl⟩)
      all_goals (go_ret; exact ⟨rfl, Below.refl _ _⟩)

theorem insert_any (a0 : Option Addr) (n c0 : Nat) (os : List ByteArray) (a1 : Option Addr) (n' c1 : Nat) (ts : List ByteArray) (x : ByteArray) (p : Int) (w : World) (h : Sl w a0 n c0 os) (h' : Sl w a1 n' c1 ts) (hx : x.size ≤ maxLen) :
    Calls Try.prog 4 #[.slice a0 n c0, .slice a1 n' c1, .string x, .int .i64 p] w fun e w' => e = .returned (.bool true) ∧ Below w.heap.size w w' := by
  unfold maxLen at hx
  by_cases hb : 4096 < n ∨ 4096 < n'
  · exact insert_big a0 n c0 os a1 n' c1 ts x p w h h' hb
  · exact insert_in a0 n c0 os a1 n' c1 ts x p w h h' (by omega) (by omega) (by omega)
end Go.Proofs.Qxb6632289a
