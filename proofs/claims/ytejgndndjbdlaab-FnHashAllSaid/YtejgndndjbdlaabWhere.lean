/-
  The reference's search for the slots whose control bytes something holds of: the walk, at each function that is handed over.
-/
import Derived.Test.YtejgndndjbdlaabSpec
namespace Go.Proofs.Ytejgndndjbdlaab
open Go.RowKit
set_option maxHeartbeats 800000 in
theorem where_FnExactFull (n : Nat) (hn : n < 18446744073709551616) (p : Nat → Bool) (w : World)
    (hp : ∀ (b : Nat) (wx : World), b < 256 → Below w.heap.size w wx → Calls Try.prog 14 #[.int .u8 (b : Int)] wx fun e w' => e = .returned (.bool (p b)) ∧ wx = w') :
    Calls Try.prog 13 #[.int .u64 n, .func (.func 14) #[] #[]] w fun e w' => ∃ v, e = .returned v ∧ w'.ownsRow w.heap.size 3 1 v (whereN p n 8) (whereV p n 8) ∧ Below w.heap.size w w' ∧ (whereN p n 8 = 0 → v = .slice none 0 0) := by
  obtain ⟨i0, hi, hz0, hz1, hz2⟩ := info_parts Try.infoInt
  have HP := Lib.hid hp
  clear hp
  go_enter Try.func13, Try.ntmps13
  go_wp2_with fail
  refine (bytes_any n hn _).mono ?_
  rintro e w1 ⟨v, rfl, hownb, hbelb⟩
  obtain ⟨g, cap, rfl, hg, hgs, hnc, hcap, hcell, hfr⟩ := own_cells hownb (by decide)
  clear hownb hfr
  have Hcell := Lib.hid hcell
  clear hcell
  go_wp2_with fail
  go_loopw [5, 11] (fun v i wr => ∃ k : Nat, k ≤ 8 ∧ i = .int .i64 k ∧ wr.ownsRow w1.heap.size 3 1 v (whereN p n k) (whereV p n k) ∧ Below w1.heap.size w1 wr ∧ (whereN p n k = 0 → v = .slice none 0 0)) (fun _ i _ => 8 - (intOf i).toNat)
  case atStart => exact ⟨0, by omega, rfl, World.ownsRow_nil _ _ _ _, Below.refl _ _, fun _ => rfl⟩
  case round =>
    obtain ⟨k, hk, rfl, hown, hbel, hnil⟩ := hrel
    have Hnil := Lib.hid hnil
    clear hnil
    by_cases hlt : k < 8
    · have hc := (hbel.cell (p := ⟨g, k, none⟩) hgs).trans (Hcell.out k _ (bytesV_at n 8 k hlt))
      have hb := byt_lt n k
      have hN := whereN_le p n k
      have Hcall := Lib.hid (HP.out (byt n k) wr hb (hbelb.trans (hbel.mono hbelb.size)))
      clear hb
      go_wp2_with fail
      refine Hcall.out.mono ?_
      rintro e w2 ⟨rfl, rfl⟩
      clear Hcall hc
      by_cases hpk : p (byt n k) = true
      · have hV := whereV_yes p n k hpk
        have HV := Lib.hid hV
        clear hV
        have hc3 : whereN p n k + 1 ≤ maxLen := by unfold maxLen; omega
        have hc4 : (whereN p n k + 1) * 8 ≤ 140737488355328 := by omega
        go_wp2_with (at_builtin; refine wpList_append_own _ rfl _ _ 26 rfl w1.heap.size 3 i0 (.int .i64 0) 1 8 Try.underlying26 hi hz0 hz1 hz2 rfl (by decide) _ _ _ rfl (hown.alloc _) ⟨wr.heap.size, 0, none⟩ 1 1 [.int .i64 (k : Int)] rfl rfl (cell_one_new _ _ _) (one_int _ _) hc3 hc4 (le_alloc hbel (Nat.le_refl _) _) ?_)
        intro v' w3 hown' hgrow hnv
        have hbel' := grow_below hbel (Nat.le_refl _) hown hgrow
        rw [← HV.out.1] at hown'
        have hne : whereN p n (k + 1) = 0 → v' = .slice none 0 0 := fun h => by have := HV.out.2; omega
        have Hne := Lib.hid hne
        clear hgrow hown hbel hc3 hc4 hnv hne
        go_wp2
        go_roundw
        case rel => exact ⟨k + 1, by omega, by go_num, by rw [HV.out.2]; exact hown', hbel', Hne.out⟩
        case measure => simp [intOf]; omega
      · have hpk' : p (byt n k) = false := by simpa using hpk
        have hV := whereV_no p n k hpk'
        have HV := Lib.hid hV
        clear hV hpk
        go_wp2
        go_roundw
        case rel => exact ⟨k + 1, by omega, by go_num, by rw [HV.out.1, HV.out.2]; exact hown, hbel, by rw [HV.out.2]; exact Hnil.out⟩
        case measure => simp [intOf]; omega
    · obtain rfl : k = 8 := by omega
      go_wp2
      go_ret
      exact ⟨_, rfl, ownsRow_mono hown hbelb.size, hbelb.trans (hbel.mono hbelb.size), Hnil.out⟩
set_option maxHeartbeats 800000 in
theorem where_FnExactEmpty (n : Nat) (hn : n < 18446744073709551616) (p : Nat → Bool) (w : World)
    (hp : ∀ (b : Nat) (wx : World), b < 256 → Below w.heap.size w wx → Calls Try.prog 16 #[.int .u8 (b : Int)] wx fun e w' => e = .returned (.bool (p b)) ∧ wx = w') :
    Calls Try.prog 13 #[.int .u64 n, .func (.func 16) #[] #[]] w fun e w' => ∃ v, e = .returned v ∧ w'.ownsRow w.heap.size 3 1 v (whereN p n 8) (whereV p n 8) ∧ Below w.heap.size w w' ∧ (whereN p n 8 = 0 → v = .slice none 0 0) := by
  obtain ⟨i0, hi, hz0, hz1, hz2⟩ := info_parts Try.infoInt
  have HP := Lib.hid hp
  clear hp
  go_enter Try.func13, Try.ntmps13
  go_wp2_with fail
  refine (bytes_any n hn _).mono ?_
  rintro e w1 ⟨v, rfl, hownb, hbelb⟩
  obtain ⟨g, cap, rfl, hg, hgs, hnc, hcap, hcell, hfr⟩ := own_cells hownb (by decide)
  clear hownb hfr
  have Hcell := Lib.hid hcell
  clear hcell
  go_wp2_with fail
  go_loopw [5, 11] (fun v i wr => ∃ k : Nat, k ≤ 8 ∧ i = .int .i64 k ∧ wr.ownsRow w1.heap.size 3 1 v (whereN p n k) (whereV p n k) ∧ Below w1.heap.size w1 wr ∧ (whereN p n k = 0 → v = .slice none 0 0)) (fun _ i _ => 8 - (intOf i).toNat)
  case atStart => exact ⟨0, by omega, rfl, World.ownsRow_nil _ _ _ _, Below.refl _ _, fun _ => rfl⟩
  case round =>
    obtain ⟨k, hk, rfl, hown, hbel, hnil⟩ := hrel
    have Hnil := Lib.hid hnil
    clear hnil
    by_cases hlt : k < 8
    · have hc := (hbel.cell (p := ⟨g, k, none⟩) hgs).trans (Hcell.out k _ (bytesV_at n 8 k hlt))
      have hb := byt_lt n k
      have hN := whereN_le p n k
      have Hcall := Lib.hid (HP.out (byt n k) wr hb (hbelb.trans (hbel.mono hbelb.size)))
      clear hb
      go_wp2_with fail
      refine Hcall.out.mono ?_
      rintro e w2 ⟨rfl, rfl⟩
      clear Hcall hc
      by_cases hpk : p (byt n k) = true
      · have hV := whereV_yes p n k hpk
        have HV := Lib.hid hV
        clear hV
        have hc3 : whereN p n k + 1 ≤ maxLen := by unfold maxLen; omega
        have hc4 : (whereN p n k + 1) * 8 ≤ 140737488355328 := by omega
        go_wp2_with (at_builtin; refine wpList_append_own _ rfl _ _ 26 rfl w1.heap.size 3 i0 (.int .i64 0) 1 8 Try.underlying26 hi hz0 hz1 hz2 rfl (by decide) _ _ _ rfl (hown.alloc _) ⟨wr.heap.size, 0, none⟩ 1 1 [.int .i64 (k : Int)] rfl rfl (cell_one_new _ _ _) (one_int _ _) hc3 hc4 (le_alloc hbel (Nat.le_refl _) _) ?_)
        intro v' w3 hown' hgrow hnv
        have hbel' := grow_below hbel (Nat.le_refl _) hown hgrow
        rw [← HV.out.1] at hown'
        have hne : whereN p n (k + 1) = 0 → v' = .slice none 0 0 := fun h => by have := HV.out.2; omega
        have Hne := Lib.hid hne
        clear hgrow hown hbel hc3 hc4 hnv hne
        go_wp2
        go_roundw
        case rel => exact ⟨k + 1, by omega, by go_num, by rw [HV.out.2]; exact hown', hbel', Hne.out⟩
        case measure => simp [intOf]; omega
      · have hpk' : p (byt n k) = false := by simpa using hpk
        have hV := whereV_no p n k hpk'
        have HV := Lib.hid hV
        clear hV hpk
        go_wp2
        go_roundw
        case rel => exact ⟨k + 1, by omega, by go_num, by rw [HV.out.1, HV.out.2]; exact hown, hbel, by rw [HV.out.2]; exact Hnil.out⟩
        case measure => simp [intOf]; omega
    · obtain rfl : k = 8 := by omega
      go_wp2
      go_ret
      exact ⟨_, rfl, ownsRow_mono hown hbelb.size, hbelb.trans (hbel.mono hbelb.size), Hnil.out⟩
set_option maxHeartbeats 800000 in
theorem where_FnExactFree (n : Nat) (hn : n < 18446744073709551616) (p : Nat → Bool) (w : World)
    (hp : ∀ (b : Nat) (wx : World), b < 256 → Below w.heap.size w wx → Calls Try.prog 18 #[.int .u8 (b : Int)] wx fun e w' => e = .returned (.bool (p b)) ∧ wx = w') :
    Calls Try.prog 13 #[.int .u64 n, .func (.func 18) #[] #[]] w fun e w' => ∃ v, e = .returned v ∧ w'.ownsRow w.heap.size 3 1 v (whereN p n 8) (whereV p n 8) ∧ Below w.heap.size w w' ∧ (whereN p n 8 = 0 → v = .slice none 0 0) := by
  obtain ⟨i0, hi, hz0, hz1, hz2⟩ := info_parts Try.infoInt
  have HP := Lib.hid hp
  clear hp
  go_enter Try.func13, Try.ntmps13
  go_wp2_with fail
  refine (bytes_any n hn _).mono ?_
  rintro e w1 ⟨v, rfl, hownb, hbelb⟩
  obtain ⟨g, cap, rfl, hg, hgs, hnc, hcap, hcell, hfr⟩ := own_cells hownb (by decide)
  clear hownb hfr
  have Hcell := Lib.hid hcell
  clear hcell
  go_wp2_with fail
  go_loopw [5, 11] (fun v i wr => ∃ k : Nat, k ≤ 8 ∧ i = .int .i64 k ∧ wr.ownsRow w1.heap.size 3 1 v (whereN p n k) (whereV p n k) ∧ Below w1.heap.size w1 wr ∧ (whereN p n k = 0 → v = .slice none 0 0)) (fun _ i _ => 8 - (intOf i).toNat)
  case atStart => exact ⟨0, by omega, rfl, World.ownsRow_nil _ _ _ _, Below.refl _ _, fun _ => rfl⟩
  case round =>
    obtain ⟨k, hk, rfl, hown, hbel, hnil⟩ := hrel
    have Hnil := Lib.hid hnil
    clear hnil
    by_cases hlt : k < 8
    · have hc := (hbel.cell (p := ⟨g, k, none⟩) hgs).trans (Hcell.out k _ (bytesV_at n 8 k hlt))
      have hb := byt_lt n k
      have hN := whereN_le p n k
      have Hcall := Lib.hid (HP.out (byt n k) wr hb (hbelb.trans (hbel.mono hbelb.size)))
      clear hb
      go_wp2_with fail
      refine Hcall.out.mono ?_
      rintro e w2 ⟨rfl, rfl⟩
      clear Hcall hc
      by_cases hpk : p (byt n k) = true
      · have hV := whereV_yes p n k hpk
        have HV := Lib.hid hV
        clear hV
        have hc3 : whereN p n k + 1 ≤ maxLen := by unfold maxLen; omega
        have hc4 : (whereN p n k + 1) * 8 ≤ 140737488355328 := by omega
        go_wp2_with (at_builtin; refine wpList_append_own _ rfl _ _ 26 rfl w1.heap.size 3 i0 (.int .i64 0) 1 8 Try.underlying26 hi hz0 hz1 hz2 rfl (by decide) _ _ _ rfl (hown.alloc _) ⟨wr.heap.size, 0, none⟩ 1 1 [.int .i64 (k : Int)] rfl rfl (cell_one_new _ _ _) (one_int _ _) hc3 hc4 (le_alloc hbel (Nat.le_refl _) _) ?_)
        intro v' w3 hown' hgrow hnv
        have hbel' := grow_below hbel (Nat.le_refl _) hown hgrow
        rw [← HV.out.1] at hown'
        have hne : whereN p n (k + 1) = 0 → v' = .slice none 0 0 := fun h => by have := HV.out.2; omega
        have Hne := Lib.hid hne
        clear hgrow hown hbel hc3 hc4 hnv hne
        go_wp2
        go_roundw
        case rel => exact ⟨k + 1, by omega, by go_num, by rw [HV.out.2]; exact hown', hbel', Hne.out⟩
        case measure => simp [intOf]; omega
      · have hpk' : p (byt n k) = false := by simpa using hpk
        have hV := whereV_no p n k hpk'
        have HV := Lib.hid hV
        clear hV hpk
        go_wp2
        go_roundw
        case rel => exact ⟨k + 1, by omega, by go_num, by rw [HV.out.1, HV.out.2]; exact hown, hbel, by rw [HV.out.2]; exact Hnil.out⟩
        case measure => simp [intOf]; omega
    · obtain rfl : k = 8 := by omega
      go_wp2
      go_ret
      exact ⟨_, rfl, ownsRow_mono hown hbelb.size, hbelb.trans (hbel.mono hbelb.size), Hnil.out⟩
set_option maxHeartbeats 800000 in
theorem where_FnExactRemoveFirst (n : Nat) (hn : n < 18446744073709551616) (p : Nat → Bool) (w : World)
    (hp : ∀ (b : Nat) (wx : World), b < 256 → Below w.heap.size w wx → Calls Try.prog 19 #[.int .u8 (b : Int)] wx fun e w' => e = .returned (.bool (p b)) ∧ wx = w') :
    Calls Try.prog 13 #[.int .u64 n, .func (.func 19) #[] #[]] w fun e w' => ∃ v, e = .returned v ∧ w'.ownsRow w.heap.size 3 1 v (whereN p n 8) (whereV p n 8) ∧ Below w.heap.size w w' ∧ (whereN p n 8 = 0 → v = .slice none 0 0) := by
  obtain ⟨i0, hi, hz0, hz1, hz2⟩ := info_parts Try.infoInt
  have HP := Lib.hid hp
  clear hp
  go_enter Try.func13, Try.ntmps13
  go_wp2_with fail
  refine (bytes_any n hn _).mono ?_
  rintro e w1 ⟨v, rfl, hownb, hbelb⟩
  obtain ⟨g, cap, rfl, hg, hgs, hnc, hcap, hcell, hfr⟩ := own_cells hownb (by decide)
  clear hownb hfr
  have Hcell := Lib.hid hcell
  clear hcell
  go_wp2_with fail
  go_loopw [5, 11] (fun v i wr => ∃ k : Nat, k ≤ 8 ∧ i = .int .i64 k ∧ wr.ownsRow w1.heap.size 3 1 v (whereN p n k) (whereV p n k) ∧ Below w1.heap.size w1 wr ∧ (whereN p n k = 0 → v = .slice none 0 0)) (fun _ i _ => 8 - (intOf i).toNat)
  case atStart => exact ⟨0, by omega, rfl, World.ownsRow_nil _ _ _ _, Below.refl _ _, fun _ => rfl⟩
  case round =>
    obtain ⟨k, hk, rfl, hown, hbel, hnil⟩ := hrel
    have Hnil := Lib.hid hnil
    clear hnil
    by_cases hlt : k < 8
    · have hc := (hbel.cell (p := ⟨g, k, none⟩) hgs).trans (Hcell.out k _ (bytesV_at n 8 k hlt))
      have hb := byt_lt n k
      have hN := whereN_le p n k
      have Hcall := Lib.hid (HP.out (byt n k) wr hb (hbelb.trans (hbel.mono hbelb.size)))
      clear hb
      go_wp2_with fail
      refine Hcall.out.mono ?_
      rintro e w2 ⟨rfl, rfl⟩
      clear Hcall hc
      by_cases hpk : p (byt n k) = true
      · have hV := whereV_yes p n k hpk
        have HV := Lib.hid hV
        clear hV
        have hc3 : whereN p n k + 1 ≤ maxLen := by unfold maxLen; omega
        have hc4 : (whereN p n k + 1) * 8 ≤ 140737488355328 := by omega
        go_wp2_with (at_builtin; refine wpList_append_own _ rfl _ _ 26 rfl w1.heap.size 3 i0 (.int .i64 0) 1 8 Try.underlying26 hi hz0 hz1 hz2 rfl (by decide) _ _ _ rfl (hown.alloc _) ⟨wr.heap.size, 0, none⟩ 1 1 [.int .i64 (k : Int)] rfl rfl (cell_one_new _ _ _) (one_int _ _) hc3 hc4 (le_alloc hbel (Nat.le_refl _) _) ?_)
        intro v' w3 hown' hgrow hnv
        have hbel' := grow_below hbel (Nat.le_refl _) hown hgrow
        rw [← HV.out.1] at hown'
        have hne : whereN p n (k + 1) = 0 → v' = .slice none 0 0 := fun h => by have := HV.out.2; omega
        have Hne := Lib.hid hne
        clear hgrow hown hbel hc3 hc4 hnv hne
        go_wp2
        go_roundw
        case rel => exact ⟨k + 1, by omega, by go_num, by rw [HV.out.2]; exact hown', hbel', Hne.out⟩
        case measure => simp [intOf]; omega
      · have hpk' : p (byt n k) = false := by simpa using hpk
        have hV := whereV_no p n k hpk'
        have HV := Lib.hid hV
        clear hV hpk
        go_wp2
        go_roundw
        case rel => exact ⟨k + 1, by omega, by go_num, by rw [HV.out.1, HV.out.2]; exact hown, hbel, by rw [HV.out.2]; exact Hnil.out⟩
        case measure => simp [intOf]; omega
    · obtain rfl : k = 8 := by omega
      go_wp2
      go_ret
      exact ⟨_, rfl, ownsRow_mono hown hbelb.size, hbelb.trans (hbel.mono hbelb.size), Hnil.out⟩
set_option maxHeartbeats 800000 in
theorem where_FnExactRemoveBelow (n : Nat) (hn : n < 18446744073709551616) (p : Nat → Bool) (w : World)
    (hp : ∀ (b : Nat) (wx : World), b < 256 → Below w.heap.size w wx → Calls Try.prog 21 #[.int .u8 (b : Int)] wx fun e w' => e = .returned (.bool (p b)) ∧ wx = w') :
    Calls Try.prog 13 #[.int .u64 n, .func (.func 21) #[] #[]] w fun e w' => ∃ v, e = .returned v ∧ w'.ownsRow w.heap.size 3 1 v (whereN p n 8) (whereV p n 8) ∧ Below w.heap.size w w' ∧ (whereN p n 8 = 0 → v = .slice none 0 0) := by
  obtain ⟨i0, hi, hz0, hz1, hz2⟩ := info_parts Try.infoInt
  have HP := Lib.hid hp
  clear hp
  go_enter Try.func13, Try.ntmps13
  go_wp2_with fail
  refine (bytes_any n hn _).mono ?_
  rintro e w1 ⟨v, rfl, hownb, hbelb⟩
  obtain ⟨g, cap, rfl, hg, hgs, hnc, hcap, hcell, hfr⟩ := own_cells hownb (by decide)
  clear hownb hfr
  have Hcell := Lib.hid hcell
  clear hcell
  go_wp2_with fail
  go_loopw [5, 11] (fun v i wr => ∃ k : Nat, k ≤ 8 ∧ i = .int .i64 k ∧ wr.ownsRow w1.heap.size 3 1 v (whereN p n k) (whereV p n k) ∧ Below w1.heap.size w1 wr ∧ (whereN p n k = 0 → v = .slice none 0 0)) (fun _ i _ => 8 - (intOf i).toNat)
  case atStart => exact ⟨0, by omega, rfl, World.ownsRow_nil _ _ _ _, Below.refl _ _, fun _ => rfl⟩
  case round =>
    obtain ⟨k, hk, rfl, hown, hbel, hnil⟩ := hrel
    have Hnil := Lib.hid hnil
    clear hnil
    by_cases hlt : k < 8
    · have hc := (hbel.cell (p := ⟨g, k, none⟩) hgs).trans (Hcell.out k _ (bytesV_at n 8 k hlt))
      have hb := byt_lt n k
      have hN := whereN_le p n k
      have Hcall := Lib.hid (HP.out (byt n k) wr hb (hbelb.trans (hbel.mono hbelb.size)))
      clear hb
      go_wp2_with fail
      refine Hcall.out.mono ?_
      rintro e w2 ⟨rfl, rfl⟩
      clear Hcall hc
      by_cases hpk : p (byt n k) = true
      · have hV := whereV_yes p n k hpk
        have HV := Lib.hid hV
        clear hV
        have hc3 : whereN p n k + 1 ≤ maxLen := by unfold maxLen; omega
        have hc4 : (whereN p n k + 1) * 8 ≤ 140737488355328 := by omega
        go_wp2_with (at_builtin; refine wpList_append_own _ rfl _ _ 26 rfl w1.heap.size 3 i0 (.int .i64 0) 1 8 Try.underlying26 hi hz0 hz1 hz2 rfl (by decide) _ _ _ rfl (hown.alloc _) ⟨wr.heap.size, 0, none⟩ 1 1 [.int .i64 (k : Int)] rfl rfl (cell_one_new _ _ _) (one_int _ _) hc3 hc4 (le_alloc hbel (Nat.le_refl _) _) ?_)
        intro v' w3 hown' hgrow hnv
        have hbel' := grow_below hbel (Nat.le_refl _) hown hgrow
        rw [← HV.out.1] at hown'
        have hne : whereN p n (k + 1) = 0 → v' = .slice none 0 0 := fun h => by have := HV.out.2; omega
        have Hne := Lib.hid hne
        clear hgrow hown hbel hc3 hc4 hnv hne
        go_wp2
        go_roundw
        case rel => exact ⟨k + 1, by omega, by go_num, by rw [HV.out.2]; exact hown', hbel', Hne.out⟩
        case measure => simp [intOf]; omega
      · have hpk' : p (byt n k) = false := by simpa using hpk
        have hV := whereV_no p n k hpk'
        have HV := Lib.hid hV
        clear hV hpk
        go_wp2
        go_roundw
        case rel => exact ⟨k + 1, by omega, by go_num, by rw [HV.out.1, HV.out.2]; exact hown, hbel, by rw [HV.out.2]; exact Hnil.out⟩
        case measure => simp [intOf]; omega
    · obtain rfl : k = 8 := by omega
      go_wp2
      go_ret
      exact ⟨_, rfl, ownsRow_mono hown hbelb.size, hbelb.trans (hbel.mono hbelb.size), Hnil.out⟩
set_option maxHeartbeats 800000 in
theorem where_FnHashAll (n : Nat) (hn : n < 18446744073709551616) (p : Nat → Bool) (hb : Nat) (w : World)
    (hp : ∀ (b : Nat) (wx : World), b < 256 → Below w.heap.size w wx → Calls Try.prog 27 #[.int .u8 (b : Int), .pointer (some ⟨hb, 0, none⟩)] wx fun e w' => e = .returned (.bool (p b)) ∧ wx = w') :
    Calls Try.prog 13 #[.int .u64 n, .func (.func 27) #[] #[.pointer (some ⟨hb, 0, none⟩)]] w fun e w' => ∃ v, e = .returned v ∧ w'.ownsRow w.heap.size 3 1 v (whereN p n 8) (whereV p n 8) ∧ Below w.heap.size w w' ∧ (whereN p n 8 = 0 → v = .slice none 0 0) := by
  obtain ⟨i0, hi, hz0, hz1, hz2⟩ := info_parts Try.infoInt
  have HP := Lib.hid hp
  clear hp
  go_enter Try.func13, Try.ntmps13
  go_wp2_with fail
  refine (bytes_any n hn _).mono ?_
  rintro e w1 ⟨v, rfl, hownb, hbelb⟩
  obtain ⟨g, cap, rfl, hg, hgs, hnc, hcap, hcell, hfr⟩ := own_cells hownb (by decide)
  clear hownb hfr
  have Hcell := Lib.hid hcell
  clear hcell
  go_wp2_with fail
  go_loopw [5, 11] (fun v i wr => ∃ k : Nat, k ≤ 8 ∧ i = .int .i64 k ∧ wr.ownsRow w1.heap.size 3 1 v (whereN p n k) (whereV p n k) ∧ Below w1.heap.size w1 wr ∧ (whereN p n k = 0 → v = .slice none 0 0)) (fun _ i _ => 8 - (intOf i).toNat)
  case atStart => exact ⟨0, by omega, rfl, World.ownsRow_nil _ _ _ _, Below.refl _ _, fun _ => rfl⟩
  case round =>
    obtain ⟨k, hk, rfl, hown, hbel, hnil⟩ := hrel
    have Hnil := Lib.hid hnil
    clear hnil
    by_cases hlt : k < 8
    · have hc := (hbel.cell (p := ⟨g, k, none⟩) hgs).trans (Hcell.out k _ (bytesV_at n 8 k hlt))
      have hb := byt_lt n k
      have hN := whereN_le p n k
      have Hcall := Lib.hid (HP.out (byt n k) wr hb (hbelb.trans (hbel.mono hbelb.size)))
      clear hb
      go_wp2_with fail
      refine Hcall.out.mono ?_
      rintro e w2 ⟨rfl, rfl⟩
      clear Hcall hc
      by_cases hpk : p (byt n k) = true
      · have hV := whereV_yes p n k hpk
        have HV := Lib.hid hV
        clear hV
        have hc3 : whereN p n k + 1 ≤ maxLen := by unfold maxLen; omega
        have hc4 : (whereN p n k + 1) * 8 ≤ 140737488355328 := by omega
        go_wp2_with (at_builtin; refine wpList_append_own _ rfl _ _ 26 rfl w1.heap.size 3 i0 (.int .i64 0) 1 8 Try.underlying26 hi hz0 hz1 hz2 rfl (by decide) _ _ _ rfl (hown.alloc _) ⟨wr.heap.size, 0, none⟩ 1 1 [.int .i64 (k : Int)] rfl rfl (cell_one_new _ _ _) (one_int _ _) hc3 hc4 (le_alloc hbel (Nat.le_refl _) _) ?_)
        intro v' w3 hown' hgrow hnv
        have hbel' := grow_below hbel (Nat.le_refl _) hown hgrow
        rw [← HV.out.1] at hown'
        have hne : whereN p n (k + 1) = 0 → v' = .slice none 0 0 := fun h => by have := HV.out.2; omega
        have Hne := Lib.hid hne
        clear hgrow hown hbel hc3 hc4 hnv hne
        go_wp2
        go_roundw
        case rel => exact ⟨k + 1, by omega, by go_num, by rw [HV.out.2]; exact hown', hbel', Hne.out⟩
        case measure => simp [intOf]; omega
      · have hpk' : p (byt n k) = false := by simpa using hpk
        have hV := whereV_no p n k hpk'
        have HV := Lib.hid hV
        clear hV hpk
        go_wp2
        go_roundw
        case rel => exact ⟨k + 1, by omega, by go_num, by rw [HV.out.1, HV.out.2]; exact hown, hbel, by rw [HV.out.2]; exact Hnil.out⟩
        case measure => simp [intOf]; omega
    · obtain rfl : k = 8 := by omega
      go_wp2
      go_ret
      exact ⟨_, rfl, ownsRow_mono hown hbelb.size, hbelb.trans (hbel.mono hbelb.size), Hnil.out⟩

end Go.Proofs.Ytejgndndjbdlaab
