/-
  The walk of the law FnShift: moved down by one, the first slot of a set that is not slot 0 is one less.
-/
import Derived.Test.YtejgndndjbdlaaaDoorOf
import Derived.Test.YtejgndndjbdlaaaDoorSpec
namespace Go.Proofs.YtejgndndjbdlaaaDoor
open Go.RowKit

theorem shift_low : ∀ m, m < 256 → m.testBit 0 = true → popW (spread m / 256) + 1 = popW (spread m) := by decide +kernel
theorem shift_up : ∀ m, m < 256 → m.testBit 0 = false → popW (spread m / 256) = popW (spread m) := by decide +kernel
theorem shift_pos : ∀ m, m < 256 → m.testBit 0 = false → popW (spread m) ≠ 0 → spread m ≠ 0 ∧ spread m / 256 ≠ 0 ∧ tzW (spread m / 256) / 8 + 1 = tzW (spread m) / 8 ∧ tzW (spread m) / 8 < 8 := by decide +kernel
theorem pop_le : ∀ m, m < 256 → popW (spread m) ≤ 8 := by decide +kernel
theorem shift_facts (n : Nat) : ∃ F D c c2 : Nat, fullW n = F ∧ F < 18446744073709551616 ∧ F / 256 = D ∧ D < 18446744073709551616 ∧ popW F = c ∧ popW D = c2 ∧ c ≤ 8 ∧ c2 ≤ 8 ∧
    (F &&& 128 != 0) = decide (byt n 0 < 128) ∧ (byt n 0 < 128 → c2 + 1 = c) ∧ (¬ byt n 0 < 128 → c2 = c) ∧
    (¬ byt n 0 < 128 → c ≠ 0 → F ≠ 0 ∧ D ≠ 0 ∧ ∃ t1 t2 : Nat, tzW F / 8 = t1 ∧ tzW D / 8 = t2 ∧ t2 + 1 = t1 ∧ t1 < 8) := by
  have e := fullW_eq n
  have hm := mask_lt fun i => decide (byt n i < 128)
  have hb := mask_bit (fun i => decide (byt n i < 128)) 0 (by decide)
  generalize mask (fun i => decide (byt n i < 128)) = m at e hm hb
  have hlt := fullW_lt n
  have hd : ∀ m, m < 256 → spread m / 256 < 18446744073709551616 := fun m _ => by have := spread_lt m; omega
  have hp2 := pop_le (m / 2) (by omega)
  rw [← down_spread m hm] at hp2
  refine ⟨fullW n, fullW n / 256, popW (fullW n), popW (fullW n / 256), rfl, hlt, rfl, by omega, rfl, rfl, ?_, ?_, ?_, ?_, ?_, ?_⟩
  · rw [e]; exact pop_le m hm
  · rw [e]; exact hp2
  · rw [e, low_spread m hm, hb]
  · intro h
    rw [e]
    exact shift_low m hm (by rw [hb]; simp [h])
  · intro h
    rw [e]
    exact shift_up m hm (by rw [hb]; simp [h])
  · intro h hc
    rw [e] at hc ⊢
    obtain ⟨h1, h2, h3, h4⟩ := shift_pos m hm (by rw [hb]; simp [h]) hc
    exact ⟨h1, h2, _, _, rfl, rfl, h3, h4⟩

set_option maxRecDepth 100000 in
set_option maxHeartbeats 1000000 in
theorem law_FnShift (n : Nat) (hn : n < 18446744073709551616) (w : World) (hT : Tab w) :
    Calls Tryd.prog 3 #[.int .u64 n] w fun e w' => e = .returned (.bool true) ∧ Below w.heap.size w w' := by
  by_cases hw : wellB n = true
  · obtain ⟨F, D, c, c2, hF, hFl, hD, hDl, hc, hc2, h8, h82, hlow, f1, f2, f3⟩ := shift_facts n
    have HF := Lib.hid hF
    have HD := Lib.hid hD
    have HC := Lib.hid hc
    have HC2 := Lib.hid hc2
    have HT := Lib.hid hT
    clear hF hD hc hc2 hT
    obtain ⟨b, hb⟩ : ∃ b, byt n 0 = b := ⟨_, rfl⟩
    rw [hb] at hlow f1 f2 f3
    have HB := Lib.hid hb
    clear hb
    by_cases hlt : b < 128
    · have hlow' : (F &&& 128 != 0) = true := by rw [hlow]; simp [hlt]
      have HL := Lib.hid hlow'
      have hcc := f1 hlt
      have m1 : (((c : Nat) : Int) == 0) = false := by rw [beq_eq_false_iff_ne]; omega
      have HE : Hid (((c2 : Nat) : Int) = ((c : Nat) : Int) - 1) := Lib.hid (by omega)
      have hc1 : 1 ≤ c := by omega
      have m2 : decide (((b : Nat) : Int) < 128) = true := by rw [decide_eq_true_eq]; omega
      clear hlow hlow' f1 f2 f3 hcc
      go_enter Tryd.func3, Tryd.ntmps3
      go_wp2_with fail
      refine (well_any n hn _).mono ?_
      rintro e w1 ⟨rfl, hb1⟩
      go_wp2_with fail
      refine (full_of n F hn HF.out _).mono ?_
      rintro e w2 ⟨rfl, rfl⟩
      go_wp2_with fail
      refine (low_of F true hFl HL.out _).mono ?_
      rintro e w2 ⟨rfl, rfl⟩
      go_wp2_with fail
      refine (bytes_any n hn _).mono ?_
      rintro e w2 ⟨v, rfl, hown, hb2⟩
      obtain ⟨g, cap, rfl, hg, hgs, hnc, hcap, hcell, hfr⟩ := own_cells hown (by decide)
      have hc0 := hcell 0 _ (bytesV_at n 8 0 (by decide))
      rw [HB.out] at hc0
      clear hown hcell hfr
      have HBel : Hid (Below w.heap.size w w2) := Lib.hid (hb1.trans (hb2.mono hb1.size))
      clear hb1 hb2
      go_wp2_with fail
      refine (count_of F c hFl HC.out _).mono ?_
      rintro e w3 ⟨rfl, rfl⟩
      go_wp2_with fail
      refine (low_of F true hFl HL.out _).mono ?_
      rintro e w3 ⟨rfl, rfl⟩
      go_wp2_with fail
      refine (down_of F D hFl HD.out _).mono ?_
      rintro e w3 ⟨rfl, rfl⟩
      go_wp2_with fail
      refine (count_of D c2 hDl HC2.out _).mono ?_
      rintro e w3 ⟨rfl, rfl⟩
      go_wp2_with fail
      refine (count_of F c hFl HC.out _).mono ?_
      rintro e w3 ⟨rfl, rfl⟩
      go_wp2_with fail
      all_goals
        go_ret
        exact ⟨ret_bool (beq_iff_eq.2 (by have := HE.out; omega)), HBel.out⟩
    · have hlow' : (F &&& 128 != 0) = false := by rw [hlow]; simp [hlt]
      have HL := Lib.hid hlow'
      have hcc := f2 hlt
      have m2 : decide (((b : Nat) : Int) < 128) = false := by rw [decide_eq_false_iff_not]; omega
      by_cases hc0 : c = 0
      · have hc20 : c2 = 0 := by omega
        subst hc0 hc20
        clear hlow hlow' f1 f2 f3 hcc
        go_enter Tryd.func3, Tryd.ntmps3
        go_wp2_with fail
        refine (well_any n hn _).mono ?_
        rintro e w1 ⟨rfl, hb1⟩
        go_wp2_with fail
        refine (full_of n F hn HF.out _).mono ?_
        rintro e w2 ⟨rfl, rfl⟩
        go_wp2_with fail
        refine (low_of F false hFl HL.out _).mono ?_
        rintro e w2 ⟨rfl, rfl⟩
        go_wp2_with fail
        refine (bytes_any n hn _).mono ?_
        rintro e w2 ⟨v, rfl, hown, hb2⟩
        obtain ⟨g, cap, rfl, hg, hgs, hnc, hcap, hcell, hfr⟩ := own_cells hown (by decide)
        have hc0 := hcell 0 _ (bytesV_at n 8 0 (by decide))
        rw [HB.out] at hc0
        clear hown hcell hfr
        have HBel : Hid (Below w.heap.size w w2) := Lib.hid (hb1.trans (hb2.mono hb1.size))
        clear hb1 hb2
        go_wp2_with fail
        refine (count_of F 0 hFl HC.out _).mono ?_
        rintro e w3 ⟨rfl, rfl⟩
        go_wp2_with fail
        refine (down_of F D hFl HD.out _).mono ?_
        rintro e w3 ⟨rfl, rfl⟩
        go_wp2_with fail
        refine (count_of D 0 hDl HC2.out _).mono ?_
        rintro e w3 ⟨rfl, rfl⟩
        go_wp2_with fail
        refine (count_of F 0 hFl HC.out _).mono ?_
        rintro e w3 ⟨rfl, rfl⟩
        go_wp2_with fail
        go_ret
        exact ⟨rfl, HBel.out⟩
      · obtain ⟨hF0, hD0, t1, t2, ht1, ht2, ht, ht8⟩ := f3 hlt hc0
        have m1 : (((c : Nat) : Int) == 0) = false := by rw [beq_eq_false_iff_ne]; omega
        have m3 : (((t2 : Nat) : Int) == ((t1 : Nat) : Int) - 1) = true := by rw [beq_iff_eq]; omega
        have m4 : (((c2 : Nat) : Int) == ((c : Nat) : Int)) = true := by rw [beq_iff_eq]; omega
        have ht1p : 1 ≤ t1 := by omega
        have H1 := Lib.hid ht1
        have H2 := Lib.hid ht2
        have hFp : 0 < F := by omega
        have hDp : 0 < D := by omega
        clear hlow hlow' f1 f2 f3 hcc ht1 ht2 ht hc0
        go_enter Tryd.func3, Tryd.ntmps3
        go_wp2_with fail
        refine (well_any n hn _).mono ?_
        rintro e w1 ⟨rfl, hb1⟩
        go_wp2_with fail
        refine (full_of n F hn HF.out _).mono ?_
        rintro e w2 ⟨rfl, rfl⟩
        go_wp2_with fail
        refine (low_of F false hFl HL.out _).mono ?_
        rintro e w2 ⟨rfl, rfl⟩
        go_wp2_with fail
        refine (bytes_any n hn _).mono ?_
        rintro e w2 ⟨v, rfl, hown, hb2⟩
        obtain ⟨g, cap, rfl, hg, hgs, hnc, hcap, hcell, hfr⟩ := own_cells hown (by decide)
        have hc0 := hcell 0 _ (bytesV_at n 8 0 (by decide))
        rw [HB.out] at hc0
        clear hown hcell hfr
        have HBel : Hid (Below w.heap.size w w2) := Lib.hid (hb1.trans (hb2.mono hb1.size))
        clear hb1 hb2
        have HT2 : Hid (Tab w2) := Lib.hid (HT.out.below HBel.out)
        go_wp2_with fail
        refine (count_of F c hFl HC.out _).mono ?_
        rintro e w3 ⟨rfl, rfl⟩
        go_wp2_with fail
        refine (low_of F false hFl HL.out _).mono ?_
        rintro e w3 ⟨rfl, rfl⟩
        go_wp2_with fail
        refine (down_of F D hFl HD.out _).mono ?_
        rintro e w3 ⟨rfl, rfl⟩
        go_wp2_with fail
        refine (first_of D t2 hDl hDp H2.out _ HT2.out).mono ?_
        rintro e w3 ⟨rfl, rfl⟩
        go_wp2_with fail
        refine (first_of F t1 hFl hFp H1.out _ HT2.out).mono ?_
        rintro e w3 ⟨rfl, rfl⟩
        go_wp2_with fail
        refine (down_of F D hFl HD.out _).mono ?_
        rintro e w3 ⟨rfl, rfl⟩
        go_wp2_with fail
        refine (count_of D c2 hDl HC2.out _).mono ?_
        rintro e w3 ⟨rfl, rfl⟩
        go_wp2_with fail
        refine (count_of F c hFl HC.out _).mono ?_
        rintro e w3 ⟨rfl, rfl⟩
        go_wp2_with fail
        go_ret
        exact ⟨rfl, HBel.out⟩
  · have hw' : wellB n = false := by simpa using hw
    clear hw
    go_enter Tryd.func3, Tryd.ntmps3
    go_wp2_with fail
    refine (well_any n hn _).mono ?_
    rintro e w1 ⟨rfl, hb1⟩
    go_wp2
    go_ret
    exact ⟨rfl, hb1⟩
end Go.Proofs.YtejgndndjbdlaaaDoor
