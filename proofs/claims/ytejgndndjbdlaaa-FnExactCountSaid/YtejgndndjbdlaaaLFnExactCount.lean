/-
  The walk of the law FnExactCount: a set has as many slots as it counts.
-/
import Derived.Test.YtejgndndjbdlaaaSlots
namespace Go.Proofs.Ytejgndndjbdlaaa
open Go.RowKit

theorem count_law (n : Nat) : popW (fullW n) = slotsN (fullW n) 8 := by
  show _ = (slotsOf (fullW n)).length
  rw [fullW_eq, popW_spread _ (mask_lt _), slotsOf_spread _ (mask_lt _)]
theorem filter_both (p : Nat → Bool) : ∀ l : List Nat, (l.filter p).length + (l.filter fun i => !p i).length = l.length
  | [] => rfl
  | a :: l => by
    have := filter_both p l
    by_cases h : p a = true
    · simp [h]; omega
    · have h' : p a = false := by simpa using h
      simp [h']; omega
theorem count_both (n : Nat) : popW (fullW n) + popW (freeW n) = 8 := by
  rw [fullW_eq, freeW_eq, popW_spread _ (mask_lt _), popW_spread _ (mask_lt _), slotL_mask, slotL_mask]
  have h := filter_both (fun i => decide (byt n i < 128)) (List.range 8)
  rw [List.length_range] at h
  have e : (List.range 8).filter (fun i => decide (128 ≤ byt n i)) = (List.range 8).filter fun i => !decide (byt n i < 128) := by
    refine List.filter_congr fun i _ => ?_
    rw [Bool.eq_iff_iff]
    simp
  rw [e]
  exact h

set_option maxHeartbeats 400000 in
theorem law_FnExactCount (n : Nat) (hn : n < 18446744073709551616) (w : World) :
    Calls Try.prog 5 #[.int .u64 n] w fun e w' => e = .returned (.bool true) ∧ Below w.heap.size w w' := by
  by_cases hw : wellB n = true
  · have h1 : (((popW (fullW n) : Nat) : Int) == ((slotsN (fullW n) 8 : Nat) : Int)) = true := by rw [beq_iff_eq, count_law n]
    have h2 := count_both n
    have hf := fullW_lt n
    have hr := freeW_lt n
    have h3 : (((popW (fullW n) : Nat) : Int) + ((popW (freeW n) : Nat) : Int) == 8) = true := by rw [beq_iff_eq]; omega
    have H2 := Lib.hid h2
    have h4 : popW (fullW n) ≤ 8 := by omega
    have h5 : popW (freeW n) ≤ 8 := by omega
    clear h2
    go_enter Try.func5, Try.ntmps5
    go_wp2_with fail
    refine (well_any n hn _).mono ?_
    rintro e w1 ⟨rfl, hb1⟩
    go_wp2_with fail
    refine (full_any n hn _).mono ?_
    rintro e w2 ⟨rfl, rfl⟩
    go_wp2_with fail
    refine (count_any _ hf _).mono ?_
    rintro e w2 ⟨rfl, rfl⟩
    go_wp2_with fail
    refine (slots_any _ hf _).mono ?_
    rintro e w2 ⟨v, rfl, hown, hb2, _⟩
    obtain ⟨a, cap, rfl⟩ := own_len hown
    clear hown
    go_wp2_with fail
    refine (count_any _ hf _).mono ?_
    rintro e w3 ⟨rfl, rfl⟩
    go_wp2_with fail
    refine (free_any n hn _).mono ?_
    rintro e w3 ⟨rfl, rfl⟩
    go_wp2_with fail
    refine (count_any _ hr _).mono ?_
    rintro e w3 ⟨rfl, rfl⟩
    go_wp2_with fail
    go_ret
    exact ⟨rfl, hb1.trans (hb2.mono hb1.size)⟩
  · have hw' : wellB n = false := by simpa using hw
    clear hw
    go_enter Try.func5, Try.ntmps5
    go_wp2_with fail
    refine (well_any n hn _).mono ?_
    rintro e w1 ⟨rfl, hb1⟩
    go_wp2
    go_ret
    exact ⟨rfl, hb1⟩
end Go.Proofs.Ytejgndndjbdlaaa
