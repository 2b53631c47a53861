/-
  The reference's reading of a set by 'slot 0 is in it' and 'moved down by one': the walk.
-/
import Derived.Test.YtejgndndjbdlaabSpec
namespace Go.Proofs.Ytejgndndjbdlaab
open Go.RowKit

theorem low_bit (x : Nat) : (x &&& 128 != 0) = x.testBit 7 := by
  rw [show (128 : Nat) = 2 ^ 7 from rfl, nat_bit, Nat.testBit_eq_decide_div_mod_eq]
  rcases (by omega : x / 2 ^ 7 % 2 = 0 ∨ x / 2 ^ 7 % 2 = 1) with h | h <;> rw [h] <;> decide
theorem low_at (s k : Nat) : (s / 2 ^ (8 * k) &&& 128 != 0) = s.testBit (8 * k + 7) := by
  rw [low_bit, Nat.testBit_div_two_pow, Nat.add_comm]
theorem down_at (s k : Nat) : s / 2 ^ (8 * k) / 256 = s / 2 ^ (8 * (k + 1)) := by
  rw [Nat.div_div_eq_div_mul, show (256 : Nat) = 2 ^ 8 from rfl, ← Nat.pow_add]
  congr 1
/-- The slots of a word below k, as values. -/
def slotsV (s k : Nat) : List Value := ((List.range k).filter fun i => s.testBit (8 * i + 7)).map fun i => Value.int .i64 ((i : Nat) : Int)
def slotsN (s k : Nat) : Nat := ((List.range k).filter fun i => s.testBit (8 * i + 7)).length
theorem slotsV_yes (s k : Nat) (h : s.testBit (8 * k + 7) = true) : slotsV s (k + 1) = slotsV s k ++ [.int .i64 (k : Int)] ∧ slotsN s (k + 1) = slotsN s k + 1 := by
  simp [slotsV, slotsN, List.range_succ, List.filter_append, h]
theorem slotsV_no (s k : Nat) (h : s.testBit (8 * k + 7) = false) : slotsV s (k + 1) = slotsV s k ∧ slotsN s (k + 1) = slotsN s k := by
  simp [slotsV, slotsN, List.range_succ, List.filter_append, h]
theorem slotsN_le (s k : Nat) : slotsN s k ≤ k := by
  have := List.length_filter_le (fun i => s.testBit (8 * i + 7)) (List.range k)
  rwa [List.length_range] at this

set_option maxHeartbeats 1200000 in
theorem slots_any (s : Nat) (hs : s < 18446744073709551616) (w : World) :
    Calls Try.prog 23 #[.int .u64 s, .func (.func 25) #[] #[], .func (.func 26) #[] #[]] w fun e w' => ∃ v, e = .returned v ∧ w'.ownsRow w.heap.size 3 1 v (slotsN s 8) (slotsV s 8) ∧ Below w.heap.size w w' ∧ (slotsN s 8 = 0 → v = .slice none 0 0) := by
  obtain ⟨i0, hi, hz0, hz1, hz2⟩ := info_parts Try.infoInt
  go_enter Try.func23, Try.ntmps23
  go_wp2_with fail
  go_loopw [0, 7, 8] (fun x v i wr => ∃ k : Nat, k ≤ 8 ∧ i = .int .i64 k ∧ (∃ y : Nat, x = .int .u64 y ∧ y < 18446744073709551616 ∧ Hid (y = s / 2 ^ (8 * k))) ∧ wr.ownsRow w.heap.size 3 1 v (slotsN s k) (slotsV s k) ∧ Below w.heap.size w wr ∧ (slotsN s k = 0 → v = .slice none 0 0)) (fun _ _ i _ => 8 - (intOf i).toNat)
  case atStart => exact ⟨0, by omega, rfl, ⟨s, rfl, hs, Lib.hid (by simp)⟩, World.ownsRow_nil _ _ _ _, Below.refl _ _, fun _ => rfl⟩
  case round =>
    obtain ⟨k, hk, rfl, ⟨y, rfl, hy, HY⟩, hown, hbel, hnil⟩ := hrel
    have Hnil := Lib.hid hnil
    clear hnil
    by_cases hlt : k < 8
    · have hN := slotsN_le s k
      have Hlow := Lib.hid (low_any y hy wr)
      have hd : y / 256 < 18446744073709551616 := by omega
      have HD : Hid (y / 256 = s / 2 ^ (8 * (k + 1))) := Lib.hid (by rw [HY.out, down_at])
      have hl : (y &&& 128 != 0) = s.testBit (8 * k + 7) := by rw [HY.out, low_at]
      have HL := Lib.hid hl
      clear hl
      go_wp2_with fail
      refine Hlow.out.mono ?_
      rintro e w2 ⟨rfl, rfl⟩
      clear Hlow
      rw [HL.out]
      by_cases hpk : s.testBit (8 * k + 7) = true
      · have HV := Lib.hid (slotsV_yes s k hpk)
        have hc3 : slotsN s k + 1 ≤ maxLen := by unfold maxLen; omega
        have hc4 : (slotsN s k + 1) * 8 ≤ 140737488355328 := by omega
        go_wp2_with (at_builtin; refine wpList_append_own _ rfl _ _ 26 rfl w.heap.size 3 i0 (.int .i64 0) 1 8 Try.underlying26 hi hz0 hz1 hz2 rfl (by decide) _ _ _ rfl (hown.alloc _) ⟨wr.heap.size, 0, none⟩ 1 1 [.int .i64 (k : Int)] rfl rfl (cell_one_new _ _ _) (one_int _ _) hc3 hc4 (le_alloc hbel (Nat.le_refl _) _) ?_)
        intro v' w3 hown' hgrow hnv
        have hbel' := grow_below hbel (Nat.le_refl _) hown hgrow
        rw [← HV.out.1] at hown'
        have Hne := Lib.hid (show slotsN s (k + 1) = 0 → v' = .slice none 0 0 from fun h => by have := HV.out.2; omega)
        clear hgrow hown hbel hc3 hc4 hnv
        go_wp2_with fail
        refine (down_any y hy _).mono ?_
        rintro e w2 ⟨rfl, rfl⟩
        go_wp2_with fail
        go_roundw
        case rel => exact ⟨k + 1, by omega, by go_num, ⟨_, rfl, hd, HD⟩, by rw [HV.out.2]; exact hown', hbel', Hne.out⟩
        case measure => simp [intOf]; omega
      · have hpk' : s.testBit (8 * k + 7) = false := by simpa using hpk
        have HV := Lib.hid (slotsV_no s k hpk')
        clear hpk
        go_wp2_with fail
        refine (down_any y hy _).mono ?_
        rintro e w2 ⟨rfl, rfl⟩
        go_wp2_with fail
        go_roundw
        case rel => exact ⟨k + 1, by omega, by go_num, ⟨_, rfl, hd, HD⟩, by rw [HV.out.1, HV.out.2]; exact hown, hbel, by rw [HV.out.2]; exact Hnil.out⟩
        case measure => simp [intOf]; omega
    · obtain rfl : k = 8 := by omega
      go_wp2_with fail
      go_ret
      exact ⟨_, rfl, hown, hbel, Hnil.out⟩
end Go.Proofs.Ytejgndndjbdlaab
