/-
  The walk of the law FnExactEmpty: the empty slots are those with the control byte of empty ones.
-/
import Derived.Test.YtejgndndjbdlaabHolds
namespace Go.Proofs.Ytejgndndjbdlaab
open Go.RowKit

def pFnExactEmpty (b : Nat) : Bool := decide (b = 128)
theorem plain_FnExactEmpty (n : Nat) (hw : wellB n = true) : slotsOf (emptyW n) = whereOf pFnExactEmpty n := by
  rw [emptyW_eq n hw, slotsOf_spread _ (mask_lt _)]
  exact slotL_where pFnExactEmpty n
theorem lit_FnExactEmpty (b : Nat) (_hb : b < 256) (w : World) : Calls Try.prog 16 #[.int .u8 (b : Int)] w fun e w' => e = .returned (.bool (pFnExactEmpty b)) ∧ w = w' := by
  go_enter Try.func16, Try.ntmps16
  go_wp2
  go_ret
  exact ⟨ret_bool (by unfold pFnExactEmpty; rw [Bool.eq_iff_iff]; simp; try omega), rfl⟩

set_option maxHeartbeats 400000 in
theorem law_FnExactEmpty (n : Nat) (hn : n < 18446744073709551616) (w : World) :
    Calls Try.prog 4 #[.int .u64 n] w fun e w' => e = .returned (.bool true) ∧ Below w.heap.size w w' := by
  by_cases hw : wellB n = true
  · have H := Lib.hid (plain_FnExactEmpty n hw)
    go_enter Try.func4, Try.ntmps4
    go_wp2_with fail
    refine (well_any n hn _).mono ?_
    rintro e w1 ⟨rfl, hb1⟩
    go_wp2_with fail
    refine (empty_any n hn _).mono ?_
    rintro e w2 ⟨rfl, rfl⟩
    go_wp2_with fail
    refine (where_FnExactEmpty n hn pFnExactEmpty _ (fun b wx hb _ => lit_FnExactEmpty b hb wx)).mono ?_
    rintro e w2 ⟨v, rfl, hown, hb2, _⟩
    have r2 := reads_where hown
    have R2 := Lib.hid r2
    clear hown r2
    go_wp2_with fail
    refine (holds_yes _ (emptyW_lt n) _ _ _ R2.out H.out).mono ?_
    rintro e w3 ⟨rfl, hb3⟩
    go_wp2_with fail
    go_ret
    have b2 := hb1.trans (hb2.mono hb1.size)
    exact ⟨rfl, b2.trans (hb3.mono b2.size)⟩
  · have hw' : wellB n = false := by simpa using hw
    clear hw
    go_enter Try.func4, Try.ntmps4
    go_wp2_with fail
    refine (well_any n hn _).mono ?_
    rintro e w1 ⟨rfl, hb1⟩
    go_wp2_with fail
    go_ret
    exact ⟨rfl, hb1⟩
end Go.Proofs.Ytejgndndjbdlaab
