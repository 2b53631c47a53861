/-
  The walk of the law FnExactFull: the full slots are those with a hash.
-/
import Derived.Test.YtejgndndjbdlaabHolds
namespace Go.Proofs.Ytejgndndjbdlaab
open Go.RowKit

def pFnExactFull (b : Nat) : Bool := decide (b < 128)
theorem plain_FnExactFull (n : Nat) (_hw : wellB n = true) : slotsOf (fullW n) = whereOf pFnExactFull n := by
  rw [fullW_eq, slotsOf_spread _ (mask_lt _)]
  exact slotL_where pFnExactFull n
theorem lit_FnExactFull (b : Nat) (_hb : b < 256) (w : World) : Calls Try.prog 14 #[.int .u8 (b : Int)] w fun e w' => e = .returned (.bool (pFnExactFull b)) ∧ w = w' := by
  go_enter Try.func14, Try.ntmps14
  go_wp2
  go_ret
  exact ⟨ret_bool (by unfold pFnExactFull; rw [Bool.eq_iff_iff]; simp; try omega), rfl⟩

set_option maxHeartbeats 400000 in
theorem law_FnExactFull (n : Nat) (hn : n < 18446744073709551616) (w : World) :
    Calls Try.prog 3 #[.int .u64 n] w fun e w' => e = .returned (.bool true) ∧ Below w.heap.size w w' := by
  by_cases hw : wellB n = true
  · have H := Lib.hid (plain_FnExactFull n hw)
    go_enter Try.func3, Try.ntmps3
    go_wp2_with fail
    refine (well_any n hn _).mono ?_
    rintro e w1 ⟨rfl, hb1⟩
    go_wp2_with fail
    refine (full_any n hn _).mono ?_
    rintro e w2 ⟨rfl, rfl⟩
    go_wp2_with fail
    refine (where_FnExactFull n hn pFnExactFull _ (fun b wx hb _ => lit_FnExactFull b hb wx)).mono ?_
    rintro e w2 ⟨v, rfl, hown, hb2, _⟩
    have r2 := reads_where hown
    have R2 := Lib.hid r2
    clear hown r2
    go_wp2_with fail
    refine (holds_yes _ (fullW_lt n) _ _ _ R2.out H.out).mono ?_
    rintro e w3 ⟨rfl, hb3⟩
    go_wp2_with fail
    go_ret
    have b2 := hb1.trans (hb2.mono hb1.size)
    exact ⟨rfl, b2.trans (hb3.mono b2.size)⟩
  · have hw' : wellB n = false := by simpa using hw
    clear hw
    go_enter Try.func3, Try.ntmps3
    go_wp2_with fail
    refine (well_any n hn _).mono ?_
    rintro e w1 ⟨rfl, hb1⟩
    go_wp2_with fail
    go_ret
    exact ⟨rfl, hb1⟩
end Go.Proofs.Ytejgndndjbdlaab
