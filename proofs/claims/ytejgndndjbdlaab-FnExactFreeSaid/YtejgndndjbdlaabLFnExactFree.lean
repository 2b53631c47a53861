/-
  The walk of the law FnExactFree: the slots that are empty or deleted are those with the control bytes of such ones.
-/
import Derived.Test.YtejgndndjbdlaabHolds
namespace Go.Proofs.Ytejgndndjbdlaab
open Go.RowKit

def pFnExactFree (b : Nat) : Bool := decide (b = 128) || decide (b = 254)
theorem plain_FnExactFree (n : Nat) (hw : wellB n = true) : slotsOf (freeW n) = whereOf pFnExactFree n := by
  rw [freeW_eq, slotsOf_spread _ (mask_lt _), slotL_mask]
  unfold whereOf
  refine List.filter_congr fun i hi => ?_
  have h := wellB_at hw i (by simpa using hi)
  unfold pFnExactFree
  rw [Bool.eq_iff_iff]
  simp
  omega
theorem lit_FnExactFree (b : Nat) (_hb : b < 256) (w : World) : Calls Try.prog 18 #[.int .u8 (b : Int)] w fun e w' => e = .returned (.bool (pFnExactFree b)) ∧ w = w' := by
  by_cases h1 : b = 128
  · subst h1
    go_enter Try.func18, Try.ntmps18
    go_wp2
    go_ret
    exact ⟨ret_bool (by decide), rfl⟩
  · by_cases h2 : b = 254
    · subst h2
      go_enter Try.func18, Try.ntmps18
      go_wp2
      go_ret
      exact ⟨ret_bool (by decide), rfl⟩
    · have m1 : (((b : Nat) : Int) == 128) = false := by rw [beq_eq_false_iff_ne]; omega
      have m2 : (((b : Nat) : Int) == 254) = false := by rw [beq_eq_false_iff_ne]; omega
      have E : Hid (false = pFnExactFree b) := Lib.hid (by simp [pFnExactFree, h1, h2])
      clear h1 h2
      go_enter Try.func18, Try.ntmps18
      go_wp2
      go_ret
      exact ⟨ret_bool E.out, rfl⟩

set_option maxHeartbeats 400000 in
theorem law_FnExactFree (n : Nat) (hn : n < 18446744073709551616) (w : World) :
    Calls Try.prog 5 #[.int .u64 n] w fun e w' => e = .returned (.bool true) ∧ Below w.heap.size w w' := by
  by_cases hw : wellB n = true
  · have H := Lib.hid (plain_FnExactFree n hw)
    go_enter Try.func5, Try.ntmps5
    go_wp2_with fail
    refine (well_any n hn _).mono ?_
    rintro e w1 ⟨rfl, hb1⟩
    go_wp2_with fail
    refine (free_any n hn _).mono ?_
    rintro e w2 ⟨rfl, rfl⟩
    go_wp2_with fail
    refine (where_FnExactFree n hn pFnExactFree _ (fun b wx hb _ => lit_FnExactFree b hb wx)).mono ?_
    rintro e w2 ⟨v, rfl, hown, hb2, _⟩
    have r2 := reads_where hown
    have R2 := Lib.hid r2
    clear hown r2
    go_wp2_with fail
    refine (holds_yes _ (freeW_lt n) _ _ _ R2.out H.out).mono ?_
    rintro e w3 ⟨rfl, hb3⟩
    go_wp2_with fail
    go_ret
    have b2 := hb1.trans (hb2.mono hb1.size)
    exact ⟨rfl, b2.trans (hb3.mono b2.size)⟩
  · have hw' : wellB n = false := by simpa using hw
    clear hw
    go_enter Try.func5, Try.ntmps5
    go_wp2_with fail
    refine (well_any n hn _).mono ?_
    rintro e w1 ⟨rfl, hb1⟩
    go_wp2_with fail
    go_ret
    exact ⟨rfl, hb1⟩
end Go.Proofs.Ytejgndndjbdlaab
