/-
  The walk of the law FnExactAny: there is a full slot just if there is a hash.
-/
import Derived.Test.YtejgndndjbdlaaaWhere
namespace Go.Proofs.Ytejgndndjbdlaaa
open Go.RowKit

theorem any_spread : ∀ m, m < 256 → (spread m != 0) = decide (0 < (slotL m).length) := by decide +kernel
theorem any_law (n : Nat) : (fullW n != 0) = decide ((0 : Int) < ((whereN (fun b => decide (b < 128)) n 8 : Nat) : Int)) := by
  rw [fullW_eq, any_spread _ (mask_lt _), slotL_where (fun b => decide (b < 128))]
  rw [Bool.eq_iff_iff]
  simp [whereOf, whereN]
theorem lit_any (b : Nat) (_hb : b < 256) (w : World) : Calls Try.prog 18 #[.int .u8 (b : Int)] w fun e w' => e = .returned (.bool (decide (b < 128))) ∧ w = w' := by
  go_enter Try.func18, Try.ntmps18
  go_wp2
  go_ret
  exact ⟨ret_bool (by rw [Bool.eq_iff_iff]; simp; omega), rfl⟩

set_option maxHeartbeats 400000 in
theorem law_FnExactAny (n : Nat) (hn : n < 18446744073709551616) (w : World) :
    Calls Try.prog 4 #[.int .u64 n] w fun e w' => e = .returned (.bool true) ∧ Below w.heap.size w w' := by
  by_cases hw : wellB n = true
  · have H := Lib.hid (any_law n)
    go_enter Try.func4, Try.ntmps4
    go_wp2_with fail
    refine (well_any n hn _).mono ?_
    rintro e w1 ⟨rfl, hb1⟩
    go_wp2_with fail
    refine (anyfull_any n hn _).mono ?_
    rintro e w2 ⟨rfl, rfl⟩
    go_wp2_with fail
    refine (where_FnExactAny n hn (fun b => decide (b < 128)) _ (fun b wx hb _ => lit_any b hb wx)).mono ?_
    rintro e w2 ⟨v, rfl, hown, hb2, _⟩
    obtain ⟨a, cap, rfl⟩ := own_len hown
    clear hown
    rw [H.out]
    go_wp2
    go_ret
    exact ⟨ret_bool (by simp), hb1.trans (hb2.mono hb1.size)⟩
  · have hw' : wellB n = false := by simpa using hw
    clear hw
    go_enter Try.func4, Try.ntmps4
    go_wp2_with fail
    refine (well_any n hn _).mono ?_
    rintro e w1 ⟨rfl, hb1⟩
    go_wp2
    go_ret
    exact ⟨rfl, hb1⟩
end Go.Proofs.Ytejgndndjbdlaaa
