/-
  The walk of the law FnExactGet: control byte i is byte i of the group, from the lowest one on.
-/
import Derived.Test.YtejgndndjbdlaaaSpec
namespace Go.Proofs.Ytejgndndjbdlaaa
open Go.RowKit

set_option maxHeartbeats 400000 in
theorem law_FnExactGet (n : Nat) (hn : n < 18446744073709551616) (i : Nat) (hi : i < 18446744073709551616) (w : World) :
    Calls Try.prog 6 #[.int .u64 n, .int .u64 i] w fun e w' => e = .returned (.bool true) ∧ Below w.heap.size w w' := by
  by_cases h7 : 7 < i
  · go_enter Try.func6, Try.ntmps6
    go_wp2_with fail
    go_ret
    exact ⟨rfl, Below.refl _ _⟩
  · have h8 : i < 8 := by omega
    clear hi
    go_enter Try.func6, Try.ntmps6
    go_wp2_with fail
    refine (get_any n i hn h8 _).mono ?_
    rintro e w1 ⟨rfl, hb1⟩
    go_wp2_with fail
    refine (bytes_any n hn _).mono ?_
    rintro e w2 ⟨v, rfl, hown, hb2⟩
    obtain ⟨g, cap, rfl, hg, hgs, hnc, hcap, hcell, hfr⟩ := own_cells hown (by decide)
    have hc := hcell i _ (bytesV_at n 8 i h8)
    clear hown hcell hfr
    go_wp2
    go_ret
    exact ⟨ret_bool (by simp), hb1.trans (hb2.mono hb1.size)⟩
end Go.Proofs.Ytejgndndjbdlaaa
