/-
  The walk of the law FnExactPower: a number is rounded up to the next power of 2, if that has 64 bits.
-/
import Derived.Test.YtejgndndjbdlaaaPower
namespace Go.Proofs.Ytejgndndjbdlaaa
open Go.RowKit

set_option maxHeartbeats 400000 in
theorem law_FnExactPower (n : Nat) (hn : n < 18446744073709551616) (w : World) :
    Calls Try.prog 10 #[.int .u64 n] w fun e w' => e = .returned (.bool true) ∧ Below w.heap.size w w' := by
  by_cases h0 : n = 0
  · subst h0
    go_enter Try.func10, Try.ntmps10
    go_wp2_with fail
    go_ret
    exact ⟨rfl, Below.refl _ _⟩
  have hpos : 0 < n := by omega
  obtain ⟨c, hc⟩ : ∃ c, Lib.bitLen (n - 1) = c := ⟨_, rfl⟩
  have h64 := bitLen_le64 (n - 1) (by omega)
  have hup : n - 1 < 2 ^ c := by rw [← hc]; exact bitLen_lt 64 (n - 1) (by omega)
  have hlo : ∀ j, j < c → 2 ^ j < n := fun j hj => by
    have := bitLen_ge 64 (n - 1) j (by omega) (by unfold Lib.bitLen at hc; omega)
    omega
  rw [hc] at h64
  have Hc := Lib.hid hc
  have Hlo := Lib.hid hlo
  have hup' : n ≤ 2 ^ c := by omega
  have Hup := Lib.hid hup'
  clear hc hlo hup hup'
  by_cases h : c < 64
  · go_enter Try.func10, Try.ntmps10
    go_wp2_with fail
    refine (least_yes n c hn h Hup.out Hlo.out _).mono ?_
    rintro e w' ⟨rfl, rfl⟩
    go_wp2_with fail
    refine (upow_yes n c hn hpos h Hc.out _).mono ?_
    rintro e w' ⟨rfl, rfl⟩
    go_wp2_with fail
    go_ret
    exact ⟨ret_bool (by simp), Below.refl _ _⟩
  · obtain rfl : c = 64 := by omega
    go_enter Try.func10, Try.ntmps10
    go_wp2_with fail
    refine (least_no n hn Hlo.out _).mono ?_
    rintro e w' ⟨rfl, rfl⟩
    go_wp2_with fail
    refine (upow_no n hn hpos Hc.out _).mono ?_
    rintro e w' ⟨rfl, rfl⟩
    go_wp2_with fail
    go_ret
    exact ⟨rfl, Below.refl _ _⟩
end Go.Proofs.Ytejgndndjbdlaaa
