/-
  The walk of the law FnExactUp: a number is rounded up to the next multiple of a power of 2.
-/
import Derived.Test.YtejgndndjbdlaaaLeaf
namespace Go.Proofs.Ytejgndndjbdlaaa
open Go.RowKit

theorem law_FnExactUp (n : Nat) (hn : n < 18446744073709551616) (a : Nat) (ha : a < 18446744073709551616) (w : World) :
    Calls Try.prog 3 #[.int .u64 n, .int .u64 a] w fun e w' => e = .returned (.bool true) ∧ Below w.heap.size w w' := by
  by_cases hp : powB a = true
  · have h0 : a ≠ 0 := by
      intro h; subst h; simp [powB] at hp
    have hand : a &&& (a - 1) = 0 := by
      simp only [powB, Bool.and_eq_true, beq_iff_eq] at hp
      exact hp.2
    by_cases hle : n ≤ 18446744073709551615 - (a - 1)
    · obtain ⟨u1, u2, u3, u4⟩ := upW_up n a ha h0 hand hle
      have hu1 : (((upW n a : Nat) : Int) % (a : Int) == 0) = true := by rw [beq_iff_eq]; omega
      have h0' : 0 < a := by omega
      clear u1 hand h0
      go_enter Try.func3, Try.ntmps3
      go_wp2_with (first | (go_at_call 13; refine (power_any a ha _).mono ?_; rintro e w' ⟨rfl, rfl⟩) | (go_at_call 14; refine (up_any n a hn h0' ha _).mono ?_; rintro e w' ⟨rfl, rfl⟩))
      go_ret
      exact ⟨ret_bool (decide_eq_true (by omega)), Below.refl _ _⟩
    · go_enter Try.func3, Try.ntmps3
      go_wp2_with (first | (go_at_call 13; refine (power_any a ha _).mono ?_; rintro e w' ⟨rfl, rfl⟩) | fail)
      go_ret
      exact ⟨rfl, Below.refl _ _⟩
  · have hp' : powB a = false := by simpa using hp
    clear hp
    go_enter Try.func3, Try.ntmps3
    go_wp2_with (go_at_call 13; refine (power_any a ha _).mono ?_; rintro e w' ⟨rfl, rfl⟩)
    go_ret
    exact ⟨rfl, Below.refl _ _⟩
end Go.Proofs.Ytejgndndjbdlaaa
