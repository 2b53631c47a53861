/-
  UpPow2 and the reference's Least: the walks. A number n has a least power of 2 that is not less, 2 ^ c, c the length of n - 1 in bits; it has 64 bits just if c is below 64.
-/
import Derived.Test.YtejgndndjbdlaaaLeaf
import Derived.Test.YtejgndndjbdlaaaLen
namespace Go.Proofs.Ytejgndndjbdlaaa
open Go.RowKit

theorem pow_wrap (k : Nat) (hk : k < 64) : IntKind.u64.wrap ((2 : Int) ^ k) = (2 : Int) ^ k := by
  have h1 : (2 : Nat) ^ k ≤ 2 ^ 63 := Nat.pow_le_pow_right (by decide) (by omega)
  have e : (2 : Int) ^ k = ((2 ^ k : Nat) : Int) := by simp
  rw [e, u64_wrap, Nat.mod_eq_of_lt (by omega)]

set_option maxHeartbeats 400000 in
theorem least_yes (n c : Nat) (_hn : n < 18446744073709551616) (hc : c < 64) (h1 : n ≤ 2 ^ c) (h2 : ∀ j, j < c → 2 ^ j < n) (w : World) :
    Calls Try.prog 31 #[.int .u64 n] w fun e w' => e = .returned (.tuple #[.int .u64 ((2 : Int) ^ c), .bool false]) ∧ w = w' := by
  have H1 := Lib.hid h1
  have H2 := Lib.hid h2
  clear h1 h2
  go_enter Try.func31, Try.ntmps31
  go_wp2
  go_loop [4] (fun i => ∃ k : Nat, k ≤ c ∧ i = .int .i64 k) (fun i => 64 - (intOf i).toNat)
  case atStart => exact ⟨0, by omega, rfl⟩
  case round =>
    obtain ⟨k, hk, rfl⟩ := hrel
    have hw := pow_wrap k (by omega)
    by_cases hlt : k < c
    · have hj' : (2 : Int) ^ k < (n : Int) := by exact_mod_cast H2.out k hlt
      go_wp2
      go_round
      case rel => exact ⟨k + 1, by omega, by go_num⟩
      case measure => simp [intOf]; omega
    · obtain rfl : k = c := by omega
      have hj' : (n : Int) ≤ (2 : Int) ^ k := by exact_mod_cast H1.out
      go_wp2
      go_ret2
      exact ⟨rfl, rfl⟩
set_option maxHeartbeats 400000 in
theorem least_no (n : Nat) (_hn : n < 18446744073709551616) (h2 : ∀ j, j < 64 → 2 ^ j < n) (w : World) :
    Calls Try.prog 31 #[.int .u64 n] w fun e w' => e = .returned (.tuple #[.int .u64 0, .bool true]) ∧ w = w' := by
  have H2 := Lib.hid h2
  clear h2
  go_enter Try.func31, Try.ntmps31
  go_wp2
  go_loop [4] (fun i => ∃ k : Nat, k ≤ 64 ∧ i = .int .i64 k) (fun i => 64 - (intOf i).toNat)
  case atStart => exact ⟨0, by omega, rfl⟩
  case round =>
    obtain ⟨k, hk, rfl⟩ := hrel
    by_cases hlt : k < 64
    · have hw := pow_wrap k hlt
      have hj' : (2 : Int) ^ k < (n : Int) := by exact_mod_cast H2.out k hlt
      go_wp2
      go_round
      case rel => exact ⟨k + 1, by omega, by go_num⟩
      case measure => simp [intOf]; omega
    · obtain rfl : k = 64 := by omega
      go_wp2
      go_ret2
      exact ⟨rfl, rfl⟩

theorem len_sub (n : Nat) (hn : n < 18446744073709551616) (h0 : 0 < n) (w : World) :
    Calls Try.prog 63 #[.int .u64 ((n : Int) - 1)] w fun e w' => e = .returned (.int .i64 (Lib.bitLen (n - 1) : Nat)) ∧ w = w' := by
  have e : (n : Int) - 1 = ((n - 1 : Nat) : Int) := by omega
  rw [e]
  exact len_any (n - 1) (by omega) w
set_option maxHeartbeats 400000 in
theorem upow_yes (n c : Nat) (hn : n < 18446744073709551616) (h0 : 0 < n) (hc : c < 64) (he : Lib.bitLen (n - 1) = c) (w : World) :
    Calls Try.prog 32 #[.int .u64 n] w fun e w' => e = .returned (.tuple #[.int .u64 ((2 : Int) ^ c), .bool false]) ∧ w = w' := by
  have HE := Lib.hid he
  have hw := pow_wrap c hc
  have hp : ¬ (2 : Int) ^ c = 0 := Int.ne_of_gt (Int.pow_pos (by decide))
  have hn0 : ¬ n = 0 := by omega
  clear he
  go_enter Try.func32, Try.ntmps32
  go_wp2_with (first | (go_at_call 45; go_in) | (go_at_call 57; go_in))
  refine (len_sub n hn h0 _).mono ?_
  rintro e w' ⟨rfl, rfl⟩
  rw [HE.out]
  go_wp2
  go_ret2
  exact ⟨rfl, rfl⟩
set_option maxHeartbeats 400000 in
theorem upow_no (n : Nat) (hn : n < 18446744073709551616) (h0 : 0 < n) (he : Lib.bitLen (n - 1) = 64) (w : World) :
    Calls Try.prog 32 #[.int .u64 n] w fun e w' => e = .returned (.tuple #[.int .u64 0, .bool true]) ∧ w = w' := by
  have HE := Lib.hid he
  have hn0 : ¬ n = 0 := by omega
  clear he
  go_enter Try.func32, Try.ntmps32
  go_wp2_with (first | (go_at_call 45; go_in) | (go_at_call 57; go_in))
  refine (len_sub n hn h0 _).mono ?_
  rintro e w' ⟨rfl, rfl⟩
  rw [HE.out]
  go_wp2
  go_ret2
  exact ⟨rfl, rfl⟩

/-- The length of a number in bits: what it says. -/
theorem bitLen_lt : ∀ (f x : Nat), x < 2 ^ f → x < 2 ^ Lib.bitLenAux f x
  | 0, x, h => by simpa [Lib.bitLenAux] using h
  | f + 1, x, h => by
    rw [Lib.bitLenAux]
    split
    · subst_vars; decide
    · have := bitLen_lt f (x / 2) (by rw [Nat.pow_succ] at h; omega)
      rw [Nat.add_comm, Nat.pow_succ]
      omega
theorem bitLen_ge : ∀ (f x j : Nat), x < 2 ^ f → j < Lib.bitLenAux f x → 2 ^ j ≤ x
  | 0, x, j, _, h => by simp [Lib.bitLenAux] at h
  | f + 1, x, j, hx, h => by
    rw [Lib.bitLenAux] at h
    split at h
    · omega
    · cases j with
      | zero => omega
      | succ j =>
        have := bitLen_ge f (x / 2) j (by rw [Nat.pow_succ] at hx; omega) (by omega)
        rw [Nat.pow_succ]
        omega
theorem bitLen_le64 (x : Nat) (h : x < 18446744073709551616) : Lib.bitLen x ≤ 64 := Lib.bitLen_le x 64 (by decide) h
end Go.Proofs.Ytejgndndjbdlaaa
