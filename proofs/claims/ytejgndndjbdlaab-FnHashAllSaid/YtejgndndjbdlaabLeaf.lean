/-
  What the small functions of the thin package return, each for every word: the walks. The results are the plain functions of the texts Plain and Sets.
-/
import Derived.Test.YtejgndndjbdlaabRows
import Derived.Test.YtejgndndjbdlaabSets
import Derived.WalkKit
import Derived.WalkSpells
import Derived.WalkLawsBesides
import Derived.Deep.DeepCutAuto
import Derived.Lib.Hide
namespace Go.Proofs.Ytejgndndjbdlaab
open Go.RowKit

theorem ret_int {k : IntKind} {a b : Int} (h : a = b) : Ending.returned (.int k a) = .returned (.int k b) := by rw [h]
theorem ret_bool {a b : Bool} (h : a = b) : Ending.returned (.bool a) = .returned (.bool b) := by rw [h]
theorem u64_wrap (n : Nat) : IntKind.u64.wrap (n : Int) = ((n % 18446744073709551616 : Nat) : Int) := by rw [IntKind.wrap_u64]; omega
theorem lit_msb : (9259542123273814144 : Int) = ((9259542123273814144 : Nat) : Int) := rfl
theorem lit_ones : (18446744073709551615 : Int) = ((18446744073709551615 : Nat) : Int) := rfl
theorem u64_max : IntKind.u64.max = ((18446744073709551615 : Nat) : Int) := rfl
theorem and_msb (n : Nat) (hn : n < 18446744073709551616) : bits .and .u64 (n : Int) 9259542123273814144 = ((n &&& 9259542123273814144 : Nat) : Int) := by
  rw [lit_msb, u64_and_nat n _ hn (by decide)]
theorem full_eq (n : Nat) (hn : n < 18446744073709551616) : bits .and .u64 (bits .xor .u64 IntKind.u64.max (n : Int)) 9259542123273814144 = ((fullW n : Nat) : Int) := by
  rw [u64_max, u64_xor_nat _ n (by decide) hn, and_msb _ (Nat.xor_lt_two_pow (n := 64) (by decide) (by omega))]
  rfl
theorem bne_cast (n : Nat) : ((n : Int) != 0) = (n != 0) := by
  rw [Bool.eq_iff_iff]; simp
theorem beq_cast (n : Nat) : ((n : Int) == 0) = (n == 0) := by
  rw [Bool.eq_iff_iff]; simp

set_option maxHeartbeats 400000 in
theorem full_any (n : Nat) (hn : n < 18446744073709551616) (w : World) :
    Calls Try.prog 12 #[.int .u64 n] w fun e w' => e = .returned (.int .u64 (fullW n)) ∧ w = w' := by
  have hs : IntKind.u64.signed = false := rfl
  go_enter Try.func12, Try.ntmps12
  go_wp2
  go_ret
  exact ⟨ret_int (full_eq n hn), rfl⟩
set_option maxHeartbeats 400000 in
theorem free_any (n : Nat) (hn : n < 18446744073709551616) (w : World) :
    Calls Try.prog 17 #[.int .u64 n] w fun e w' => e = .returned (.int .u64 (freeW n)) ∧ w = w' := by
  go_enter Try.func17, Try.ntmps17
  go_wp2
  go_ret
  exact ⟨ret_int (and_msb n hn), rfl⟩
theorem empty_eq (n : Nat) (hn : n < 18446744073709551616) : bits .and .u64 (bits .andNot .u64 (n : Int) (IntKind.u64.wrap ((n : Int) * 64))) 9259542123273814144 = ((emptyW n : Nat) : Int) := by
  have e : ((n : Int) * 64) = ((n * 64 : Nat) : Int) := by omega
  rw [e, u64_wrap, u64_andNot_nat n _ hn (Nat.mod_lt _ (by decide)), and_msb _ (Nat.lt_of_le_of_lt Nat.and_le_left hn)]
  rfl
set_option maxHeartbeats 400000 in
theorem empty_any (n : Nat) (hn : n < 18446744073709551616) (w : World) :
    Calls Try.prog 15 #[.int .u64 n] w fun e w' => e = .returned (.int .u64 (emptyW n)) ∧ w = w' := by
  go_enter Try.func15, Try.ntmps15
  go_wp2
  go_ret
  exact ⟨ret_int (empty_eq n hn), rfl⟩
theorem hash_eq (n h : Nat) (hn : n < 18446744073709551616) : bits .and .u64 (bits .andNot .u64 (IntKind.u64.wrap (bits .xor .u64 (n : Int) (IntKind.u64.wrap (72340172838076673 * (h : Int))) - 72340172838076673)) (bits .xor .u64 (n : Int) (IntKind.u64.wrap (72340172838076673 * (h : Int))))) 9259542123273814144 = ((hashW n h : Nat) : Int) := by
  have e : (72340172838076673 * (h : Int)) = ((72340172838076673 * h : Nat) : Int) := by omega
  have hx : n ^^^ (72340172838076673 * h % 18446744073709551616) < 18446744073709551616 := Nat.xor_lt_two_pow (n := 64) (by omega) (Nat.mod_lt _ (by decide))
  rw [e, u64_wrap, u64_xor_nat n _ hn (Nat.mod_lt _ (by decide))]
  have e2 : IntKind.u64.wrap (((n ^^^ (72340172838076673 * h % 18446744073709551616) : Nat) : Int) - 72340172838076673) = (((n ^^^ (72340172838076673 * h % 18446744073709551616)) + 18374403900871474943) % 18446744073709551616 : Nat) := by
    rw [IntKind.wrap_u64]; omega
  rw [e2, u64_andNot_nat _ _ (Nat.mod_lt _ (by decide)) hx, and_msb _ (Nat.lt_of_le_of_lt Nat.and_le_left (Nat.mod_lt _ (by decide)))]
  rfl
set_option maxHeartbeats 400000 in
theorem hash_any (n h : Nat) (hn : n < 18446744073709551616) (_hh : h < 18446744073709551616) (w : World) :
    Calls Try.prog 24 #[.int .u64 n, .int .u64 h] w fun e w' => e = .returned (.int .u64 (hashW n h)) ∧ w = w' := by
  go_enter Try.func24, Try.ntmps24
  go_wp2
  go_ret
  exact ⟨ret_int (hash_eq n h hn), rfl⟩
theorem low_eq (n : Nat) (hn : n < 18446744073709551616) : (bits .and .u64 (n : Int) 128 != 0) = (n &&& 128 != 0) := by
  rw [show (128 : Int) = ((128 : Nat) : Int) from rfl, u64_and_nat n 128 hn (by decide), bne_cast]
set_option maxHeartbeats 400000 in
theorem low_any (n : Nat) (hn : n < 18446744073709551616) (w : World) :
    Calls Try.prog 25 #[.int .u64 n] w fun e w' => e = .returned (.bool (n &&& 128 != 0)) ∧ w = w' := by
  go_enter Try.func25, Try.ntmps25
  go_wp2
  go_ret
  exact ⟨ret_bool (low_eq n hn), rfl⟩
set_option maxHeartbeats 400000 in
theorem down_any (n : Nat) (_hn : n < 18446744073709551616) (w : World) :
    Calls Try.prog 26 #[.int .u64 n] w fun e w' => e = .returned (.int .u64 (n / 256 : Nat)) ∧ w = w' := by
  go_enter Try.func26, Try.ntmps26
  go_wp2
  go_ret
  exact ⟨ret_int (by omega), rfl⟩
theorem less_eq (n : Nat) (hn : n < 18446744073709551616) : bits .and .u64 (n : Int) (IntKind.u64.wrap ((n : Int) - 1)) = ((lessFirstW n : Nat) : Int) := by
  have e : IntKind.u64.wrap ((n : Int) - 1) = ((n + 18446744073709551615) % 18446744073709551616 : Nat) := by rw [IntKind.wrap_u64]; omega
  rw [e, u64_and_nat n _ hn (Nat.mod_lt _ (by decide))]
  rfl
set_option maxHeartbeats 400000 in
theorem less_any (n : Nat) (hn : n < 18446744073709551616) (w : World) :
    Calls Try.prog 20 #[.int .u64 n] w fun e w' => e = .returned (.int .u64 (lessFirstW n)) ∧ w = w' := by
  go_enter Try.func20, Try.ntmps20
  go_wp2
  go_ret
  exact ⟨ret_int (less_eq n hn), rfl⟩
theorem below_eq (n i : Nat) (hn : n < 18446744073709551616) (hi : i < 8) : bits .andNot .u64 (n : Int) (IntKind.u64.wrap (IntKind.u64.wrap ((2 : Int) ^ (8 * i)) - 1)) = ((lessBelowW n i : Nat) : Int) := by
  have h1 : (2 : Nat) ^ (8 * i) ≤ 2 ^ 56 := Nat.pow_le_pow_right (by decide) (by omega)
  have hp := Nat.two_pow_pos (8 * i)
  have e : (2 : Int) ^ (8 * i) = ((2 ^ (8 * i) : Nat) : Int) := by simp
  rw [e, u64_wrap, Nat.mod_eq_of_lt (by omega), show ((2 ^ (8 * i) : Nat) : Int) - 1 = ((2 ^ (8 * i) - 1 : Nat) : Int) from by omega, u64_wrap, Nat.mod_eq_of_lt (by omega), u64_andNot_nat n _ hn (by omega)]
  rfl
set_option maxHeartbeats 400000 in
theorem below_any (n i : Nat) (hn : n < 18446744073709551616) (hi : i < 8) (w : World) :
    Calls Try.prog 22 #[.int .u64 n, .int .u64 i] w fun e w' => e = .returned (.int .u64 (lessBelowW n i)) ∧ w = w' := by
  go_enter Try.func22, Try.ntmps22
  go_wp2
  go_ret
  exact ⟨ret_int (below_eq n i hn hi), rfl⟩
set_option maxHeartbeats 400000 in
theorem new_any (w : World) : Calls Try.prog 30 #[] w fun e w' => e = .returned (.int .u64 9259542123273814144) ∧ Below w.heap.size w w' := by
  go_enter Try.func30, Try.ntmps30
  go_wp2
  go_end0
  go_wp2
  go_ret
  exact ⟨rfl, (Below.refl _ _).alloc (Nat.le_refl _) _⟩
theorem byt_eq (n i : Nat) : (n : Int) / 2 ^ (8 * i) % 256 = ((byt n i : Nat) : Int) := by
  unfold byt
  simp
set_option maxHeartbeats 400000 in
theorem get_any (n i : Nat) (_hn : n < 18446744073709551616) (hi : i < 8) (w : World) :
    Calls Try.prog 31 #[.int .u64 n, .int .u64 i] w fun e w' => e = .returned (.int .u8 (byt n i)) ∧ Below w.heap.size w w' := by
  go_enter Try.func31, Try.ntmps31
  go_wp2
  go_ret
  exact ⟨ret_int (byt_eq n i), (Below.refl _ _).alloc (Nat.le_refl _) _⟩
end Go.Proofs.Ytejgndndjbdlaab
