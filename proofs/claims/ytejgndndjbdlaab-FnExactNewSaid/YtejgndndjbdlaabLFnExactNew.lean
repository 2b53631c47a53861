/-
  The walk of the law FnExactNew: the slots of a new group are empty.
-/
import Derived.Test.YtejgndndjbdlaabEight
namespace Go.Proofs.Ytejgndndjbdlaab
open Go.RowKit

theorem get_newI (x : Int) (h0 : 0 ≤ x) (h8 : x < 8) (w : World) : Calls Try.prog 31 #[.int .u64 9259542123273814144, .int .u64 x] w fun e w' => e = .returned (.int .u8 128) ∧ Below w.heap.size w w' := by
  obtain ⟨i, rfl⟩ := Int.eq_ofNat_of_zero_le h0
  exact get_new i (by omega) w
set_option maxHeartbeats 1000000 in
theorem law_FnExactNew (n : Nat) (_hn : n < 18446744073709551616) (w : World) :
    Calls Try.prog 9 #[.int .u64 n] w fun e w' => e = .returned (.bool true) ∧ Below w.heap.size w w' := by
  go_enter Try.func9, Try.ntmps9
  go_wp2_with fail
  refine (new_any _).mono ?_
  rintro e w1 ⟨rfl, hb1⟩
  go_wp2_with fail
  go_loopw [4] (fun i wr => ∃ k : Nat, k ≤ 8 ∧ i = .int .u64 k ∧ Below w1.heap.size w1 wr) (fun i _ => 8 - (intOf i).toNat)
  case atStart => exact ⟨0, by omega, rfl, Below.refl _ _⟩
  case round =>
    obtain ⟨k, hk, rfl, hbel⟩ := hrel
    by_cases hlt : k < 8
    · go_wp2_with fail
      refine (get_newI _ (Int.tmod_nonneg _ (wrap_u64_nonneg _)) (Int.tmod_lt_of_pos _ (by decide)) _).mono ?_
      rintro e w2 ⟨rfl, hb2⟩
      go_wp2_with fail
      go_roundw
      case rel => exact ⟨k + 1, by omega, by go_num, hbel.trans (hb2.mono hbel.size)⟩
      case measure => simp [intOf]; omega
    · obtain rfl : k = 8 := by omega
      go_wp2_with fail
      refine (empty_new _).mono ?_
      rintro e w2 ⟨rfl, rfl⟩
      go_wp2_with fail
      refine (all_eight _ _ (reads_eight _ _)).mono ?_
      rintro e w3 ⟨rfl, hb3⟩
      go_wp2_with fail
      go_ret
      have b2 := hb1.trans (hbel.mono hb1.size)
      have b3 := b2.alloc (o := .cells #[.int .i64 0, .int .i64 1, .int .i64 2, .int .i64 3, .int .i64 4, .int .i64 5, .int .i64 6, .int .i64 7] 3) b2.size
      exact ⟨rfl, b3.trans (hb3.mono b3.size)⟩
end Go.Proofs.Ytejgndndjbdlaab
