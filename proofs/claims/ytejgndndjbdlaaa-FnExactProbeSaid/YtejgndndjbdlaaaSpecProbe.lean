/-
  The reference's probe sequence: the walk.
-/
import Derived.Test.YtejgndndjbdlaaaTri
namespace Go.Proofs.Ytejgndndjbdlaaa
open Go.RowKit

theorem specV_succ (h m k : Nat) : wordV (specL h m (k + 1)) = wordV (specL h m k) ++ [.int .u64 ((specO h m k : Nat) : Int)] := by simp [wordV, specL, List.range_succ]

set_option maxHeartbeats 1600000 in
theorem specprobe_any (h m n : Nat) (hh : h < 18446744073709551616) (hm : m < 4096) (hn : n ≤ 4096) (w : World) :
    Calls Try.prog 34 #[.int .u64 h, .int .u64 m, .int .i64 n] w fun e w' => ∃ v, e = .returned v ∧ w'.ownsRow w.heap.size 22 1 v n (wordV (specL h m n)) ∧ Below w.heap.size w w' := by
  obtain ⟨i0, hi, hz0, hz1, hz2⟩ := info_parts Try.infoWord
  go_enter Try.func34, Try.ntmps34
  go_wp2_with fail
  go_loopw [7, 8, 9] (fun v x i wr => ∃ k : Nat, k ≤ n ∧ i = .int .i64 k ∧ (∃ y : Nat, x = .int .u64 y ∧ y < 4096 ∧ Hid (y = specO h m k)) ∧ wr.ownsRow w.heap.size 22 1 v k (wordV (specL h m k)) ∧ Below w.heap.size w wr) (fun _ _ i _ => n - (intOf i).toNat)
  case atStart => exact ⟨0, by omega, rfl, ⟨h % (m + 1), by simp, by have := Nat.mod_lt h (show 0 < m + 1 by omega); omega, Lib.hid rfl⟩, World.ownsRow_nil _ _ _ _, Below.refl _ _⟩
  case round =>
    obtain ⟨k, hk, rfl, ⟨y, rfl, hy, HY⟩, hown, hbel⟩ := hrel
    by_cases hlt : k < n
    · have hc3 : k + 1 ≤ maxLen := by unfold maxLen; omega
      have hc4 : (k + 1) * 8 ≤ 140737488355328 := by omega
      have hy' : (y + k + 1) % (m + 1) < 4096 := by have := Nat.mod_lt (y + k + 1) (show 0 < m + 1 by omega); omega
      have HN : Hid ((y + k + 1) % (m + 1) = specO h m (k + 1)) := Lib.hid (by rw [specO, HY.out])
      have HV := Lib.hid (specV_succ h m k)
      go_wp2_with (at_builtin; refine wpList_append_own _ rfl _ _ 40 rfl w.heap.size 22 i0 (.int .u64 0) 1 8 Try.underlying40 hi hz0 hz1 hz2 rfl (by decide) _ _ _ rfl (hown.alloc _) ⟨wr.heap.size, 0, none⟩ 1 1 [.int .u64 (y : Int)] rfl rfl (cell_one_new _ _ _) (one_int _ _) hc3 hc4 (le_alloc hbel (Nat.le_refl _) _) ?_)
      intro v' w3 hown' hgrow hnv
      have hbel' := grow_below hbel (Nat.le_refl _) hown hgrow
      rw [HY.out, ← HV.out] at hown'
      clear hgrow hown hbel hc3 hc4 hnv
      go_wp2_with fail
      go_roundw
      case rel => exact ⟨k + 1, by omega, by go_num, ⟨(y + k + 1) % (m + 1), by simp, hy', HN⟩, hown', hbel'⟩
      case measure => simp [intOf]; omega
    · obtain rfl : k = n := by omega
      go_wp2_with fail
      go_ret
      exact ⟨_, rfl, hown, hbel⟩
end Go.Proofs.Ytejgndndjbdlaaa
