/-
  The walk of the law FnGetSet: what is set is got, and nothing else is changed.
-/
import Derived.Test.YtejgndndjbdlaaaLeaf
namespace Go.Proofs.Ytejgndndjbdlaaa
open Go.RowKit

set_option maxHeartbeats 400000 in
theorem law_FnGetSet (n : Nat) (hn : n < 18446744073709551616) (i : Nat) (hi : i < 18446744073709551616) (c : Nat) (hc : c < 256) (k : Nat) (hk : k < 18446744073709551616) (w : World) :
    Calls Try.prog 8 #[.int .u64 n, .int .u64 i, .int .u8 c, .int .u64 k] w fun e w' => e = .returned (.bool true) ∧ Below w.heap.size w w' := by
  by_cases h7 : 7 < i
  · go_enter Try.func8, Try.ntmps8
    go_wp2_with fail
    go_ret
    exact ⟨rfl, Below.refl _ _⟩
  by_cases k7 : 7 < k
  · go_enter Try.func8, Try.ntmps8
    go_wp2_with fail
    go_ret
    exact ⟨rfl, Below.refl _ _⟩
  have h8 : i < 8 := by omega
  have k8 : k < 8 := by omega
  clear hi hk
  by_cases hki : k = i
  · subst hki
    go_enter Try.func8, Try.ntmps8
    go_wp2_with fail
    refine (set_any n k c hn k8 hc _).mono ?_
    rintro e w1 ⟨rfl, hb1⟩
    go_wp2_with fail
    refine (get_any _ k (setW_lt n k c hn) k8 _).mono ?_
    rintro e w2 ⟨rfl, hb2⟩
    rw [setW_byt n k c k k8 k8 hc, if_pos rfl]
    go_wp2_with fail
    refine (set_any n k 0 hn k8 (by decide) _).mono ?_
    rintro e w3 ⟨rfl, hb3⟩
    go_wp2_with fail
    refine (get_any n k hn k8 _).mono ?_
    rintro e w4 ⟨rfl, hb4⟩
    go_wp2_with fail
    refine (set_any _ k _ (setW_lt n k 0 hn) k8 (byt_lt n k) _).mono ?_
    rintro e w5 ⟨rfl, hb5⟩
    rw [setW_back n k hn k8]
    go_wp2_with fail
    go_ret
    have b2 := hb1.trans (hb2.mono hb1.size)
    have b3 := b2.trans (hb3.mono b2.size)
    have b4 := b3.trans (hb4.mono b3.size)
    exact ⟨ret_bool (by simp), b4.trans (hb5.mono b4.size)⟩
  · go_enter Try.func8, Try.ntmps8
    go_wp2_with fail
    refine (set_any n i c hn h8 hc _).mono ?_
    rintro e w1 ⟨rfl, hb1⟩
    go_wp2_with fail
    refine (get_any _ k (setW_lt n i c hn) k8 _).mono ?_
    rintro e w2 ⟨rfl, hb2⟩
    rw [setW_byt n i c k h8 k8 hc, if_neg hki]
    go_wp2_with fail
    refine (get_any n k hn k8 _).mono ?_
    rintro e w3 ⟨rfl, hb3⟩
    go_wp2_with fail
    refine (get_any n k hn k8 _).mono ?_
    rintro e w4 ⟨rfl, hb4⟩
    go_wp2_with fail
    refine (set_any _ k _ hn k8 (byt_lt n k) _).mono ?_
    rintro e w5 ⟨rfl, hb5⟩
    rw [setW_self n k hn k8]
    go_wp2_with fail
    go_ret
    have b2 := hb1.trans (hb2.mono hb1.size)
    have b3 := b2.trans (hb3.mono b2.size)
    have b4 := b3.trans (hb4.mono b3.size)
    exact ⟨ret_bool (by simp), b4.trans (hb5.mono b4.size)⟩
end Go.Proofs.Ytejgndndjbdlaaa
