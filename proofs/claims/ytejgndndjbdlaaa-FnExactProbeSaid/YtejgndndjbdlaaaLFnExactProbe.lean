/-
  The walk of the law FnExactProbe: the places of a search are one step more apart each time, round the groups.
-/
import Derived.Test.YtejgndndjbdlaaaSpecProbe
import Derived.Test.YtejgndndjbdlaaaEqual
namespace Go.Proofs.Ytejgndndjbdlaaa
open Go.RowKit

theorem reads_words {w : World} {v : Value} {B n : Nat} {xs : List Nat} (h : w.ownsRow B 22 1 v n (wordV xs)) (hl : xs.length = n) (hn : n ≤ 4096) : Reads .u64 w v xs := by
  subst hl
  exact reads_own h (by omega)
theorem power_succ (m : Nat) (hm : m < 4096) (w : World) :
    Calls Try.prog 13 #[.int .u64 ((m : Int) + 1)] w fun e w' => e = .returned (.bool (powB (m + 1))) ∧ w = w' := by
  have e : (m : Int) + 1 = ((m + 1 : Nat) : Int) := by omega
  rw [e]
  exact power_any (m + 1) (by omega) w

set_option maxRecDepth 100000 in
set_option maxHeartbeats 1000000 in
theorem law_FnExactProbe (h : Nat) (hh : h < 18446744073709551616) (m : Nat) (hm : m < 18446744073709551616) (n : Int) (_hn0 : -9223372036854775808 ≤ n) (_hn1 : n ≤ 9223372036854775807) (w : World) :
    Calls Try.prog 11 #[.int .u64 h, .int .u64 m, .int .i64 n] w fun e w' => e = .returned (.bool true) ∧ Below w.heap.size w w' := by
  clear _hn0 _hn1
  by_cases hm1 : 4096 ≤ m
  · go_enter Try.func11, Try.ntmps11
    go_wp2_with fail
    go_ret
    exact ⟨rfl, Below.refl _ _⟩
  have hm2 : m < 4096 := by omega
  clear hm1
  by_cases hp : powB (m + 1) = true
  · by_cases hn2 : n < 0
    · go_enter Try.func11, Try.ntmps11
      go_wp2_with fail
      refine (power_succ m hm2 _).mono ?_
      rintro e w' ⟨rfl, rfl⟩
      go_wp2_with fail
      go_ret
      exact ⟨rfl, Below.refl _ _⟩
    by_cases hn3 : 4096 < n
    · go_enter Try.func11, Try.ntmps11
      go_wp2_with fail
      refine (power_succ m hm2 _).mono ?_
      rintro e w' ⟨rfl, rfl⟩
      go_wp2_with fail
      go_ret
      exact ⟨rfl, Below.refl _ _⟩
    obtain ⟨k, rfl⟩ := Int.eq_ofNat_of_zero_le (show 0 ≤ n by omega)
    have hk : k ≤ 4096 := by omega
    obtain ⟨j, hj, hmj⟩ := mask_pow m hm2 hp
    have HE : Hid (placesL h m k = specL h m k) := Lib.hid (by rw [hmj]; exact places_spec h j k hj)
    clear hmj hn2 hn3
    go_enter Try.func11, Try.ntmps11
    go_wp2_with fail
    refine (power_succ m hm2 _).mono ?_
    rintro e w' ⟨rfl, rfl⟩
    go_wp2_with fail
    refine (probe_any h m k hh hm hk _).mono ?_
    rintro e w1 ⟨v1, rfl, hown1, hb1⟩
    go_wp2_with fail
    refine (specprobe_any h m k hh hm2 hk _).mono ?_
    rintro e w2 ⟨v2, rfl, hown2, hb2⟩
    have r1 := (reads_words hown1 (places_length h m k) hk).below hb2
    have r2 := reads_words hown2 (by simp [specL]) hk
    rw [HE.out] at r1
    clear hown1 hown2
    go_wp2_with fail
    refine (equal_u64 _ _ _ _ _ r1 r2).mono ?_
    rintro e w3 ⟨rfl, hb3⟩
    have b2 := hb1.trans (hb2.mono hb1.size)
    have b3 := b2.trans (hb3.mono b2.size)
    clear r1 r2 hb1 hb2 hb3 b2
    go_wp2_with fail
    go_ret
    exact ⟨ret_bool (by simp), b3⟩
  · have hp' : powB (m + 1) = false := by simpa using hp
    clear hp
    go_enter Try.func11, Try.ntmps11
    go_wp2_with fail
    refine (power_succ m hm2 _).mono ?_
    rintro e w' ⟨rfl, rfl⟩
    go_wp2_with fail
    go_ret
    exact ⟨rfl, Below.refl _ _⟩
end Go.Proofs.Ytejgndndjbdlaaa
