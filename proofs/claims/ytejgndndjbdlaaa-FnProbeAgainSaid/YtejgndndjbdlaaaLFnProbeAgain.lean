/-
  The walk of the law FnProbeAgain: a search of fewer groups is the beginning of one of more, and the hash counts up to the number of groups.
-/
import Derived.Test.YtejgndndjbdlaaaTri
import Derived.Test.YtejgndndjbdlaaaEqual
import Derived.Deep.RegionHeld3
namespace Go.Proofs.Ytejgndndjbdlaaa
open Go.RowKit

theorem power_succG (m : Nat) (hm : m < 4096) (w : World) :
    Calls Try.prog 13 #[.int .u64 ((m : Int) + 1)] w fun e w' => e = .returned (.bool (powB (m + 1))) ∧ w = w' := by
  have e : (m : Int) + 1 = ((m + 1 : Nat) : Int) := by omega
  rw [e]
  exact power_any (m + 1) (by omega) w
/-- The program's search, its answer read as a list. -/
theorem probe_reads (h m k : Nat) (hh : h < 18446744073709551616) (hm : m < 18446744073709551616) (hk : k ≤ 4095) (w : World) :
    Calls Try.prog 30 #[.int .u64 h, .int .u64 m, .int .i64 k] w fun e w' => ∃ v, e = .returned v ∧ Reads .u64 w' v (placesL h m k) ∧ Below w.heap.size w w' := by
  refine (probe_any h m k hh hm (by omega) w).mono ?_
  rintro e w' ⟨v, rfl, hown, hb⟩
  refine ⟨v, rfl, ?_, hb⟩
  have hl := places_length h m k
  exact reads_own (by rw [hl]; exact hown) (by omega)
theorem probe_reads1 (h m k : Nat) (hh : h < 18446744073709551616) (hm : m < 18446744073709551616) (hk : k ≤ 4095) (w : World) :
    Calls Try.prog 30 #[.int .u64 h, .int .u64 m, .int .i64 ((k : Int) + 1)] w fun e w' => ∃ v, e = .returned v ∧ Reads .u64 w' v (placesL h m (k + 1)) ∧ Below w.heap.size w w' ∧ ∃ g cap, v = .slice (some ⟨g, 0, none⟩) (k + 1) cap ∧ k + 1 ≤ cap := by
  have e : (k : Int) + 1 = ((k + 1 : Nat) : Int) := by omega
  rw [e]
  refine (probe_any h m (k + 1) hh hm (by omega) w).mono ?_
  rintro e w' ⟨v, rfl, hown, hb⟩
  have hl := places_length h m (k + 1)
  have hr := reads_own (k := .u64) (xs := placesL h m (k + 1)) (by rw [hl]; exact hown) (by omega)
  obtain ⟨g, cap, hv, _, _, hc, _⟩ := own_cells hown (Nat.succ_pos k)
  exact ⟨v, rfl, hr, hb, g, cap, hv, hc⟩
theorem equal_same (xs : List Nat) (v1 v2 : Value) (w : World) (h1 : Reads .u64 w v1 xs) (h2 : Reads .u64 w v2 xs) :
    Calls Try.prog 33 #[v1, v2] w fun e w' => e = .returned (.bool true) ∧ Below w.heap.size w w' := by
  refine (equal_u64 xs xs v1 v2 w h1 h2).mono ?_
  rintro e w' ⟨rfl, hb⟩
  exact ⟨ret_bool (by simp), hb⟩
/-- A beginning of what a slice holds. -/
theorem reads_take {w : World} {g cap : Nat} {xs : List Nat} {n k : Nat} (h : Reads .u64 w (.slice (some ⟨g, 0, none⟩) n cap) xs) (hk : k ≤ xs.length) :
    Reads .u64 w (.slice (some ⟨g, 0, none⟩) k cap) (xs.take k) := by
  obtain ⟨a, c, e, hx, hc, hr⟩ := h
  have hl : (xs.take k).length = k := by rw [List.length_take]; omega
  cases e
  refine ⟨_, cap, by rw [hl], by omega, by omega, fun hne => ?_⟩
  have hne2 : xs ≠ [] := by intro e; subst e; simp at hne
  obtain ⟨g', off, e, hg, hcell⟩ := hr hne2
  refine ⟨g', off, e, hg, fun i x hi => hcell i x ?_⟩
  rw [List.getElem?_take] at hi
  split at hi
  · exact hi
  · cases hi
set_option maxRecDepth 100000 in
set_option maxHeartbeats 2000000 in
theorem law_FnProbeAgain (h : Nat) (hh : h < 18446744073709551616) (m : Nat) (hm : m < 18446744073709551616) (n : Int) (_hn0 : -9223372036854775808 ≤ n) (_hn1 : n ≤ 9223372036854775807) (w : World) :
    Calls Try.prog 12 #[.int .u64 h, .int .u64 m, .int .i64 n] w fun e w' => e = .returned (.bool true) ∧ Below w.heap.size w w' := by
  clear _hn0 _hn1
  by_cases hm1 : 4096 ≤ m
  · go_enter Try.func12, Try.ntmps12
    go_wp2_with fail
    go_ret
    exact ⟨rfl, Below.refl _ _⟩
  have hm2 : m < 4096 := by omega
  clear hm1
  by_cases hp : powB (m + 1) = true
  · by_cases hn2 : n < 1
    · go_enter Try.func12, Try.ntmps12
      go_wp2_with fail
      refine (power_succG m hm2 _).mono ?_
      rintro e w' ⟨rfl, rfl⟩
      go_wp2_with fail
      go_ret
      exact ⟨rfl, Below.refl _ _⟩
    by_cases hn3 : 4096 < n
    · go_enter Try.func12, Try.ntmps12
      go_wp2_with fail
      refine (power_succG m hm2 _).mono ?_
      rintro e w' ⟨rfl, rfl⟩
      go_wp2_with fail
      go_ret
      exact ⟨rfl, Below.refl _ _⟩
    obtain ⟨k, rfl⟩ : ∃ k : Nat, n = (k : Int) + 1 := ⟨(n - 1).toNat, by omega⟩
    have hk : k ≤ 4095 := by omega
    obtain ⟨j, hj, hmj⟩ := mask_pow m hm2 hp
    have HH : Hid (placesL (h &&& m) m (k + 1) = placesL h m (k + 1)) := Lib.hid (by rw [hmj]; exact places_hash h j (k + 1) hj)
    have ha := u64_and_nat h m hh hm
    have hlt : h &&& m < 18446744073709551616 := Nat.lt_of_le_of_lt Nat.and_le_left hh
    clear hmj hn2 hn3
    go_enter Try.func12, Try.ntmps12
    go_wp2_with fail
    refine (power_succG m hm2 _).mono ?_
    rintro e w' ⟨rfl, rfl⟩
    go_wp2_with fail
    refine (probe_reads1 h m k hh hm hk _).mono ?_
    rintro e w1 ⟨v1, rfl, r1, hb1, hform⟩
    obtain ⟨g, cap, rfl, hcap⟩ := hform
    have rt : Reads .u64 w1 (.slice (some ⟨g, 0, none⟩) k cap) (placesL h m k) := by
      have := reads_take (k := k) r1 (by rw [places_length]; omega)
      rwa [places_take] at this
    have R1 := Lib.hid r1
    have RT := Lib.hid rt
    clear r1 rt
    have hwk : IntKind.i64.wrap (k : Int) = (k : Int) := by rw [IntKind.wrap_i64]; omega
    have hk0 : (0 : Int) ≤ (k : Int) := by omega
    have hkc : (k : Int) ≤ (cap : Int) := by omega
    have hkn : (k : Int).toNat = k := by omega
    go_wp2_with fail
    go_region_held3 (fun _ => True) (exact trivial)
      (first
        | (go_at_call_of 30 (Value.int IntKind.u64 ((h : Nat) : Int)); refine (probe_reads h m k hh hm hk _).mono ?_; rintro e w2 ⟨v2, rfl, r2, hb2⟩; have R2 := Lib.hid r2; have HB2 : Hid (Below w1.heap.size w1 w2) := Lib.hid ((Below.refl _ w1).drew.trans hb2); clear r2 hb2)
        | (go_at_call_of 33 (Value.slice (some ⟨g, 0, none⟩) k cap); refine (equal_same (placesL h m k) _ _ _ R2.out (RT.out.below HB2.out)).mono ?_; rintro e w3 ⟨rfl, hb3⟩; have HB3 : Hid (Below w1.heap.size w1 w3) := Lib.hid (HB2.out.trans (hb3.mono HB2.out.size)); clear hb3)
        | (go_at_call_of 30 (Value.int IntKind.u64 ((h &&& m : Nat) : Int)); refine (probe_reads1 (h &&& m) m k hlt hm hk _).mono ?_; rintro e w4 ⟨v4, rfl, r4, hb4, _⟩; rw [HH.out] at r4; have R4 := Lib.hid r4; have HB4 : Hid (Below w1.heap.size w1 w4) := Lib.hid (HB3.out.trans (hb4.mono HB3.out.size)); clear r4 hb4)
        | (go_at_call 33; refine (equal_same (placesL h m (k + 1)) _ _ _ R4.out (R1.out.below HB4.out)).mono ?_; rintro e w5 ⟨rfl, hb5⟩; have HB5 : Hid (Below w1.heap.size w1 w5) := Lib.hid (HB4.out.trans (hb5.mono HB4.out.size)); clear hb5))
    go_wp2_with fail
    go_ret
    exact ⟨rfl, hb1.trans (HB5.out.mono hb1.size)⟩
  · have hp' : powB (m + 1) = false := by simpa using hp
    clear hp
    go_enter Try.func12, Try.ntmps12
    go_wp2_with fail
    refine (power_succG m hm2 _).mono ?_
    rintro e w' ⟨rfl, rfl⟩
    go_wp2_with fail
    go_ret
    exact ⟨rfl, Below.refl _ _⟩
end Go.Proofs.Ytejgndndjbdlaaa
