/-
  The walk of the law FnProbeAll: a search visits every group once.
-/
import Derived.Test.YtejgndndjbdlaaaAll
namespace Go.Proofs.Ytejgndndjbdlaaa
open Go.RowKit

theorem reads_wordsA {w : World} {v : Value} {B n : Nat} {xs : List Nat} (h : w.ownsRow B 22 1 v n (wordV xs)) (hl : xs.length = n) (hn : n ≤ 4096) : Reads .u64 w v xs := by
  subst hl
  exact reads_own h (by omega)
theorem power_succA (m : Nat) (hm : m < 4096) (w : World) :
    Calls Try.prog 13 #[.int .u64 ((m : Int) + 1)] w fun e w' => e = .returned (.bool (powB (m + 1))) ∧ w = w' := by
  have e : (m : Int) + 1 = ((m + 1 : Nat) : Int) := by omega
  rw [e]
  exact power_any (m + 1) (by omega) w
theorem probe_succ (h m : Nat) (hh : h < 18446744073709551616) (hm : m < 4096) (w : World) :
    Calls Try.prog 30 #[.int .u64 h, .int .u64 m, .int .i64 ((m : Int) + 1)] w fun e w' => ∃ v, e = .returned v ∧ w'.ownsRow w.heap.size 22 1 v (m + 1) (wordV (placesL h m (m + 1))) ∧ Below w.heap.size w w' := by
  have e : (m : Int) + 1 = ((m + 1 : Nat) : Int) := by omega
  rw [e]
  exact probe_any h m (m + 1) hh (by omega) (by omega) w
theorem places_at (h m n k x : Nat) (hx : (placesL h m n)[k]? = some x) : k < n ∧ placeO h m k = x := by
  have hk : k < n := by
    have := (List.getElem?_eq_some_iff.1 hx).1
    simpa [placesL] using this
  refine ⟨hk, ?_⟩
  simpa [placesL, hk] using hx
theorem places_all (h j : Nat) (hj : j ≤ 64) (k x : Nat) (hx : (placesL h (2 ^ j - 1) (2 ^ j))[k]? = some x) : x < 2 ^ j ∧ ¬ x ∈ (placesL h (2 ^ j - 1) (2 ^ j)).take k := by
  obtain ⟨hk, he⟩ := places_at _ _ _ _ _ hx
  refine ⟨?_, ?_⟩
  · rw [← he, placeO_tri h j hj]
    exact Nat.mod_lt _ (Nat.two_pow_pos j)
  · intro hmem
    obtain ⟨i, hi, e⟩ := List.getElem_of_mem hmem
    rw [List.length_take] at hi
    have hik : i < k := by omega
    have hx2 : (placesL h (2 ^ j - 1) (2 ^ j))[i]? = some x := by
      rw [List.getElem_take] at e
      rw [← e]
      exact List.getElem?_eq_getElem _
    obtain ⟨hi2, he2⟩ := places_at _ _ _ _ _ hx2
    have := places_nodup h j hj i k hi2 hk (by rw [he, he2])
    omega
theorem all_succ (h m : Nat) (v : Value) (w : World) (hm : m < 4096) (hp : powB (m + 1) = true) (hr : Reads .u64 w v (placesL h m (m + 1))) :
    Calls Try.prog 29 #[v, .int .u64 ((m : Int) + 1)] w fun e w' => e = .returned (.bool true) ∧ Below w.heap.size w w' := by
  have e : (m : Int) + 1 = ((m + 1 : Nat) : Int) := by omega
  rw [e]
  obtain ⟨j, hj, hmj⟩ := mask_pow m hm hp
  have hpos := Nat.two_pow_pos j
  have e2 : m + 1 = 2 ^ j := by omega
  refine all_yes (placesL h m (m + 1)) (m + 1) v w hr (by omega) (by omega) (places_length _ _ _) ?_ ?_
  · intro k x hx
    rw [e2, hmj] at hx
    rw [e2]
    exact (places_all h j hj k x hx).1
  · intro k x hx
    rw [e2, hmj] at hx ⊢
    exact (places_all h j hj k x hx).2

set_option maxRecDepth 100000 in
set_option maxHeartbeats 1000000 in
theorem law_FnProbeAll (h : Nat) (hh : h < 18446744073709551616) (m : Nat) (hm : m < 18446744073709551616) (w : World) :
    Calls Try.prog 9 #[.int .u64 h, .int .u64 m] w fun e w' => e = .returned (.bool true) ∧ Below w.heap.size w w' := by
  by_cases hm1 : 4096 ≤ m
  · go_enter Try.func9, Try.ntmps9
    go_wp2_with fail
    go_ret
    exact ⟨rfl, Below.refl _ _⟩
  have hm2 : m < 4096 := by omega
  clear hm1
  by_cases hp : powB (m + 1) = true
  · go_enter Try.func9, Try.ntmps9
    go_wp2_with fail
    refine (power_succA m hm2 _).mono ?_
    rintro e w' ⟨rfl, rfl⟩
    go_wp2_with fail
    refine (probe_succ h m hh hm2 _).mono ?_
    rintro e w1 ⟨v1, rfl, hown1, hb1⟩
    have r1 := reads_wordsA hown1 (places_length h m (m + 1)) (by omega)
    clear hown1
    go_wp2_with fail
    refine (all_succ h m _ _ hm2 hp r1).mono ?_
    rintro e w2 ⟨rfl, hb2⟩
    clear r1
    go_wp2_with fail
    go_ret
    exact ⟨rfl, hb1.trans (hb2.mono hb1.size)⟩
  · have hp' : powB (m + 1) = false := by simpa using hp
    clear hp
    go_enter Try.func9, Try.ntmps9
    go_wp2_with fail
    refine (power_succA m hm2 _).mono ?_
    rintro e w' ⟨rfl, rfl⟩
    go_wp2_with fail
    go_ret
    exact ⟨rfl, Below.refl _ _⟩
end Go.Proofs.Ytejgndndjbdlaaa
