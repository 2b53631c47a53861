/-
  The walk of the law FnExactRemoveFirst: a set without its first slot has the others.
-/
import Derived.Test.YtejgndndjbdlaabHolds
import Derived.Deep.RegionHeld3
namespace Go.Proofs.Ytejgndndjbdlaab
open Go.RowKit

def pRF (b : Nat) : Bool := decide (b < 128)
theorem lit_RF (b : Nat) (_hb : b < 256) (w : World) : Calls Try.prog 19 #[.int .u8 (b : Int)] w fun e w' => e = .returned (.bool (pRF b)) ∧ w = w' := by
  go_enter Try.func19, Try.ntmps19
  go_wp2
  go_ret
  exact ⟨ret_bool (by unfold pRF; rw [Bool.eq_iff_iff]; simp; try omega), rfl⟩
theorem full_where (n : Nat) : slotsOf (fullW n) = whereOf pRF n := by
  rw [fullW_eq, slotsOf_spread _ (mask_lt _)]
  exact slotL_where pRF n
theorem less_where (n : Nat) : slotsOf (lessFirstW (fullW n)) = (whereOf pRF n).tail ∧ lessFirstW (fullW n) < 18446744073709551616 := by
  have hm := mask_lt fun i => pRF (byt n i)
  have e : fullW n = spread (mask fun i => pRF (byt n i)) := fullW_eq n
  rw [e, lessFirstW_spread _ hm]
  refine ⟨?_, spread_lt _⟩
  rw [slotsOf_spread _ (restM_lt _ hm), slotL_rest _ hm, slotL_where]
/-- All but the first of what a slice holds. -/
theorem reads_tail {w : World} {g off cap n : Nat} {x : Nat} {xs : List Nat} (h : Reads .i64 w (.slice (some ⟨g, off, none⟩) n cap) (x :: xs)) (a : Option Addr) (ha : xs ≠ [] → a = some ⟨g, off + 1, none⟩) :
    Reads .i64 w (.slice a (n - 1) (cap - 1)) xs := by
  obtain ⟨a', c, e, hx, hc, hr⟩ := h
  cases e
  refine ⟨a, cap - 1, by simp, by simp at hx; omega, by simp at hc; omega, fun hne => ?_⟩
  obtain ⟨g', off', e, hg, hcell⟩ := hr (by simp)
  cases e
  refine ⟨g, off + 1, ha hne, hg, fun i y hi => ?_⟩
  have := hcell (i + 1) y (by simpa using hi)
  rwa [show off + (i + 1) = off + 1 + i from by omega] at this

set_option maxHeartbeats 1000000 in
theorem law_FnExactRemoveFirst (n : Nat) (hn : n < 18446744073709551616) (w : World) :
    Calls Try.prog 6 #[.int .u64 n] w fun e w' => e = .returned (.bool true) ∧ Below w.heap.size w w' := by
  go_enter Try.func6, Try.ntmps6
  go_wp2_with fail
  refine (where_FnExactRemoveFirst n hn pRF _ (fun b wx hb _ => lit_RF b hb wx)).mono ?_
  rintro e w1 ⟨v, rfl, hown, hb1, hnil⟩
  by_cases hw : wellB n = true
  · by_cases h0 : whereN pRF n 8 = 0
    · have hv := hnil h0
      subst hv
      clear hnil hown
      go_wp2_with fail
      refine (well_any n hn _).mono ?_
      rintro e w2 ⟨rfl, hb2⟩
      go_wp2_with fail
      go_ret
      exact ⟨rfl, hb1.trans (hb2.mono hb1.size)⟩
    · have hr := reads_where hown
      obtain ⟨g, cap, rfl, hg, hgs, hnc, hcap, hcell, hfr⟩ := own_cells hown (by omega)
      obtain ⟨k, hk⟩ : ∃ k, whereN pRF n 8 = k + 1 := ⟨whereN pRF n 8 - 1, by omega⟩
      rw [hk] at hr hnc
      have HR := Lib.hid hr
      have HK := Lib.hid hk
      clear hnil hown hcell hfr hr h0
      rw [HK.out]
      clear hk
      go_wp2_with fail
      refine (well_any n hn _).mono ?_
      rintro e w2 ⟨rfl, hb2⟩
      have HB2 : Hid (Below w.heap.size w w2) := Lib.hid (hb1.trans (hb2.mono hb1.size))
      have HR2 := Lib.hid (HR.out.below hb2)
      clear hb2
      obtain ⟨x, r, hx⟩ : ∃ x r, whereOf pRF n = x :: r := by
        have hl : (whereOf pRF n).length = k + 1 := HK.out
        cases e : whereOf pRF n with
        | nil => rw [e] at hl; simp at hl
        | cons x r => exact ⟨x, r, rfl⟩
      have htl : (whereOf pRF n).tail = r := by rw [hx]; rfl
      by_cases hc1 : cap = 1
      · obtain rfl : k = 0 := by omega
        subst hc1
        have RT : Hid (Reads .i64 w2 (.slice (some ⟨g, 0, none⟩) 0 0) (whereOf pRF n).tail) := Lib.hid (by
          have h1 := HR2.out
          rw [hx] at h1
          have hr0 : r = [] := by
            have hl : (whereOf pRF n).length = 0 + 1 := HK.out
            rw [hx] at hl
            exact List.length_eq_zero_iff.1 (by simpa using hl)
          rw [htl]
          exact reads_tail h1 _ (fun hne => absurd hr0 hne))
        clear hx htl
        go_wp2_with fail
        go_region_held3 (fun _ => True) (exact trivial) (first
          | (go_at_call 12; refine (full_any n hn _).mono ?_; rintro e w' ⟨rfl, rfl⟩)
          | (go_at_call 20; refine (less_any _ (fullW_lt n) _).mono ?_; rintro e w' ⟨rfl, rfl⟩)
          | (go_at_call_of 11 (Value.int IntKind.u64 ((fullW n : Nat) : Int)); refine (holds_yes _ (fullW_lt n) _ _ _ (HR2.out.below (Below.refl _ _).drew) (full_where n)).mono ?_; rintro e w3 ⟨rfl, hb3⟩; have HB3 : Hid (Below w2.heap.size w2 w3) := Lib.hid ((Below.refl _ w2).drew.trans hb3); clear hb3)
          | (go_at_call 11; refine (holds_yes _ (less_where n).2 _ _ _ (RT.out.below HB3.out) (less_where n).1).mono ?_; rintro e w4 ⟨rfl, hb4⟩; have HB4 : Hid (Below w2.heap.size w2 w4) := Lib.hid (HB3.out.trans (hb4.mono HB3.out.size)); clear hb4))
        go_wp2_with fail
        go_ret
        exact ⟨rfl, HB2.out.trans (HB4.out.mono HB2.out.size)⟩
      · have l1 : (1 : Int) ≤ (k : Int) + 1 := by omega
        have l2 : (k : Int) + 1 ≤ (cap : Int) := by omega
        have l3 : (1 : Int) ≤ (cap : Int) := by omega
        have RT : Hid (Reads .i64 w2 (.slice (some ⟨g, 1, none⟩) k (cap - 1)) (whereOf pRF n).tail) := Lib.hid (by
          have h1 := HR2.out
          rw [hx] at h1
          rw [htl]
          exact reads_tail h1 _ (fun _ => rfl))
        clear hx htl
        go_wp2_with fail
        go_region_held3 (fun _ => True) (exact trivial) (first
          | (go_at_call 12; refine (full_any n hn _).mono ?_; rintro e w' ⟨rfl, rfl⟩)
          | (go_at_call 20; refine (less_any _ (fullW_lt n) _).mono ?_; rintro e w' ⟨rfl, rfl⟩)
          | (go_at_call_of 11 (Value.int IntKind.u64 ((fullW n : Nat) : Int)); refine (holds_yes _ (fullW_lt n) _ _ _ (HR2.out.below (Below.refl _ _).drew) (full_where n)).mono ?_; rintro e w3 ⟨rfl, hb3⟩; have HB3 : Hid (Below w2.heap.size w2 w3) := Lib.hid ((Below.refl _ w2).drew.trans hb3); clear hb3)
          | (go_at_call 11; refine (holds_yes _ (less_where n).2 _ _ _ (RT.out.below HB3.out) (less_where n).1).mono ?_; rintro e w4 ⟨rfl, hb4⟩; have HB4 : Hid (Below w2.heap.size w2 w4) := Lib.hid (HB3.out.trans (hb4.mono HB3.out.size)); clear hb4))
        go_wp2_with fail
        go_ret
        exact ⟨rfl, HB2.out.trans (HB4.out.mono HB2.out.size)⟩
  · have hw' : wellB n = false := by simpa using hw
    obtain ⟨a, cap, rfl⟩ := own_len hown
    clear hw hnil hown
    go_wp2_with fail
    refine (well_any n hn _).mono ?_
    rintro e w2 ⟨rfl, hb2⟩
    go_wp2_with fail
    go_ret
    exact ⟨rfl, hb1.trans (hb2.mono hb1.size)⟩
end Go.Proofs.Ytejgndndjbdlaab
