/-
  The walk of the law FnExactFirst: the first slot of the full ones, and how many they are.
-/
import Derived.Test.YtejgndndjbdlaabDoorOf
import Derived.Test.YtejgndndjbdlaabDoorHolds
import Derived.Deep.RegionHeld3
namespace Go.Proofs.YtejgndndjbdlaabDoor
open Go.RowKit

def pEF (b : Nat) : Bool := decide (b < 128)
theorem lit_EF (b : Nat) (_hb : b < 256) (w : World) : Calls Tryd.prog 14 #[.int .u8 (b : Int)] w fun e w' => e = .returned (.bool (pEF b)) ∧ w = w' := by
  go_enter Tryd.func14, Tryd.ntmps14
  go_wp2
  go_ret
  exact ⟨ret_bool (by unfold pEF; rw [Bool.eq_iff_iff]; simp; try omega), rfl⟩
theorem spread_pos : ∀ m, m < 256 → m ≠ 0 → 0 < spread m := by decide +kernel
theorem plain_EF (n x : Nat) (r : List Nat) (h : whereOf pEF n = x :: r) : 0 < fullW n ∧ tzW (fullW n) / 8 = x ∧ popW (fullW n) = r.length + 1 := by
  have hm := mask_lt fun i => pEF (byt n i)
  have e : fullW n = spread (mask fun i => pEF (byt n i)) := fullW_eq n
  have hs : slotL (mask fun i => pEF (byt n i)) = x :: r := by rw [slotL_where, h]
  generalize (mask fun i => pEF (byt n i)) = m at hm e hs
  have h0 : m ≠ 0 := by
    intro h
    subst h
    exact absurd hs (by rw [show slotL 0 = [] from by decide]; simp)
  have ht := tzW_spread m hm h0
  rw [hs] at ht
  refine ⟨by rw [e]; exact spread_pos m hm h0, by rw [e]; simpa using ht.symm, ?_⟩
  rw [e, popW_spread m hm, hs]
  rfl
theorem count_succ (y k : Nat) (hy : y < 18446744073709551616) (hp : popW y = k + 1) (w : World) :
    Calls Tryd.prog 16 #[.int .u64 y] w fun e w' => e = .returned (.int .i64 ((k : Int) + 1)) ∧ w = w' :=
  count_of y (k + 1) hy hp w

set_option maxRecDepth 100000 in
set_option maxHeartbeats 1600000 in
theorem law_FnExactFirst (n : Nat) (hn : n < 18446744073709551616) (w : World) (hT : Tab w) :
    Calls Tryd.prog 4 #[.int .u64 n] w fun e w' => e = .returned (.bool true) ∧ Below w.heap.size w w' := by
  have HT := Lib.hid hT
  clear hT
  go_enter Tryd.func4, Tryd.ntmps4
  go_wp2_with fail
  refine (where_FnExactFirst n hn pEF _ (fun b wx hb _ => lit_EF b hb wx)).mono ?_
  rintro e w1 ⟨v, rfl, hown, hb1, hnil⟩
  by_cases hw : wellB n = true
  · by_cases h0 : whereN pEF n 8 = 0
    · have hv := hnil h0
      subst hv
      clear hnil hown
      go_wp2_with fail
      refine (well_any n hn _).mono ?_
      rintro e w2 ⟨rfl, hb2⟩
      go_wp2_with fail
      go_ret
      exact ⟨rfl, hb1.trans (hb2.mono hb1.size)⟩
    · have hr := reads_where hown
      have HX : ∀ x ∈ whereOf pEF n, x < 8 := whereOf_lt pEF n
      have HL := whereOf_length_le pEF n
      have h1 : (whereOf pEF n).length ≠ 0 := h0
      have hp := plain_EF n
      clear hnil hown h0
      obtain ⟨xs, hxs⟩ : ∃ xs, xs = whereOf pEF n := ⟨_, rfl⟩
      rw [← hxs] at hr HX HL h1 hp
      clear hxs
      obtain ⟨x, r, rfl⟩ : ∃ x r, xs = x :: r := by
        cases xs with
        | nil => exact absurd rfl h1
        | cons x r => exact ⟨x, r, rfl⟩
      obtain ⟨hF0, ht, hc⟩ := hp x r rfl
      have hx8 : x < 8 := HX x (by simp)
      obtain ⟨F, hF⟩ : ∃ F, fullW n = F := ⟨_, rfl⟩
      have hFl : F < 18446744073709551616 := by rw [← hF]; exact fullW_lt n
      rw [hF] at hF0 ht hc
      obtain ⟨k, hk⟩ : ∃ k, r.length = k := ⟨_, rfl⟩
      obtain ⟨a, cap, rfl, hle, hcap, hr⟩ := hr
      obtain ⟨g, off, rfl, hg, hcell⟩ := hr (by simp)
      have hc0 := hcell 0 x rfl
      simp only [List.length_cons, Nat.add_zero] at hle hcap HL hc0 ⊢
      rw [hk] at hle hcap HL hc ⊢
      have HF := Lib.hid hF
      have HTt := Lib.hid ht
      have HC := Lib.hid hc
      clear hF ht hc hp hr hcell HX h1 hk r
      go_wp2_with fail
      refine (well_any n hn _).mono ?_
      rintro e w2 ⟨rfl, hb2⟩
      have HB2 : Hid (Below w.heap.size w w2) := Lib.hid (hb1.trans (hb2.mono hb1.size))
      have HT2 : Hid (Tab w2) := Lib.hid (HT.out.below HB2.out)
      have hc2 := (hb2.cell (p := ⟨g, off, none⟩) hg).trans hc0
      have l1 : (1 : Int) ≤ (k : Int) + 1 := by omega
      have l2 : (k : Int) + 1 ≤ (cap : Int) := by omega
      have l3 : IntKind.u64.wrap (x : Int) = (x : Int) := by rw [u64_wrap, Nat.mod_eq_of_lt (by omega)]
      clear hb2 hc0
      go_wp2_with fail
      go_region_held3 (fun wx => wx.cell? ⟨g, off, none⟩ = some (.int .i64 (x : Int)) ∧ Tab wx) (exact ⟨hc2, HT2.out⟩) (first
          | (go_at_call 15; refine (full_of n F hn HF.out _).mono ?_; rintro e w' ⟨rfl, rfl⟩)
          | (go_at_call 13; refine (first_of F x hFl hF0 HTt.out _ (HT2.out.below (Below.refl _ _).drew)).mono ?_; rintro e w' ⟨rfl, rfl⟩)
          | (go_at_call 16; refine (count_succ F k hFl HC.out _).mono ?_; rintro e w' ⟨rfl, rfl⟩))
      go_wp2_with fail
      go_ret
      exact ⟨rfl, HB2.out.drew⟩
  · have hw' : wellB n = false := by simpa using hw
    obtain ⟨a, cap, rfl⟩ := own_len hown
    clear hw hnil hown
    go_wp2_with fail
    refine (well_any n hn _).mono ?_
    rintro e w2 ⟨rfl, hb2⟩
    go_wp2_with fail
    go_ret
    exact ⟨rfl, hb1.trans (hb2.mono hb1.size)⟩
end Go.Proofs.YtejgndndjbdlaabDoor
