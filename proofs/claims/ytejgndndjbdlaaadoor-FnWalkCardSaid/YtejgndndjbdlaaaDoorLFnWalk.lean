/-
  The walk of the law FnWalk: first slot by first slot, a set is walked through in order.
-/
import Derived.Test.YtejgndndjbdlaaaDoorOf
import Derived.Test.YtejgndndjbdlaaaDoorHolds
namespace Go.Proofs.YtejgndndjbdlaaaDoor
open Go.RowKit

def pW (b : Nat) : Bool := decide (b < 128)
theorem lit_W (b : Nat) (_hb : b < 256) (w : World) : Calls Tryd.prog 13 #[.int .u8 (b : Int)] w fun e w' => e = .returned (.bool (pW b)) ∧ w = w' := by
  go_enter Tryd.func13, Tryd.ntmps13
  go_wp2
  go_ret
  exact ⟨ret_bool (by unfold pW; rw [Bool.eq_iff_iff]; simp; try omega), rfl⟩
/-- y is the set that has left what a list has from j on. -/
def LeftW (xs : List Nat) (j y : Nat) : Prop := ∃ m, m < 256 ∧ y = spread m ∧ slotL m = xs.drop j
theorem spread_pos : ∀ m, m < 256 → m ≠ 0 → 0 < spread m := by decide +kernel
theorem LeftW.lt {xs : List Nat} {j y : Nat} (h : LeftW xs j y) : y < 18446744073709551616 := by
  obtain ⟨m, _, rfl, _⟩ := h
  exact spread_lt m
theorem LeftW.step {xs : List Nat} {j y x : Nat} (h : LeftW xs j y) (hx : xs[j]? = some x) :
    0 < y ∧ popW y = xs.length - j ∧ tzW y / 8 = x ∧ ∃ y', lessFirstW y = y' ∧ LeftW xs (j + 1) y' := by
  obtain ⟨m, hm, rfl, hs⟩ := h
  obtain ⟨hj, e⟩ := List.getElem?_eq_some_iff.1 hx
  have hd : xs.drop j = x :: xs.drop (j + 1) := by rw [List.drop_eq_getElem_cons hj, e]
  have h0 : m ≠ 0 := by
    intro h
    subst h
    rw [hd] at hs
    exact absurd hs (by rw [show slotL 0 = [] from by decide]; simp)
  have ht := tzW_spread m hm h0
  rw [hs, hd] at ht
  refine ⟨spread_pos m hm h0, ?_, ?_, _, rfl, restM m, restM_lt m hm, lessFirstW_spread m hm, ?_⟩
  · rw [popW_spread m hm, hs, List.length_drop]
  · simpa using ht.symm
  · rw [slotL_rest m hm, hs, hd]
    rfl
theorem LeftW.done {xs : List Nat} {y : Nat} (h : LeftW xs xs.length y) : y = 0 := by
  obtain ⟨m, hm, rfl, hs⟩ := h
  rw [List.drop_length] at hs
  rw [slotL_nil m hm hs]
  decide
theorem full_W (n : Nat) : LeftW (whereOf pW n) 0 (fullW n) ∧ slotsOf (fullW n) = whereOf pW n := by
  have hm := mask_lt fun i => pW (byt n i)
  have e : fullW n = spread (mask fun i => pW (byt n i)) := fullW_eq n
  refine ⟨⟨_, hm, e, by rw [slotL_where]; rfl⟩, ?_⟩
  rw [e, slotsOf_spread _ hm, slotL_where]
theorem count_left (y L j : Nat) (hy : y < 18446744073709551616) (hj : j ≤ L) (hp : popW y = L - j) (w : World) :
    Calls Tryd.prog 9 #[.int .u64 y] w fun e w' => e = .returned (.int .i64 ((L : Int) - (j : Int))) ∧ w = w' := by
  have e : ((L : Int) - (j : Int)) = ((L - j : Nat) : Int) := by omega
  rw [e]
  exact count_of y (L - j) hy hp w

set_option maxRecDepth 100000 in
set_option maxHeartbeats 1600000 in
theorem law_FnWalk (n : Nat) (hn : n < 18446744073709551616) (w : World) (hT : Tab w) :
    Calls Tryd.prog 4 #[.int .u64 n] w fun e w' => e = .returned (.bool true) ∧ Below w.heap.size w w' := by
  have HT := Lib.hid hT
  clear hT
  by_cases hw : wellB n = true
  · go_enter Tryd.func4, Tryd.ntmps4
    go_wp2_with fail
    refine (well_any n hn _).mono ?_
    rintro e w1 ⟨rfl, hb1⟩
    go_wp2_with fail
    refine (where_FnWalk n hn pW _ (fun b wx hb _ => lit_W b hb wx)).mono ?_
    rintro e w2 ⟨v, rfl, hown, hb2, -⟩
    have hr := reads_where hown
    have HB2 : Hid (Below w.heap.size w w2) := Lib.hid (hb1.trans (hb2.mono hb1.size))
    have HP := full_W n
    have HL := whereOf_length_le pW n
    have HX : ∀ x ∈ whereOf pW n, x < 8 := whereOf_lt pW n
    clear hown hb2 hb1
    obtain ⟨xs, hxs⟩ : ∃ xs, xs = whereOf pW n := ⟨_, rfl⟩
    rw [← hxs] at hr HP HL HX
    clear hxs
    obtain ⟨F, hF⟩ : ∃ F, fullW n = F := ⟨_, rfl⟩
    have hFl : F < 18446744073709551616 := by rw [← hF]; exact fullW_lt n
    rw [hF] at HP
    have HF := Lib.hid hF
    have HPh := Lib.hid HP
    have HRr := Lib.hid hr
    clear hF HP
    obtain ⟨a, cap, rfl, hle, hcap, hr⟩ := hr
    obtain ⟨L, hL⟩ : ∃ L, L = xs.length := ⟨_, rfl⟩
    rw [← hL] at hle hcap HL HRr ⊢
    have HLh := Lib.hid hL
    clear hL
    have HR := Lib.hid hr
    have HXh := Lib.hid HX
    clear hr HX
    go_wp2_with fail
    refine (full_of n F hn HF.out _).mono ?_
    rintro e w3 ⟨rfl, rfl⟩
    go_wp2_with fail
    go_loopw [4, 16] (fun s k wr => ∃ j : Nat, j ≤ L ∧ k = .int .i64 j ∧ (∃ y : Nat, s = .int .u64 y ∧ Hid (LeftW xs j y)) ∧ Below w2.heap.size w2 wr) (fun _ k _ => L - (intOf k).toNat)
    case atStart => exact ⟨0, by omega, rfl, ⟨F, rfl, Lib.hid HPh.out.1⟩, Below.refl _ _⟩
    case round =>
      obtain ⟨j, hj, rfl, ⟨y, rfl, HY⟩, hbel⟩ := hrel
      have hyl := HY.out.lt
      by_cases hlt : j < L
      · have hjx : j < xs.length := by rw [← HLh.out]; exact hlt
        have hx : xs[j]? = some xs[j] := List.getElem?_eq_getElem hjx
        obtain ⟨x, hxe⟩ : ∃ x, x = xs[j] := ⟨_, rfl⟩
        rw [← hxe] at hx
        have hx8 : x < 8 := by rw [hxe]; exact HXh.out _ (List.getElem_mem _)
        have hne : xs ≠ [] := by intro h; subst h; simp at hjx
        clear hxe hjx
        obtain ⟨g, off, rfl, hg, hcell⟩ := HR.out hne
        have hc := (hbel.cell (p := ⟨g, off + j, none⟩) hg).trans (hcell j x hx)
        obtain ⟨hy0, hp, ht, y', hy', hn'⟩ := HY.out.step hx
        have hyl' := hn'.lt
        rw [← HLh.out] at hp
        have HPp := Lib.hid hp
        have HTt := Lib.hid ht
        have HYy := Lib.hid hy'
        have HNn := Lib.hid hn'
        have HTr : Hid (Tab wr) := Lib.hid (HT.out.below (HB2.out.trans (hbel.mono HB2.out.size)))
        have HBr := Lib.hid hbel
        clear hne hcell hx hp ht hy' hn' hbel
        go_wp2_with fail
        refine (count_left y L j hyl hj HPp.out _).mono ?_
        rintro e w3 ⟨rfl, rfl⟩
        go_wp2_with fail
        refine (first_of y x hyl hy0 HTt.out _ HTr.out).mono ?_
        rintro e w3 ⟨rfl, rfl⟩
        go_wp2_with fail
        refine (less_of y y' hyl HYy.out _).mono ?_
        rintro e w3 ⟨rfl, rfl⟩
        go_wp2_with fail
        go_roundw
        case rel => exact ⟨j + 1, by omega, by go_num, ⟨y', rfl, HNn⟩, HBr.out⟩
        case measure => simp [intOf]; omega
      · obtain rfl : j = L := by omega
        have hy0 : y = 0 := LeftW.done (by have := HY.out; rwa [← HLh.out])
        subst hy0
        have HB3 : Hid (Below w.heap.size w wr) := Lib.hid (HB2.out.trans (hbel.mono HB2.out.size))
        have HR3 := Lib.hid (HRr.out.below hbel)
        clear hbel
        go_wp2_with fail
        refine (count_of 0 0 (by decide) (by decide) _).mono ?_
        rintro e w3 ⟨rfl, rfl⟩
        go_wp2_with fail
        refine (low_of 0 false (by decide) (by decide) _).mono ?_
        rintro e w3 ⟨rfl, rfl⟩
        go_wp2_with fail
        refine (full_of n F hn HF.out _).mono ?_
        rintro e w3 ⟨rfl, rfl⟩
        go_wp2_with fail
        refine (holds_yes F hFl xs _ _ HR3.out HPh.out.2).mono ?_
        rintro e w4 ⟨rfl, hb4⟩
        go_wp2_with fail
        go_ret
        exact ⟨rfl, HB3.out.trans (hb4.mono HB3.out.size)⟩
  · have hw' : wellB n = false := by simpa using hw
    clear hw
    go_enter Tryd.func4, Tryd.ntmps4
    go_wp2_with fail
    refine (well_any n hn _).mono ?_
    rintro e w1 ⟨rfl, hb1⟩
    go_wp2
    go_ret
    exact ⟨rfl, hb1⟩
end Go.Proofs.YtejgndndjbdlaaaDoor
