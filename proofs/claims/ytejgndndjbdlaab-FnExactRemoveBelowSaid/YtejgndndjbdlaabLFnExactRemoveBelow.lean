/-
  The walk of the law FnExactRemoveBelow: a set without the slots below i has the others.
-/
import Derived.Test.YtejgndndjbdlaabEight
namespace Go.Proofs.Ytejgndndjbdlaab
open Go.RowKit

def pRB (b : Nat) : Bool := decide (b < 128)
theorem lit_RB (b : Nat) (_hb : b < 256) (w : World) : Calls Try.prog 21 #[.int .u8 (b : Int)] w fun e w' => e = .returned (.bool (pRB b)) ∧ w = w' := by
  go_enter Try.func21, Try.ntmps21
  go_wp2
  go_ret
  exact ⟨ret_bool (by unfold pRB; rw [Bool.eq_iff_iff]; simp; try omega), rfl⟩
/-- What of the first j of a list is not below i. -/
def keptL (xs : List Nat) (i j : Nat) : List Nat := (xs.take j).filter fun x => decide (i ≤ x)
def keptV (xs : List Nat) (i j : Nat) : List Value := (keptL xs i j).map fun x => Value.int .i64 ((x : Nat) : Int)
def keptN (xs : List Nat) (i j : Nat) : Nat := (keptL xs i j).length
theorem kept_yes (xs : List Nat) (i j x : Nat) (h : xs[j]? = some x) (hi : i ≤ x) : keptV xs i (j + 1) = keptV xs i j ++ [.int .i64 (x : Int)] ∧ keptN xs i (j + 1) = keptN xs i j + 1 := by
  unfold keptV keptN keptL
  rw [List.take_add_one, h]
  simp [List.filter_append, hi]
theorem kept_no (xs : List Nat) (i j x : Nat) (h : xs[j]? = some x) (hi : ¬ i ≤ x) : keptV xs i (j + 1) = keptV xs i j ∧ keptN xs i (j + 1) = keptN xs i j := by
  unfold keptV keptN keptL
  rw [List.take_add_one, h]
  simp [List.filter_append, hi]
theorem keptN_le (xs : List Nat) (i j : Nat) : keptN xs i j ≤ j := by
  have := List.length_filter_le (fun x => decide (i ≤ x)) (xs.take j)
  have h2 : (xs.take j).length ≤ j := by rw [List.length_take]; omega
  exact Nat.le_trans this h2
theorem plain_RB (n i : Nat) (hi : i < 8) : slotsOf (lessBelowW (fullW n) i) = keptL (whereOf pRB n) i (whereOf pRB n).length ∧ lessBelowW (fullW n) i < 18446744073709551616 := by
  have hm := mask_lt fun i => pRB (byt n i)
  have e : fullW n = spread (mask fun i => pRB (byt n i)) := fullW_eq n
  have hb : (mask fun i => pRB (byt n i)) / 2 ^ i * 2 ^ i < 256 := Nat.lt_of_le_of_lt (Nat.div_mul_le_self _ _) hm
  rw [e, lessBelowW_spread _ hm i hi]
  refine ⟨?_, spread_lt _⟩
  rw [slotsOf_spread _ hb, slotL_below _ hm i hi, slotL_where, keptL, List.take_length]

set_option maxHeartbeats 1600000 in
theorem law_FnExactRemoveBelow (n : Nat) (hn : n < 18446744073709551616) (i : Nat) (_hi : i < 18446744073709551616) (w : World) :
    Calls Try.prog 7 #[.int .u64 n, .int .u64 i] w fun e w' => e = .returned (.bool true) ∧ Below w.heap.size w w' := by
  obtain ⟨i0, hi0, hz0, hz1, hz2⟩ := info_parts Try.infoInt
  by_cases hw : wellB n = true
  · by_cases h7 : i < 8
    · go_enter Try.func7, Try.ntmps7
      go_wp2_with fail
      refine (well_any n hn _).mono ?_
      rintro e w1 ⟨rfl, hb1⟩
      have HB1 := Lib.hid hb1
      go_wp2_with fail
      refine (where_FnExactRemoveBelow n hn pRB _ (fun b wx hb _ => lit_RB b hb wx)).mono ?_
      rintro e w2 ⟨v, rfl, hown, hb2, -⟩
      have hr := reads_where hown
      have HB2 : Hid (Below w.heap.size w w2) := Lib.hid (hb1.trans (hb2.mono hb1.size))
      have HP := plain_RB n i h7
      have HX : ∀ x ∈ whereOf pRB n, x < 8 := whereOf_lt pRB n
      have HL := whereOf_length_le pRB n
      clear hown hb2 hb1 HB1
      obtain ⟨xs, hxs⟩ : ∃ xs, xs = whereOf pRB n := ⟨_, rfl⟩
      rw [← hxs] at hr HP HX HL
      clear hxs
      have HPh := Lib.hid HP
      clear HP
      obtain ⟨a, cap, rfl, hle, hcap, hr⟩ := hr
      obtain ⟨L, hL⟩ : ∃ L, L = xs.length := ⟨_, rfl⟩
      rw [← hL] at hle hcap HL HPh ⊢
      have HLh := Lib.hid hL
      clear hL
      have HR := Lib.hid hr
      have HXh := Lib.hid HX
      clear hr HX
      go_wp2_with fail
      go_loopw [5, 18] (fun v k wr => ∃ j : Nat, j ≤ L ∧ k = .int .i64 j ∧ wr.ownsRow w2.heap.size 3 1 v (keptN xs i j) (keptV xs i j) ∧ Below w2.heap.size w2 wr) (fun _ k _ => L - (intOf k).toNat)
      case atStart => exact ⟨0, by omega, rfl, World.ownsRow_nil _ _ _ _, Below.refl _ _⟩
      case round =>
        obtain ⟨j, hj, rfl, hown, hbel⟩ := hrel
        by_cases hlt : j < L
        · have hjx : j < xs.length := by rw [← HLh.out]; exact hlt
          have hx : xs[j]? = some xs[j] := List.getElem?_eq_getElem hjx
          obtain ⟨x, hxe⟩ : ∃ x, x = xs[j] := ⟨_, rfl⟩
          rw [← hxe] at hx
          have hx8 : x < 8 := by rw [hxe]; exact HXh.out _ (List.getElem_mem _)
          have hne : xs ≠ [] := by intro h; subst h; simp at hjx
          clear hxe hjx
          obtain ⟨g, off, rfl, hg, hcell⟩ := HR.out hne
          have hc := (hbel.cell (p := ⟨g, off + j, none⟩) hg).trans (hcell j x hx)
          have hN := keptN_le xs i j
          clear hne hcell
          by_cases hix : i ≤ x
          · have HV := Lib.hid (kept_yes xs i j x hx hix)
            have hc3 : keptN xs i j + 1 ≤ maxLen := by unfold maxLen; omega
            have hc4 : (keptN xs i j + 1) * 8 ≤ 140737488355328 := by omega
            have HXj := Lib.hid hx
            clear hx
            go_wp2_with (at_builtin; refine wpList_append_own _ rfl _ _ 26 rfl w2.heap.size 3 i0 (.int .i64 0) 1 8 Try.underlying26 hi0 hz0 hz1 hz2 rfl (by decide) _ _ _ rfl (hown.alloc _) ⟨wr.heap.size, 0, none⟩ 1 1 [.int .i64 (x : Int)] rfl rfl (cell_one_new _ _ _) (one_int _ _) hc3 hc4 (le_alloc hbel (Nat.le_refl _) _) ?_)
            intro v' w3 hown' hgrow hnv
            have hbel' := grow_below hbel (Nat.le_refl _) hown hgrow
            rw [← HV.out.1] at hown'
            clear hgrow hown hbel hc3 hc4 hnv
            go_wp2
            go_roundw
            case rel => exact ⟨j + 1, by omega, by go_num, by rw [HV.out.2]; exact hown', hbel'⟩
            case measure => simp [intOf]; omega
          · have HV := Lib.hid (kept_no xs i j x hx hix)
            clear hx
            go_wp2
            go_roundw
            case rel => exact ⟨j + 1, by omega, by go_num, by rw [HV.out.1, HV.out.2]; exact hown, hbel⟩
            case measure => simp [intOf]; omega
        · obtain rfl : j = L := by omega
          have hkr := reads_own (k := .i64) (xs := keptL xs i j) hown (by have := keptN_le xs i j; show keptN xs i j ≤ _; omega)
          have HK := Lib.hid hkr
          have HB3 : Hid (Below w.heap.size w wr) := Lib.hid (HB2.out.trans (hbel.mono HB2.out.size))
          clear hown hkr hbel
          go_wp2_with fail
          refine (full_any n hn _).mono ?_
          rintro e w3 ⟨rfl, rfl⟩
          go_wp2_with fail
          refine (below_any _ i (fullW_lt n) h7 _).mono ?_
          rintro e w3 ⟨rfl, rfl⟩
          go_wp2_with fail
          refine (holds_yes _ HPh.out.2 _ _ _ HK.out HPh.out.1).mono ?_
          rintro e w3 ⟨rfl, hb3⟩
          go_wp2_with fail
          refine (full_zero _).mono ?_
          rintro e w4 ⟨rfl, rfl⟩
          go_wp2_with fail
          refine (below_zero _).mono ?_
          rintro e w4 ⟨rfl, rfl⟩
          go_wp2_with fail
          refine (all_eight _ _ (reads_eight _ _)).mono ?_
          rintro e w4 ⟨rfl, hb4⟩
          go_wp2_with fail
          go_ret
          have b2 := HB3.out.trans (hb3.mono HB3.out.size)
          have b3 := b2.alloc (o := .cells #[.int .i64 0, .int .i64 1, .int .i64 2, .int .i64 3, .int .i64 4, .int .i64 5, .int .i64 6, .int .i64 7] 3) b2.size
          exact ⟨rfl, b3.trans (hb4.mono b3.size)⟩
    · clear hi0 hz0 hz1 hz2
      go_enter Try.func7, Try.ntmps7
      go_wp2_with fail
      refine (well_any n hn _).mono ?_
      rintro e w1 ⟨rfl, hb1⟩
      go_wp2_with fail
      go_ret
      exact ⟨rfl, hb1⟩
  · have hw' : wellB n = false := by simpa using hw
    clear hw hi0 hz0 hz1 hz2
    go_enter Try.func7, Try.ntmps7
    go_wp2_with fail
    refine (well_any n hn _).mono ?_
    rintro e w1 ⟨rfl, hb1⟩
    go_wp2_with fail
    go_ret
    exact ⟨rfl, hb1⟩
end Go.Proofs.Ytejgndndjbdlaab
