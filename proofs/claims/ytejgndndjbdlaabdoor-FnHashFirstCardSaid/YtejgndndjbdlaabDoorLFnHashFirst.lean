/-
  The walk of the law FnHashFirst: the first slot of the set is the first with the hash.
-/
import Derived.Test.YtejgndndjbdlaabDoorOf
import Derived.Test.YtejgndndjbdlaabDoorHolds
import Derived.Deep.RegionHeld3
namespace Go.Proofs.YtejgndndjbdlaabDoor
open Go.RowKit

def pHF (h b : Nat) : Bool := decide (b = h)
theorem lit_HF (b h hb : Nat) (_hb : b < 256) (w : World) (hc : w.cell? ⟨hb, 0, none⟩ = some (.int .u64 (h : Int))) : Calls Tryd.prog 7 #[.int .u8 (b : Int), .pointer (some ⟨hb, 0, none⟩)] w fun e w' => e = .returned (.bool (pHF h b)) ∧ w = w' := by
  go_enter Tryd.func7, Tryd.ntmps7
  go_wp2
  go_ret
  exact ⟨ret_bool (by unfold pHF; rw [Bool.eq_iff_iff]; simp; try omega), rfl⟩
theorem spread_pos : ∀ m, m < 256 → m ≠ 0 → 0 < spread m := by decide +kernel
theorem plain_HF (n h : Nat) (hn : n < 18446744073709551616) (hh : h < 128) :
    (∀ y ∈ slotsOf (hashW n h), y < 8 ∧ (byt n y = h ∨ byt n y = h ^^^ 1)) ∧
    (whereOf (pHF h) n = [] → slotsOf (hashW n h) = [] ∧ (hashW n h &&& 128 != 0) = false) ∧
    (∀ x r, whereOf (pHF h) n = x :: r → 0 < hashW n h ∧ tzW (hashW n h) / 8 = x ∧ ∃ r', slotsOf (hashW n h) = x :: r') := by
  have e := hashW_eq n h hn
  have hm := mask_lt (hitOf n h)
  have hs : slotsOf (hashW n h) = (List.range 8).filter (hitOf n h) := by rw [e, slotsOf_spread _ hm, slotL_mask]
  have hw : whereOf (pHF h) n = (List.range 8).filter fun i => decide (byt n i = h) := rfl
  obtain ⟨f1, f2⟩ := hitOf_first n h hh 8 (Nat.le_refl _)
  refine ⟨fun y hy => ?_, fun h0 => ?_, fun x r hx => ?_⟩
  · rw [hs] at hy
    obtain ⟨hy1, hy2⟩ := List.mem_filter.1 hy
    have hy8 : y < 8 := by simpa using hy1
    exact ⟨hy8, hitOf_near n h hh y hy8 hy2⟩
  · rw [hw] at h0
    have hf := f2 h0
    refine ⟨?_, ?_⟩
    · rw [hs, List.filter_eq_nil_iff]
      intro y hy
      rw [hf y (by simpa using hy)]
      simp
    · rw [e, low_spread _ hm, mask_bit _ 0 (by decide), hf 0 (by decide)]
  · rw [hw] at hx
    rw [hx, ← hs] at f1
    have hs2 : slotsOf (hashW n h) = slotL (mask (hitOf n h)) := by rw [hs, slotL_mask]
    have h0 : mask (hitOf n h) ≠ 0 := by
      intro h0
      rw [hs2, h0] at f1
      exact absurd f1 (by rw [show slotL 0 = [] from by decide]; simp)
    have ht := tzW_spread _ hm h0
    rw [← hs2, f1, ← e] at ht
    refine ⟨by rw [e]; exact spread_pos _ hm h0, by simpa using ht.symm, ?_⟩
    cases hc : slotsOf (hashW n h) with
    | nil => rw [hc] at f1; simp at f1
    | cons a r' =>
      rw [hc] at f1
      have : a = x := by simpa using f1
      exact ⟨r', by rw [this]⟩
theorem xor_one (h : Nat) (hh : h < 128) : bits .xor .u64 (h : Int) 1 = ((h ^^^ 1 : Nat) : Int) := u64_xor_nat h 1 (by omega) (by decide)
/-- The first of what a slice holds. -/
theorem Reads.first {w : World} {a : Option Addr} {L cap x : Nat} {r : List Nat} (h : Reads .i64 w (.slice a L cap) (x :: r)) : ∃ g off k, a = some ⟨g, off, none⟩ ∧ L = k + 1 ∧ w.cell? ⟨g, off, none⟩ = some (.int .i64 (x : Int)) ∧ k + 1 ≤ cap := by
  obtain ⟨a', c, e, hx, hc, hr⟩ := h
  obtain ⟨g, off, ea, hg, hcell⟩ := hr (by simp)
  injection e with e1 e2 e3
  subst e1 e3
  refine ⟨g, off, r.length, ea, by rw [e2]; rfl, ?_, hc⟩
  have := hcell 0 x rfl
  rwa [Nat.add_zero] at this
theorem hash_of (n h s : Nat) (hn : n < 18446744073709551616) (hh : h < 18446744073709551616) (e : hashW n h = s) (w : World) :
    Calls Tryd.prog 5 #[.int .u64 n, .int .u64 h] w fun e w' => e = .returned (.int .u64 (s : Int)) ∧ w = w' := by
  subst e
  exact hash_any n h hn hh w

set_option maxRecDepth 100000 in
set_option maxHeartbeats 1600000 in
theorem law_FnHashFirst (n : Nat) (hn : n < 18446744073709551616) (h : Nat) (hh : h < 18446744073709551616) (w : World) (hT : Tab w) :
    Calls Tryd.prog 3 #[.int .u64 n, .int .u64 h] w fun e w' => e = .returned (.bool true) ∧ Below w.heap.size w w' := by
  have HT := Lib.hid hT
  clear hT
  obtain ⟨s, hse⟩ : ∃ s, hashW n h = s := ⟨_, rfl⟩
  have hsl : s < 18446744073709551616 := by rw [← hse]; exact hashW_lt n h
  have HP : Hid (h < 128 → _) := Lib.hid (plain_HF n h hn)
  rw [hse] at HP
  have HS := Lib.hid hse
  clear hse
  go_enter Tryd.func3, Tryd.ntmps3
  go_wp2_with fail
  refine (hash_of n h s hn hh HS.out _).mono ?_
  rintro e w1 ⟨rfl, rfl⟩
  go_wp2_with fail
  have hc0 : (w.alloc (Obj.cells #[.int .u64 (h : Int)] 22)).cell? ⟨w.heap.size, 0, none⟩ = some (.int .u64 (h : Int)) := World.cell?_alloc_at _ _ _ _ rfl
  have hb0 : Below w.heap.size w (w.alloc (Obj.cells #[.int .u64 (h : Int)] 22)) := (Below.refl _ w).alloc (Nat.le_refl _) _
  have hs0 : w.heap.size < (w.alloc (Obj.cells #[.int .u64 (h : Int)] 22)).heap.size := by simp
  generalize (w.alloc (Obj.cells #[.int .u64 (h : Int)] 22)) = w0 at hc0 hb0 hs0 ⊢
  refine (where_FnHashFirst n hn (pHF h) w.heap.size w0 (fun b wx hb hbel => lit_HF b h _ hb wx ((hbel.cell (p := ⟨w.heap.size, 0, none⟩) hs0).trans hc0))).mono ?_
  rintro e w1 ⟨v, rfl, hown, hb1, hnil⟩
  have hc1 := (hb1.cell (p := ⟨w.heap.size, 0, none⟩) hs0).trans hc0
  have hs1 : w.heap.size < w1.heap.size := Nat.lt_of_lt_of_le hs0 hb1.size
  have hB1 : Below w.heap.size w w1 := hb0.trans (hb1.mono (Nat.le_of_lt hs0))
  clear hc0 hb0 hb1
  by_cases hw : wellB n = true
  · by_cases h7 : h < 128
    · have hr := reads_where hown
      have HN := Lib.hid hnil
      have HB1 := Lib.hid hB1
      have HC1 := Lib.hid hc1
      clear hnil hown hB1 hc1
      go_wp2_with fail
      refine (well_any n hn _).mono ?_
      rintro e w2 ⟨rfl, hb2⟩
      have hc2 := (hb2.cell (p := ⟨w.heap.size, 0, none⟩) hs1).trans HC1.out
      have HR2 := Lib.hid (hr.below hb2)
      have HB2 : Hid (Below w.heap.size w w2) := Lib.hid (HB1.out.trans (hb2.mono HB1.out.size))
      have hs2 : w.heap.size < w2.heap.size := Nat.lt_of_lt_of_le hs1 hb2.size
      clear hb2 hr
      have HP1 := Lib.hid (HP.out h7)
      clear HP
      obtain ⟨xs, hxs⟩ : ∃ xs, xs = whereOf (pHF h) n := ⟨_, rfl⟩
      rw [← hxs] at HR2 HP1
      clear hxs
      obtain ⟨a, cap, rfl, hle, hcap, -⟩ := HR2.out
      obtain ⟨L, hL⟩ : ∃ L, L = xs.length := ⟨_, rfl⟩
      rw [← hL] at hle hcap HR2 ⊢
      have HL := Lib.hid hL
      clear hL
      go_wp2_with fail
      refine (slots_any s hsl _).mono ?_
      rintro e w3 ⟨v1, rfl, hown3, hb3, -⟩
      have hr3 := reads_slots hown3
      have hL3 : (slotsOf s).length ≤ 8 := slotsN_le s 8
      have hc3 := (hb3.cell (p := ⟨w.heap.size, 0, none⟩) hs2).trans hc2
      have HR3 := Lib.hid (HR2.out.below hb3)
      have HB3 : Hid (Below w.heap.size w w3) := Lib.hid (HB2.out.trans (hb3.mono HB2.out.size))
      have hs3 : w.heap.size < w3.heap.size := Nat.lt_of_lt_of_le hs2 hb3.size
      clear hb3 HR2 HB2 hc2 hs2 hs1 HC1 HB1 hs0 hown3
      obtain ⟨ys, hys⟩ : ∃ ys, ys = slotsOf s := ⟨_, rfl⟩
      rw [← hys] at hr3 HP1 hL3
      clear hys
      have HY := Lib.hid hr3
      obtain ⟨a1, cap1, rfl, hle1, hcap1, hr3⟩ := hr3
      obtain ⟨L1, hL1⟩ : ∃ L1, L1 = ys.length := ⟨_, rfl⟩
      rw [← hL1] at hle1 hcap1 hL3 HY ⊢
      have HL1 := Lib.hid hL1
      have HC3 := Lib.hid hc3
      have HR1 := Lib.hid hr3
      clear hL1 hc3 hr3
      go_wp2_with fail
      go_loopw [28] (fun k wr => ∃ j : Nat, j ≤ L1 ∧ k = .int .i64 j ∧ Below w3.heap.size w3 wr) (fun k _ => L1 - (intOf k).toNat)
      case atStart => exact ⟨0, by omega, rfl, Below.refl _ _⟩
      case round =>
        obtain ⟨j, hj, rfl, hbel⟩ := hrel
        have hc5 := (hbel.cell (p := ⟨w.heap.size, 0, none⟩) hs3).trans HC3.out
        by_cases hlt : j < L1
        · have hjx : j < ys.length := by rw [← HL1.out]; exact hlt
          have hy : ys[j]? = some ys[j] := List.getElem?_eq_getElem hjx
          have hne : ys ≠ [] := by intro h; subst h; simp at hjx
          have hyp := HP1.out.1 ys[j] (List.getElem_mem _)
          generalize ys[j] = y at hy hyp
          obtain ⟨hy8, hyb⟩ := hyp
          clear hjx
          obtain ⟨g1, o1, rfl, hg1, hcell1⟩ := HR1.out hne
          have hcy := (hbel.cell (p := ⟨g1, o1 + j, none⟩) hg1).trans (hcell1 j y hy)
          clear hne hcell1 hy
          have HYB := Lib.hid hyb
          have HBel := Lib.hid hbel
          have hsr : w.heap.size < wr.heap.size := Nat.lt_of_lt_of_le hs3 hbel.size
          clear hyb hbel
          go_wp2_with fail
          refine (bytes_any n hn _).mono ?_
          rintro e w4 ⟨v4, rfl, hown4, hb4⟩
          obtain ⟨g4, cap4, rfl, hg4, hgs4, hnc4, hcap4, hcell4, hfr4⟩ := own_cells hown4 (by decide)
          have hcb := hcell4 y _ (bytesV_at n 8 y hy8)
          have hbb := byt_lt n y
          have hc6 := (hb4.cell (p := ⟨w.heap.size, 0, none⟩) hsr).trans hc5
          have HB5 : Hid (Below w3.heap.size w3 w4) := Lib.hid (HBel.out.trans (hb4.mono HBel.out.size))
          clear hown4 hcell4 hfr4 hb4 hc5 hcy
          by_cases hbh : byt n y = h
          · rw [hbh] at hcb hbb
            clear hbh
            go_wp2_with fail
            go_roundw
            case rel => exact ⟨j + 1, by omega, by go_num, HB5.out⟩
            case measure => simp [intOf]; omega
          · have hbx : byt n y = h ^^^ 1 := HYB.out.resolve_left hbh
            generalize byt n y = b at hbh hbx hcb hbb
            have m1 : (((b : Nat) : Int) != ((h : Nat) : Int)) = true := by rw [bne_iff_ne]; omega
            have m2 : bits .xor .u64 (h : Int) 1 = (b : Int) := by rw [xor_one h h7, hbx]
            clear hbh hbx
            go_wp2_with fail
            go_roundw
            case rel => exact ⟨j + 1, by omega, by go_num, HB5.out⟩
            case measure => simp [intOf]; omega
        · obtain rfl : j = L1 := by omega
          have HB4 : Hid (Below w.heap.size w wr) := Lib.hid (HB3.out.trans (hbel.mono HB3.out.size))
          have HR4 := Lib.hid (HR3.out.below hbel)
          have HY4 := Lib.hid (HY.out.below hbel)
          have HT4 : Hid (Tab wr) := Lib.hid (HT.out.below HB4.out)
          clear hbel HC3 HR1 hc5 HR3 HY HB3 HT hs3
          cases xs with
          | nil =>
            have hL0 : L = 0 := HL.out
            subst hL0
            obtain ⟨h1, h2⟩ := HP1.out.2.1 rfl
            have hL10 : j = 0 := by rw [HL1.out, h1]; rfl
            subst hL10
            have H2 := Lib.hid h2
            clear h1 h2 HP1 HR4 HY4
            go_wp2_with fail
            refine (low_of s false hsl H2.out _).mono ?_
            rintro e w5 ⟨rfl, rfl⟩
            go_wp2_with fail
            go_ret
            exact ⟨rfl, HB4.out⟩
          | cons x r =>
            obtain ⟨hs0, ht, r', hr'⟩ := HP1.out.2.2 x r rfl
            have HX8 : x < 8 := (HP1.out.1 x (by rw [hr']; simp)).1
            rw [hr'] at HY4
            obtain ⟨g, off, k, rfl, rfl, hcx, hkc⟩ := HR4.out.first
            obtain ⟨g1, o1, k1, rfl, rfl, hcy, hkc1⟩ := HY4.out.first
            have HTz := Lib.hid ht
            have l3 : IntKind.u64.wrap (x : Int) = (x : Int) := by rw [u64_wrap, Nat.mod_eq_of_lt (by omega)]
            have l1 : (0 : Int) < (k1 : Int) + 1 := by omega
            have l2 : (0 : Int) < (k : Int) + 1 := by omega
            clear HP1 hr' ht HR4 HY4 HL HL1 hle hcap hle1 hcap1
            go_wp2_with fail
            go_region_held3 (fun wx => wx.cell? ⟨g, off, none⟩ = some (.int .i64 (x : Int)) ∧ wx.cell? ⟨g1, o1, none⟩ = some (.int .i64 (x : Int)) ∧ Tab wx) (exact ⟨hcx, hcy, HT4.out⟩) (first
              | (go_at_call 13; refine (first_of s x hsl hs0 HTz.out _ (HT4.out.below (Below.refl _ _).drew)).mono ?_; rintro e w' ⟨rfl, rfl⟩))
            go_wp2_with fail
            go_ret
            exact ⟨rfl, HB4.out.drew⟩
    · have m : (127 : Int) < (h : Int) := by omega
      obtain ⟨a, cap, rfl⟩ := own_len hown
      have HB1 := Lib.hid hB1
      have HC1 := Lib.hid hc1
      clear hnil hown h7 hB1 hc1
      go_wp2_with fail
      refine (well_any n hn _).mono ?_
      rintro e w2 ⟨rfl, hb2⟩
      have hc2 := (hb2.cell (p := ⟨w.heap.size, 0, none⟩) hs1).trans HC1.out
      go_wp2_with fail
      go_ret
      exact ⟨rfl, HB1.out.trans (hb2.mono HB1.out.size)⟩
  · have hw' : wellB n = false := by simpa using hw
    obtain ⟨a, cap, rfl⟩ := own_len hown
    have HB1 := Lib.hid hB1
    clear hw hnil hown hc1 hB1
    go_wp2_with fail
    refine (well_any n hn _).mono ?_
    rintro e w2 ⟨rfl, hb2⟩
    go_wp2_with fail
    go_ret
    exact ⟨rfl, HB1.out.trans (hb2.mono HB1.out.size)⟩
end Go.Proofs.YtejgndndjbdlaabDoor
