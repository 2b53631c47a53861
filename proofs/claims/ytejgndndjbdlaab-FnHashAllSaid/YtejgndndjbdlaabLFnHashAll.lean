/-
  The walk of the law FnHashAll: whoever has the hash is in the set; whoever is in the set is full.
-/
import Derived.Test.YtejgndndjbdlaabEight
import Derived.Test.YtejgndndjbdlaabHas
namespace Go.Proofs.Ytejgndndjbdlaab
open Go.RowKit

def pHA (h b : Nat) : Bool := decide (b = h)
theorem lit_HA (b h hb : Nat) (_hb : b < 256) (w : World) (hc : w.cell? ⟨hb, 0, none⟩ = some (.int .u64 (h : Int))) : Calls Try.prog 27 #[.int .u8 (b : Int), .pointer (some ⟨hb, 0, none⟩)] w fun e w' => e = .returned (.bool (pHA h b)) ∧ w = w' := by
  go_enter Try.func27, Try.ntmps27
  go_wp2
  go_ret
  exact ⟨ret_bool (by unfold pHA; rw [Bool.eq_iff_iff]; simp; try omega), rfl⟩
theorem plain_HA (n h : Nat) (hn : n < 18446744073709551616) (hh : h < 128) :
    (∀ x ∈ whereOf (pHA h) n, x ∈ slotsOf (hashW n h)) ∧ (∀ y ∈ slotsOf (hashW n h), y < 8 ∧ byt n y < 128) := by
  have e := hashW_eq n h hn
  have hm := mask_lt (hitOf n h)
  have hs : slotsOf (hashW n h) = (List.range 8).filter (hitOf n h) := by rw [e, slotsOf_spread _ hm, slotL_mask]
  refine ⟨fun x hx => ?_, fun y hy => ?_⟩
  · rw [hs]
    obtain ⟨h1, h2⟩ := List.mem_filter.1 hx
    have h8 : x < 8 := by simpa using h1
    have h3 : byt n x = h := by simpa [pHA] using h2
    exact List.mem_filter.2 ⟨h1, hitOf_has n h hh x h8 h3⟩
  · rw [hs] at hy
    obtain ⟨hy1, hy2⟩ := List.mem_filter.1 hy
    have hy8 : y < 8 := by simpa using hy1
    refine ⟨hy8, ?_⟩
    have hx : h ^^^ 1 < 128 := Nat.xor_lt_two_pow (n := 7) hh (by decide)
    rcases hitOf_near n h hh y hy8 hy2 with h1 | h1 <;> rw [h1]
    · exact hh
    · exact hx
/-- What a slice holds at i. -/
theorem Reads.at' {w : World} {a : Option Addr} {L cap : Nat} {xs : List Nat} (h : Reads .i64 w (.slice a L cap) xs) (i x : Nat) (hi : xs[i]? = some x) : ∃ g off, a = some ⟨g, off, none⟩ ∧ g < w.heap.size ∧ w.cell? ⟨g, off + i, none⟩ = some (.int .i64 (x : Int)) := by
  obtain ⟨a', c, e, hx, hc, hr⟩ := h
  obtain ⟨g, off, ea, hg, hcell⟩ := hr (by intro h; subst h; simp at hi)
  injection e with e1 e2 e3
  subst e1 e3
  exact ⟨g, off, ea, hg, hcell i x hi⟩
theorem hash_of (n h s : Nat) (hn : n < 18446744073709551616) (hh : h < 18446744073709551616) (e : hashW n h = s) (w : World) :
    Calls Try.prog 24 #[.int .u64 n, .int .u64 h] w fun e w' => e = .returned (.int .u64 (s : Int)) ∧ w = w' := by
  subst e
  exact hash_any n h hn hh w

set_option maxHeartbeats 1600000 in
theorem law_FnHashAll (n : Nat) (hn : n < 18446744073709551616) (h : Nat) (hh : h < 18446744073709551616) (w : World) :
    Calls Try.prog 8 #[.int .u64 n, .int .u64 h] w fun e w' => e = .returned (.bool true) ∧ Below w.heap.size w w' := by
  obtain ⟨s, hse⟩ : ∃ s, hashW n h = s := ⟨_, rfl⟩
  have hsl : s < 18446744073709551616 := by rw [← hse]; exact hashW_lt n h
  have HP : Hid (h < 128 → _) := Lib.hid (plain_HA n h hn)
  rw [hse] at HP
  have HS := Lib.hid hse
  clear hse
  go_enter Try.func8, Try.ntmps8
  go_wp2_with fail
  have hc0 : (w.alloc (Obj.cells #[.int .u64 (h : Int)] 22)).cell? ⟨w.heap.size, 0, none⟩ = some (.int .u64 (h : Int)) := World.cell?_alloc_at _ _ _ _ rfl
  have hb0 : Below w.heap.size w (w.alloc (Obj.cells #[.int .u64 (h : Int)] 22)) := (Below.refl _ w).alloc (Nat.le_refl _) _
  have hs0 : w.heap.size < (w.alloc (Obj.cells #[.int .u64 (h : Int)] 22)).heap.size := by simp
  generalize (w.alloc (Obj.cells #[.int .u64 (h : Int)] 22)) = w0 at hc0 hb0 hs0 ⊢
  refine (well_any n hn _).mono ?_
  rintro e w1 ⟨rfl, hb1⟩
  have hc1 := (hb1.cell (p := ⟨w.heap.size, 0, none⟩) hs0).trans hc0
  have hs1 : w.heap.size < w1.heap.size := Nat.lt_of_lt_of_le hs0 hb1.size
  have HB1 : Hid (Below w.heap.size w w1) := Lib.hid (hb0.trans (hb1.mono (Nat.le_of_lt hs0)))
  clear hc0 hb0 hb1
  by_cases hw : wellB n = true
  · by_cases h7 : h < 128
    · have HP1 := Lib.hid (HP.out h7)
      clear HP
      go_wp2_with fail
      refine (hash_of n h s hn hh HS.out _).mono ?_
      rintro e w2 ⟨rfl, rfl⟩
      go_wp2_with fail
      refine (slots_any s hsl _).mono ?_
      rintro e w2 ⟨v1, rfl, hown2, hb2, -⟩
      have HY2 := Lib.hid (reads_slots hown2)
      have hc2 := (hb2.cell (p := ⟨w.heap.size, 0, none⟩) hs1).trans hc1
      have HB2 : Hid (Below w.heap.size w w2) := Lib.hid (HB1.out.trans (hb2.mono HB1.out.size))
      have hs2 : w.heap.size < w2.heap.size := Nat.lt_of_lt_of_le hs1 hb2.size
      have HC2 := Lib.hid hc2
      clear hown2 hb2 hc1 hs1 HB1 hc2
      go_wp2_with fail
      refine (where_FnHashAll n hn (pHA h) w.heap.size w2 (fun b wx hb hbel => lit_HA b h _ hb wx ((hbel.cell (p := ⟨w.heap.size, 0, none⟩) hs2).trans HC2.out))).mono ?_
      rintro e w3 ⟨v, rfl, hown3, hb3, -⟩
      have hr3 := reads_where hown3
      have HY3 := Lib.hid (HY2.out.below hb3)
      have HB3 : Hid (Below w.heap.size w w3) := Lib.hid (HB2.out.trans (hb3.mono HB2.out.size))
      have hL8 := whereOf_length_le (pHA h) n
      have hK8 : (slotsOf s).length ≤ 8 := slotsN_le s 8
      clear hown3 hb3 HY2 HB2 hs2 HC2 hs0
      obtain ⟨xs, hxs⟩ : ∃ xs, xs = whereOf (pHA h) n := ⟨_, rfl⟩
      rw [← hxs] at hr3 HP1 hL8
      clear hxs
      obtain ⟨ys, hys⟩ : ∃ ys, ys = slotsOf s := ⟨_, rfl⟩
      rw [← hys] at HY3 HP1 hK8
      clear hys
      obtain ⟨a, cap, rfl, hle, hcap, hr3⟩ := hr3
      obtain ⟨L, hL⟩ : ∃ L, L = xs.length := ⟨_, rfl⟩
      rw [← hL] at hle hcap hL8 ⊢
      obtain ⟨a1, cap1, rfl, hle1, hcap1, -⟩ := HY3.out
      obtain ⟨K, hK⟩ : ∃ K, K = ys.length := ⟨_, rfl⟩
      rw [← hK] at hle1 hcap1 hK8 HY3 ⊢
      have HL := Lib.hid hL
      have HK := Lib.hid hK
      have HR3 := Lib.hid hr3
      clear hL hK hr3
      go_wp2_with fail
      go_loopw [25] (fun k wr => ∃ j : Nat, j ≤ L ∧ k = .int .i64 j ∧ w3 = wr) (fun k _ => L - (intOf k).toNat)
      case atStart => exact ⟨0, by omega, rfl, rfl⟩
      case round =>
        obtain ⟨j, hj, rfl, rfl⟩ := hrel
        by_cases hlt : j < L
        · have hjx : j < xs.length := by rw [← HL.out]; exact hlt
          have hy : xs[j]? = some xs[j] := List.getElem?_eq_getElem hjx
          have hne : xs ≠ [] := by intro h; subst h; simp at hjx
          have hyp := HP1.out.1 xs[j] (List.getElem_mem _)
          generalize xs[j] = y at hy hyp
          clear hjx
          obtain ⟨g1, o1, rfl, hg1, hcell1⟩ := HR3.out hne
          have hcy := hcell1 j y hy
          have HCall := Lib.hid (has_any ys y _ w3 HY3.out hyp)
          clear hne hcell1 hy hyp
          go_wp2_with fail
          refine HCall.out.mono ?_
          rintro e w4 ⟨rfl, rfl⟩
          clear HCall
          go_wp2_with fail
          go_roundw
          case rel => exact ⟨j + 1, by omega, by go_num, trivial⟩
          case measure => simp [intOf]; omega
        · obtain rfl : j = L := by omega
          go_wp2_with fail
          go_loopw [36] (fun k wr => ∃ i : Nat, i ≤ K ∧ k = .int .i64 i ∧ Below w3.heap.size w3 wr) (fun k _ => K - (intOf k).toNat)
          case atStart => exact ⟨0, by omega, rfl, Below.refl _ _⟩
          case round =>
            obtain ⟨i, hi, rfl, hbel⟩ := hrel
            by_cases hlt : i < K
            · have hix : i < ys.length := by rw [← HK.out]; exact hlt
              have hy : ys[i]? = some ys[i] := List.getElem?_eq_getElem hix
              have hyp := HP1.out.2 ys[i] (List.getElem_mem _)
              generalize ys[i] = y at hy hyp
              obtain ⟨hy8, hyb⟩ := hyp
              clear hix
              obtain ⟨g2, o2, rfl, hg2, hcell2⟩ := HY3.out.at' i y hy
              have hcy := (hbel.cell (p := ⟨g2, o2 + i, none⟩) hg2).trans hcell2
              have HBel := Lib.hid hbel
              clear hcell2 hy hbel
              go_wp2_with fail
              refine (bytes_any n hn _).mono ?_
              rintro e w4 ⟨v4, rfl, hown4, hb4⟩
              obtain ⟨g4, cap4, rfl, hg4, hgs4, hnc4, hcap4, hcell4, hfr4⟩ := own_cells hown4 (by decide)
              have hcb := hcell4 y _ (bytesV_at n 8 y hy8)
              have HB5 : Hid (Below w3.heap.size w3 w4) := Lib.hid (HBel.out.trans (hb4.mono HBel.out.size))
              have m : decide ((128 : Int) ≤ ((byt n y : Nat) : Int)) = false := by rw [decide_eq_false_iff_not]; omega
              clear hown4 hcell4 hfr4 hb4 hcy
              go_wp2_with fail
              go_roundw
              case rel => exact ⟨i + 1, by omega, by go_num, HB5.out⟩
              case measure => simp [intOf]; omega
            · obtain rfl : i = K := by omega
              have HB4 : Hid (Below w.heap.size w wr) := Lib.hid (HB3.out.trans (hbel.mono HB3.out.size))
              clear hbel
              go_wp2_with fail
              refine (hash_zero _).mono ?_
              rintro e w4 ⟨rfl, rfl⟩
              go_wp2_with fail
              refine (all_eight _ _ (reads_eight _ _)).mono ?_
              rintro e w4 ⟨rfl, hb4⟩
              go_wp2_with fail
              go_ret
              have b3 := HB4.out.alloc (o := .cells #[.int .i64 0, .int .i64 1, .int .i64 2, .int .i64 3, .int .i64 4, .int .i64 5, .int .i64 6, .int .i64 7] 3) HB4.out.size
              exact ⟨rfl, b3.trans (hb4.mono b3.size)⟩
    · have m : (127 : Int) < (h : Int) := by omega
      clear h7 HP
      go_wp2_with fail
      go_ret
      exact ⟨rfl, HB1.out⟩
  · have hw' : wellB n = false := by simpa using hw
    clear hw
    go_wp2_with fail
    go_ret
    exact ⟨rfl, HB1.out⟩
end Go.Proofs.Ytejgndndjbdlaab
