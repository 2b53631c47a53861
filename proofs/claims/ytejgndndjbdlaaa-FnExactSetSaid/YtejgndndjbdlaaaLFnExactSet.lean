/-
  The walk of the law FnExactSet: with a control byte set, it is this one, and the others are as before.
-/
import Derived.Test.YtejgndndjbdlaaaSpec
namespace Go.Proofs.Ytejgndndjbdlaaa
open Go.RowKit

theorem set_law (n i c : Nat) (hn : n < 18446744073709551616) (hi : i < 8) (hc : c < 256) : setW n i c = groupW (fun j => if j = i then c else byt n j) 8 := by
  have hf : ∀ j, (if j = i then c else byt n j) < 256 := by intro j; split; exact hc; exact byt_lt _ _
  apply byt_ext _ _ (setW_lt _ _ _ hn) (groupW_lt _ hf 8)
  intro k hk
  rw [setW_byt n i c k hi hk hc, groupW_byt _ hf 8 k hk]
set_option maxHeartbeats 400000 in
theorem law_FnExactSet (n : Nat) (hn : n < 18446744073709551616) (i : Nat) (hi : i < 18446744073709551616) (c : Nat) (hc : c < 256) (w : World) :
    Calls Try.prog 7 #[.int .u64 n, .int .u64 i, .int .u8 c] w fun e w' => e = .returned (.bool true) ∧ Below w.heap.size w w' := by
  by_cases h7 : 7 < i
  · go_enter Try.func7, Try.ntmps7
    go_wp2_with fail
    go_ret
    exact ⟨rfl, Below.refl _ _⟩
  · have h8 : i < 8 := by omega
    have H := Lib.hid (set_law n i c hn h8 hc)
    clear hi
    go_enter Try.func7, Try.ntmps7
    go_wp2_with fail
    refine (bytes_any n hn _).mono ?_
    rintro e w1 ⟨v, rfl, hown, hb1⟩
    obtain ⟨g, cap, rfl, hg, hgs, hnc, hcap, hcell, hfr⟩ := own_cells hown (by decide)
    have hci := hcell i _ (bytesV_at n 8 i h8)
    have hfi := hfr i
    have Hcell := Lib.hid hcell
    clear hown hcell hfr
    go_wp2_with fail
    refine (set_any n i c hn h8 hc _).mono ?_
    rintro e w2 ⟨rfl, hb2⟩
    rw [H.out]
    have hsz : (w1.setCell ⟨g, i, none⟩ (.int .u8 (c : Int))).heap.size = w1.heap.size := by simp [World.setCell]
    have hcs : ∀ j, j < 8 → w2.cell? ⟨g, j, none⟩ = some (.int .u8 (((if j = i then c else byt n j : Nat) : Nat) : Int)) := by
      intro j hj
      rw [hb2.cell (p := ⟨g, j, none⟩) (by rw [hsz]; exact hgs)]
      by_cases hji : j = i
      · subst hji
        rw [World.cell?_setCell_same _ _ _ hci, if_pos rfl]
      · rw [World.cell?_setCell_other _ _ _ _ (by rintro ⟨⟩; exact hji rfl), Hcell.out j _ (bytesV_at n 8 j hj), if_neg hji]
    have Hcs := Lib.hid hcs
    have hf : ∀ j, (if j = i then c else byt n j) < 256 := by intro j; split; exact hc; exact byt_lt _ _
    have Hf := Lib.hid hf
    have hb := (hb1.setCell (p := ⟨g, i, none⟩) hg (.int .u8 (c : Int))).trans (hb2.mono (by rw [hsz]; exact hb1.size))
    clear hcs hf hci hfi hb2 hsz
    go_wp2_with fail
    refine (group_any _ Hf.out g cap _ Hcs.out).mono ?_
    rintro e w3 ⟨rfl, rfl⟩
    go_wp2_with fail
    go_ret
    exact ⟨ret_bool (by simp), hb⟩
end Go.Proofs.Ytejgndndjbdlaaa
