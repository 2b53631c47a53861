/-
  The reference's functions, each for every group: the walks. 'Below B w w'': nothing below block B has changed.
-/
import Derived.Test.YtejgndndjbdlaabDoorLeaf
namespace Go.Proofs.YtejgndndjbdlaabDoor
open Go.RowKit

theorem Tryd.infoByte : (Tryd.prog.info? 5).map (fun i => (i.zero, i.size, i.bytes)) = some (some (.int .u8 0), 1, 1) := by kernel_rfl
theorem Tryd.infoInt : (Tryd.prog.info? 3).map (fun i => (i.zero, i.size, i.bytes)) = some (some (.int .i64 0), 1, 8) := by kernel_rfl

theorem byt_eq (n i : Nat) : (n : Int) / 2 ^ (8 * i) % 256 = ((byt n i : Nat) : Int) := by
  unfold byt
  simp
/-- Behind an append of one element to a row of the call's own. -/
theorem grow_below {B : Nat} {e : TypeId} {v : Value} {k : Nat} {xs : List Value} {w wr w1 : World} {o : Obj} (hbel : Below B w wr) (hB : B ≤ w.heap.size) (hown : wr.ownsRow B e 1 v k xs)
    (hgrow : (wr.alloc o).grownBy w1 v.ownBlock) : Below B w w1 :=
  (hbel.alloc (Nat.le_trans hB hbel.size) o).grown hgrow (by have := hbel.size; simp; omega) (fun j hj => (hown.lt j hj).1)
theorem one_int (k : IntKind) (x : Int) : ∀ u ∈ [Value.int k x], u.oneCell' = true := by
  intro u hu
  simp at hu
  subst hu
  rfl
theorem le_alloc {B : Nat} {w wr : World} (h : Below B w wr) (hB : B ≤ w.heap.size) (o : Obj) : B ≤ (wr.alloc o).heap.size := by
  have := h.size
  simp
  omega
/-- An owned row that is not empty: its cells. -/
theorem own_cells {B : Nat} {e : TypeId} {v : Value} {n : Nat} {xs : List Value} {w : World} (h : w.ownsRow B e 1 v n xs) (hn : 0 < n) :
    ∃ g cap, v = .slice (some ⟨g, 0, none⟩) n cap ∧ B ≤ g ∧ g < w.heap.size ∧ n ≤ cap ∧ cap ≤ maxLen ∧ (∀ i u, xs[i]? = some u → w.cell? ⟨g, i, none⟩ = some u) ∧ (∀ i, w.frozen? ⟨g, i, none⟩ = false) := by
  have hown := h
  obtain ⟨hl, hcase⟩ := h
  rcases hcase with ⟨_, h0⟩ | ⟨g, cap, cur, rfl, hg, hh, hnc, hcap, hsz, htake⟩
  · omega
  · refine ⟨g, cap, rfl, hg, (Array.getElem?_eq_some_iff.1 hh).1, hnc, hcap, ?_, ?_⟩
    · intro i u hu
      have := hown.cells (g := g) rfl i u hu
      have e : (⟨g, 0, none⟩ : Addr).add i = ⟨g, i, none⟩ := by unfold Addr.add; split <;> simp_all
      rwa [e] at this
    · intro i
      simp [World.frozen?, hh]

theorem ownsRow_mono {w : World} {B B' : Nat} {e : TypeId} {size : Nat} {v : Value} {n : Nat} {xs : List Value} (h : w.ownsRow B e size v n xs) (hB : B' ≤ B) : w.ownsRow B' e size v n xs := by
  obtain ⟨h1, h2⟩ := h
  refine ⟨h1, ?_⟩
  rcases h2 with h2 | ⟨g, cap, cur, hv, hg, r⟩
  · exact Or.inl h2
  · exact Or.inr ⟨g, cap, cur, hv, Nat.le_trans hB hg, r⟩

/-- An owned row is a slice of its length. -/
theorem own_len {B : Nat} {e : TypeId} {v : Value} {n : Nat} {xs : List Value} {w : World} (h : w.ownsRow B e 1 v n xs) : ∃ a cap, v = .slice a n cap := by
  rcases h.2 with ⟨h1, h2⟩ | ⟨g, cap, cur, h1, _⟩
  · exact ⟨none, 0, by rw [h1, h2]⟩
  · exact ⟨_, cap, h1⟩

/-- The control bytes of a group, as values. -/
def bytesV (n k : Nat) : List Value := (List.range k).map fun i => Value.int .u8 ((byt n i : Nat) : Int)
theorem bytesV_succ (n k : Nat) : bytesV n (k + 1) = bytesV n k ++ [.int .u8 ((byt n k : Nat) : Int)] := by simp [bytesV, List.range_succ]
theorem bytesV_at (n k i : Nat) (h : i < k) : (bytesV n k)[i]? = some (.int .u8 ((byt n i : Nat) : Int)) := by simp [bytesV, h]

set_option maxHeartbeats 400000 in
theorem bytes_any (n : Nat) (_hn : n < 18446744073709551616) (w : World) :
    Calls Tryd.prog 12 #[.int .u64 n] w fun e w' => ∃ v, e = .returned v ∧ w'.ownsRow w.heap.size 5 1 v 8 (bytesV n 8) ∧ Below w.heap.size w w' := by
  obtain ⟨i0, hi, hz0, hz1, hz2⟩ := info_parts Tryd.infoByte
  go_enter Tryd.func12, Tryd.ntmps12
  go_wp2
  go_loopw [3, 4] (fun v i wr => ∃ k : Nat, k ≤ 8 ∧ i = .int .i64 k ∧ wr.ownsRow w.heap.size 5 1 v k (bytesV n k) ∧ Below w.heap.size w wr) (fun _ i _ => 8 - (intOf i).toNat)
  case atStart => exact ⟨0, by omega, rfl, World.ownsRow_nil _ _ _ _, Below.refl _ _⟩
  case round =>
    obtain ⟨k, hk, rfl, hown, hbel⟩ := hrel
    by_cases hlt : k < 8
    · have hc3 : k + 1 ≤ maxLen := by unfold maxLen; omega
      have hc4 : (k + 1) * 1 ≤ 140737488355328 := by omega
      go_wp2_with (at_builtin; refine wpList_append_own _ rfl _ _ 30 rfl w.heap.size 5 i0 (.int .u8 0) 1 1 Tryd.underlying30 hi hz0 hz1 hz2 rfl (by decide) _ _ _ rfl (hown.alloc _) ⟨wr.heap.size, 0, none⟩ 1 1 [.int .u8 ((n : Int) / 2 ^ (8 * k) % 256)] rfl rfl (cell_one_new _ _ _) (one_int _ _) hc3 hc4 (le_alloc hbel (Nat.le_refl _) _) ?_)
      intro v' w1 hown' hgrow _
      have hbel' := grow_below hbel (Nat.le_refl _) hown hgrow
      rw [byt_eq, ← bytesV_succ] at hown'
      clear hgrow hown hbel hc3 hc4
      go_wp2
      go_roundw
      case rel => exact ⟨k + 1, by omega, by go_num, hown', hbel'⟩
      case measure => simp [intOf]; omega
    · obtain rfl : k = 8 := by omega
      go_wp2
      go_ret
      exact ⟨_, rfl, hown, hbel⟩

theorem wellB_false (n k : Nat) (hk : k < 8) (h1 : 128 ≤ byt n k) (h2 : byt n k ≠ 128) (h3 : byt n k ≠ 254) : wellB n = false := by
  rw [wellB, List.all_eq_false]
  refine ⟨k, by simpa using hk, ?_⟩
  have h4 : ¬ byt n k < 128 := by omega
  simp [h4, h2, h3]
theorem wellB_true (n : Nat) (h : ∀ i, i < 8 → byt n i < 128 ∨ byt n i = 128 ∨ byt n i = 254) : wellB n = true := by
  rw [wellB, List.all_eq_true]
  intro i hi
  have := h i (by simpa using hi)
  simpa [or_assoc] using this

set_option maxHeartbeats 800000 in
theorem well_any (n : Nat) (hn : n < 18446744073709551616) (w : World) :
    Calls Tryd.prog 8 #[.int .u64 n] w fun e w' => e = .returned (.bool (wellB n)) ∧ Below w.heap.size w w' := by
  go_enter Tryd.func8, Tryd.ntmps8
  go_wp2_with fail
  refine (bytes_any n hn _).mono ?_
  rintro e w1 ⟨v, rfl, hown, hbel⟩
  obtain ⟨g, cap, rfl, hg, hgs, hnc, hcap, hcell, hfr⟩ := own_cells hown (by decide)
  clear hown hfr
  go_wp2_with fail
  go_loop [8] (fun i => ∃ k : Nat, k ≤ 8 ∧ i = .int .i64 k ∧ ∀ j, j < k → byt n j < 128 ∨ byt n j = 128 ∨ byt n j = 254) (fun i => 8 - (intOf i).toNat)
  case atStart => exact ⟨0, by omega, rfl, fun j hj => absurd hj (by omega)⟩
  case round =>
    obtain ⟨k, hk, rfl, hall⟩ := hrel
    have Hall := Lib.hid hall
    clear hall
    by_cases hlt : k < 8
    · have hc := hcell k _ (bytesV_at n 8 k hlt)
      have hb := byt_lt n k
      have Hcell := Lib.hid hcell
      clear hcell
      rcases (by omega : byt n k < 128 ∨ byt n k = 128 ∨ byt n k = 254 ∨ (128 < byt n k ∧ byt n k ≠ 254)) with h | h | h | ⟨h, h'⟩
      · go_wp2
        go_round
        case rel => exact ⟨k + 1, by omega, by go_num, fun j hj => by
          rcases Nat.lt_or_ge j k with hjk | hjk
          · exact Hall.out j hjk
          · obtain rfl : j = k := by omega
            exact Or.inl h⟩
        case measure => simp [intOf]; omega
      · have H := Lib.hid h
        rw [h] at hc
        clear h
        go_wp2
        go_round
        case rel => exact ⟨k + 1, by omega, by go_num, fun j hj => by
          rcases Nat.lt_or_ge j k with hjk | hjk
          · exact Hall.out j hjk
          · obtain rfl : j = k := by omega
            exact Or.inr (Or.inl H.out)⟩
        case measure => simp [intOf]; omega
      · have H := Lib.hid h
        rw [h] at hc
        clear h
        go_wp2
        go_round
        case rel => exact ⟨k + 1, by omega, by go_num, fun j hj => by
          rcases Nat.lt_or_ge j k with hjk | hjk
          · exact Hall.out j hjk
          · obtain rfl : j = k := by omega
            exact Or.inr (Or.inr H.out)⟩
        case measure => simp [intOf]; omega
      · have H := Lib.hid (wellB_false n k hlt (by omega) (by omega) h')
        have m1 : (((byt n k : Nat) : Int) != 128) = true := by rw [bne_iff_ne]; omega
        have m2 : (((byt n k : Nat) : Int) != 254) = true := by rw [bne_iff_ne]; omega
        go_wp2
        go_ret
        exact ⟨ret_bool H.out.symm, hbel⟩
    · obtain rfl : k = 8 := by omega
      have H := Lib.hid (wellB_true n Hall.out)
      go_wp2
      go_ret
      exact ⟨ret_bool H.out.symm, hbel⟩
/-- Where a predicate holds, as values. -/
def whereV (p : Nat → Bool) (n k : Nat) : List Value := ((List.range k).filter fun i => p (byt n i)).map fun i => Value.int .i64 ((i : Nat) : Int)
def whereN (p : Nat → Bool) (n k : Nat) : Nat := ((List.range k).filter fun i => p (byt n i)).length
theorem whereV_yes (p : Nat → Bool) (n k : Nat) (h : p (byt n k) = true) : whereV p n (k + 1) = whereV p n k ++ [.int .i64 (k : Int)] ∧ whereN p n (k + 1) = whereN p n k + 1 := by
  simp [whereV, whereN, List.range_succ, List.filter_append, h]
theorem whereV_no (p : Nat → Bool) (n k : Nat) (h : p (byt n k) = false) : whereV p n (k + 1) = whereV p n k ∧ whereN p n (k + 1) = whereN p n k := by
  simp [whereV, whereN, List.range_succ, List.filter_append, h]
theorem whereN_le (p : Nat → Bool) (n k : Nat) : whereN p n k ≤ k := by
  have := List.length_filter_le (fun i => p (byt n i)) (List.range k)
  rwa [List.length_range] at this

end Go.Proofs.YtejgndndjbdlaabDoor
