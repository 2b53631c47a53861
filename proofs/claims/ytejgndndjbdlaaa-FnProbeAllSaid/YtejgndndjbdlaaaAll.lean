/-
  The reference's test that numbers are all those below another one, each once: the walk, at numbers that are.
-/
import Derived.Test.YtejgndndjbdlaaaTri
import Derived.Test.YtejgndndjbdlaaaEqual
import Derived.OwnWalk
namespace Go.Proofs.Ytejgndndjbdlaaa
open Go.RowKit

theorem Try.infoBool : (Try.prog.info? 4).map (fun i => (i.zero, i.size, i.bytes)) = some (some (.bool false), 1, 1) := by kernel_rfl

/-- What has been seen of the numbers below n when the first k of xs are through. -/
def seenV (xs : List Nat) (n k : Nat) : List Value := (List.range n).map fun j => Value.bool (decide (j ∈ xs.take k))
theorem seenV_zero (xs : List Nat) (n : Nat) : seenV xs n 0 = List.replicate n (.bool false) := by
  unfold seenV
  rw [List.eq_replicate_iff]
  simp
theorem seenV_at (xs : List Nat) (n k j : Nat) (hj : j < n) : (seenV xs n k)[j]? = some (.bool (decide (j ∈ xs.take k))) := by
  simp [seenV, hj]
theorem seenV_set (xs : List Nat) (n k x : Nat) (hx : xs[k]? = some x) : (seenV xs n k).set x (.bool true) = seenV xs n (k + 1) := by
  apply List.ext_getElem?
  intro j
  have hk : k < xs.length := (List.getElem?_eq_some_iff.1 hx).1
  have hxk : xs[k] = x := (List.getElem?_eq_some_iff.1 hx).2
  have ht : xs.take (k + 1) = xs.take k ++ [x] := by rw [List.take_succ_eq_append_getElem hk, hxk]
  rw [List.getElem?_set]
  by_cases hjn : j < n
  · rw [seenV_at _ _ _ _ hjn, seenV_at _ _ _ _ hjn, ht]
    by_cases hxj : x = j
    · subst hxj
      simp [seenV, hjn]
    · have : ¬ j = x := fun e => hxj e.symm
      simp [hxj, this]
  · have e1 : (seenV xs n k)[j]? = none := List.getElem?_eq_none (by simp [seenV]; omega)
    have e2 : (seenV xs n (k + 1))[j]? = none := List.getElem?_eq_none (by simp [seenV]; omega)
    rw [e1, e2]
    by_cases hxj : x = j
    · subst hxj
      simp [seenV, hjn]
    · simp [hxj]

set_option maxRecDepth 100000 in
set_option maxHeartbeats 1600000 in
theorem all_yes (xs : List Nat) (n : Nat) (v : Value) (w : World) (hr : Reads .u64 w v xs) (hn0 : 0 < n) (hn : n ≤ 4096) (hl : xs.length = n) (hlt : ∀ k x : Nat, xs[k]? = some x → x < n) (hnd : ∀ k x : Nat, xs[k]? = some x → ¬ x ∈ xs.take k) :
    Calls Try.prog 29 #[v, .int .u64 n] w fun e w' => e = .returned (.bool true) ∧ Below w.heap.size w w' := by
  obtain ⟨ib, hi, hz0, hz1, hz2⟩ := info_parts Try.infoBool
  obtain ⟨a, cap, rfl, _, _, hr⟩ := hr
  obtain ⟨g, off, rfl, hg, hcell⟩ := hr (by intro e; subst e; simp at hl; omega)
  rw [hl]
  clear hr
  have HL := Lib.hid hl
  have HLT := Lib.hid hlt
  have HND := Lib.hid hnd
  have HC := Lib.hid hcell
  have hb2 : ib.bytes * n ≤ 281474976710656 := by rw [hz2]; omega
  have hb3 : n ≤ maxLen := by unfold maxLen; omega
  clear hl hlt hnd hcell
  go_enter Try.func29, Try.ntmps29
  go_wp2_with (refine wpList_make_full _ rfl (.tmp 8) (.tmp 8) 46 rfl w.heap.size 4 ib (.bool false) 1 Try.underlying46 hi hz0 hz1 .u64 .u64 (n : Int) (n : Int) n rfl rfl rfl rfl hb2 hb3 (Nat.le_refl _) ?_)
  intro w1 hown hgrow
  have hbel : Below w.heap.size w w1 := (Below.refl _ _).grown hgrow (Nat.le_refl _) (fun j hj => by cases hj)
  rw [toList_madeCells_one, ← seenV_zero xs n] at hown
  clear hgrow
  go_wp2_with fail
  go_loopw [12] (fun i wr => ∃ k : Nat, k ≤ n ∧ i = .int .i64 k ∧ wr.ownsRow w.heap.size 4 1 (.slice (some ⟨w.heap.size, 0, none⟩) n n) n (seenV xs n k) ∧ Below w.heap.size w wr) (fun i _ => n - (intOf i).toNat)
  case atStart => exact ⟨0, by omega, rfl, hown, hbel⟩
  case round =>
    clear hown hbel
    obtain ⟨k, hk, rfl, hown, hbel⟩ := hrel
    by_cases hlt : k < n
    · obtain ⟨x, hxk⟩ : ∃ x, xs[k]? = some x := ⟨_, List.getElem?_eq_getElem (by have := HL.out; omega)⟩
      have hxn := HLT.out k x hxk
      have hc := (hbel.cell (p := ⟨g, off + k, none⟩) hg).trans (HC.out k x hxk)
      have hs : wr.cell? ⟨w.heap.size, x, none⟩ = some (.bool false) := by
        rw [hown.cellAt x (by omega), seenV_at _ _ _ _ hxn, decide_eq_false (HND.out k x hxk)]
      have hf := hown.frozenAt x
      have hst := (hown.stored x (.bool true)).1
      rw [seenV_set _ _ _ _ hxk] at hst
      have hbel' := hbel.setCell (p := ⟨w.heap.size, x, none⟩) (Nat.le_refl _) (.bool true)
      clear hown hbel hxk
      go_wp2_with fail
      go_roundw
      case rel => exact ⟨k + 1, by omega, by go_num, hst, hbel'⟩
      case measure => simp [intOf]; omega
    · obtain rfl : k = n := by omega
      go_wp2_with fail
      go_ret
      exact ⟨ret_bool (by simp), hbel⟩
end Go.Proofs.Ytejgndndjbdlaaa
