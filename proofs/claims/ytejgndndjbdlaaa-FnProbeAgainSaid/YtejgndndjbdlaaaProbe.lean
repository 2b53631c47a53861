/-
  The probe sequence, of the program and of the reference: the walks.
-/
import Derived.Test.YtejgndndjbdlaaaSpec
namespace Go.Proofs.Ytejgndndjbdlaaa
open Go.RowKit

theorem Try.infoWord : (Try.prog.info? 22).map (fun i => (i.zero, i.size, i.bytes)) = some (some (.int .u64 0), 1, 8) := by kernel_rfl

/-- The place of the sequence behind place o, the k-th. -/
def nextO (m o k : Nat) : Nat := (o + k) % 18446744073709551616 &&& m
theorem nextO_lt (m o k : Nat) (hm : m < 18446744073709551616) : nextO m o k < 18446744073709551616 := Nat.lt_of_le_of_lt Nat.and_le_right hm
theorem nextO_eq (m o k : Nat) (hm : m < 18446744073709551616) : bits .and .u64 (IntKind.u64.wrap ((o : Int) + ((k : Int) + 1))) (m : Int) = ((nextO m o (k + 1) : Nat) : Int) := by
  rw [show (o : Int) + ((k : Int) + 1) = ((o + (k + 1) : Nat) : Int) from by omega, u64_wrap, u64_and_nat _ m (Nat.mod_lt _ (by decide)) hm]
  rfl

set_option maxHeartbeats 400000 in
theorem make_any (h m : Nat) (hh : h < 18446744073709551616) (hm : m < 18446744073709551616) (w : World) :
    Calls Try.prog 55 #[.int .u64 h, .int .u64 m] w fun e w' => e = .returned (.agg #[.int .u64 m, .int .u64 ((h &&& m : Nat) : Int), .int .u64 0]) ∧ Below w.heap.size w w' := by
  have e := u64_and_nat h m hh hm
  go_enter Try.func55, Try.ntmps55
  go_wp2
  exact bodyPost_ret (v := .agg #[.int .u64 m, .int .u64 ((h &&& m : Nat) : Int), .int .u64 0]) (by simp [results, Try.results55, go_sem]) rfl ⟨rfl, (Below.refl _ _).alloc (Nat.le_refl _) _⟩
set_option maxHeartbeats 400000 in
theorem next_any (m o k : Nat) (hm : m < 18446744073709551616) (_ho : o < 18446744073709551616) (hk : k < 4611686018427387904) (w : World) :
    Calls Try.prog 56 #[.agg #[.int .u64 m, .int .u64 o, .int .u64 k]] w fun e w' => e = .returned (.agg #[.int .u64 m, .int .u64 (nextO m o (k + 1) : Nat), .int .u64 ((k : Int) + 1)]) ∧ Below w.heap.size w w' := by
  have E := nextO_eq m o k hm
  go_enter Try.func56, Try.ntmps56
  go_wp2
  exact bodyPost_ret (v := .agg #[.int .u64 m, .int .u64 (nextO m o (k + 1) : Nat), .int .u64 ((k : Int) + 1)]) (by simp [results, Try.results56, go_sem]) rfl ⟨rfl, ((Below.refl _ _).alloc (Nat.le_refl _) _).alloc (by simp) _⟩

/-- The places of the sequence, the k-th. -/
def placeO (h m : Nat) : Nat → Nat
  | 0 => h &&& m
  | k + 1 => nextO m (placeO h m k) (k + 1)
theorem placeO_lt (h m : Nat) (hm : m < 18446744073709551616) : ∀ k, placeO h m k < 18446744073709551616
  | 0 => Nat.lt_of_le_of_lt Nat.and_le_right hm
  | _ + 1 => nextO_lt _ _ _ hm
def placesL (h m n : Nat) : List Nat := (List.range n).map (placeO h m)
def wordV (xs : List Nat) : List Value := xs.map fun x => Value.int .u64 ((x : Nat) : Int)
theorem placesV_succ (h m k : Nat) : wordV (placesL h m (k + 1)) = wordV (placesL h m k) ++ [.int .u64 ((placeO h m k : Nat) : Int)] := by simp [wordV, placesL, List.range_succ]

/-- The three cells of a block. -/
theorem block3 {w : World} {S : Nat} {a b c : Value} {T : TypeId} (h : w.heap[S]? = some (.cells #[a, b, c] T (0, 0))) :
    w.cell? ⟨S, 0, none⟩ = some a ∧ w.cell? ⟨S, 1, none⟩ = some b ∧ w.cell? ⟨S, 2, none⟩ = some c ∧ w.frozen? ⟨S, 0, none⟩ = false ∧ w.frozen? ⟨S, 1, none⟩ = false ∧ w.frozen? ⟨S, 2, none⟩ = false := by
  refine ⟨?_, ?_, ?_, ?_, ?_, ?_⟩ <;> simp [World.cell?, World.frozen?, h]

theorem set3 {w : World} {S : Nat} {a b c : Value} {T : TypeId} (h : w.heap[S]? = some (.cells #[a, b, c] T (0, 0))) (a' b' c' : Value) :
    (((w.setCell ⟨S, 0, none⟩ a').setCell ⟨S, 1, none⟩ b').setCell ⟨S, 2, none⟩ c').heap[S]? = some (.cells #[a', b', c'] T (0, 0)) := by
  simp [World.setCell, Array.getElem?_modify, h]
theorem own_below {w w' : World} {B : Nat} {e : TypeId} {v : Value} {n : Nat} {xs : List Value} (h : w.ownsRow B e 1 v n xs) (hb : Below w.heap.size w w') : w'.ownsRow B e 1 v n xs :=
  h.kept (row := none) ⟨hb.os, hb.tape, hb.output, hb.size, fun k hk _ => hb.block k hk⟩ (by cases v.ownBlock <;> simp)
set_option maxHeartbeats 1600000 in
theorem probe_in (h m n : Nat) (hh : h < 18446744073709551616) (hm : m < 18446744073709551616) (hn : n ≤ 4096) (w : World) :
    Calls Try.prog 44 #[.int .u64 h, .int .u64 m, .int .i64 n] w fun e w' => ∃ v, e = .returned v ∧ w'.ownsRow w.heap.size 22 1 v n (wordV (placesL h m n)) ∧ Below w.heap.size w w' := by
  obtain ⟨i0, hi, hz0, hz1, hz2⟩ := info_parts Try.infoWord
  go_enter Try.func44, Try.ntmps44
  go_wp2_with fail
  refine (make_any h m hh hm _).mono ?_
  rintro e w1 ⟨rfl, hb1⟩
  go_wp2_with fail
  go_loopw [7, 9] (fun v i wr => ∃ k : Nat, k ≤ n ∧ i = .int .i64 k ∧ wr.ownsRow (w1.heap.size + 1) 22 1 v k (wordV (placesL h m k)) ∧
      wr.heap[w1.heap.size]? = some (.cells #[.int .u64 m, .int .u64 ((placeO h m k : Nat) : Int), .int .u64 (k : Int)] 57 (0, 0)) ∧ Below w1.heap.size w1 wr ∧ w1.heap.size + 1 ≤ wr.heap.size) (fun _ i _ => n - (intOf i).toNat)
  case atStart => exact ⟨0, by omega, rfl, World.ownsRow_nil _ _ _ _, heap_alloc_new _ _, (Below.refl _ _).alloc (Nat.le_refl _) _, by simp⟩
  case round =>
    obtain ⟨k, hk, rfl, hown, hblk, hbel, hsz⟩ := hrel
    by_cases hlt : k < n
    · obtain ⟨c0, c1, c2, f0, f1, f2⟩ := block3 hblk
      have hpl := placeO_lt h m hm k
      have hc3 : k + 1 ≤ maxLen := by unfold maxLen; omega
      have hc4 : (k + 1) * 8 ≤ 140737488355328 := by omega
      have hc5 : ∀ o, w1.heap.size + 1 ≤ (wr.alloc o).heap.size := by intro o; simp; omega
      have HC5 := Lib.hid hc5
      have HB := Lib.hid hblk
      clear hc5 hblk
      go_wp2_with (at_builtin; refine wpList_append_own _ rfl _ _ 40 rfl (w1.heap.size + 1) 22 i0 (.int .u64 0) 1 8 Try.underlying40 hi hz0 hz1 hz2 rfl (by decide) _ _ _ rfl (hown.alloc _) ⟨wr.heap.size, 0, none⟩ 1 1 [.int .u64 ((placeO h m k : Nat) : Int)] rfl rfl (cell_one_new _ _ _) (one_int _ _) hc3 hc4 (HC5.out _) ?_)
      intro v' w3 hown' hgrow _
      have hblk3 : w3.heap[w1.heap.size]? = some (.cells #[.int .u64 m, .int .u64 ((placeO h m k : Nat) : Int), .int .u64 (k : Int)] 57 (0, 0)) :=
        ((hgrow.block w1.heap.size (by simp; omega) (fun e => by have := (hown.lt _ e.symm).1; omega)).trans (Below.heap_alloc _ _ _ (by omega))).trans HB.out
      have hbel3 : Below w1.heap.size w1 w3 := (hbel.alloc (by omega) _).grown hgrow (by simp; omega) (fun j hj => by have := (hown.lt j hj).1; omega)
      have hsz3 : w1.heap.size + 1 ≤ w3.heap.size := by have := hgrow.size; simp at this; omega
      rw [← placesV_succ] at hown'
      clear c0 c1 c2 f0 f1 f2 hgrow hown hbel hsz hc3 hc4
      obtain ⟨c0, c1, c2, f0, f1, f2⟩ := block3 hblk3
      have HB3 := Lib.hid hblk3
      clear hblk3
      go_wp2_with fail
      refine (next_any m (placeO h m k) k hm hpl (by omega) _).mono ?_
      rintro e w4 ⟨rfl, hb4⟩
      have hblk4 := (hb4.block w1.heap.size (by omega)).trans HB3.out
      have hown4 := own_below hown' hb4
      have hbel4 := hbel3.trans (hb4.mono hbel3.size)
      have hsz4 : w1.heap.size + 1 ≤ w4.heap.size := Nat.le_trans hsz3 hb4.size
      clear c0 c1 c2 f0 f1 f2 hown' hb4 hbel3 hsz3
      obtain ⟨c0, c1, c2, f0, f1, f2⟩ := block3 hblk4
      have HB4 := Lib.hid hblk4
      clear hblk4
      go_wp2_with fail
      go_roundw
      case rel => exact ⟨k + 1, by omega, by go_num, ownsRow_setCell_below (ownsRow_setCell_below (ownsRow_setCell_below hown4 (Nat.lt_succ_self _) _) (Nat.lt_succ_self _) _) (Nat.lt_succ_self _) _, set3 HB4.out _ _ _,
          ((hbel4.setCell (Nat.le_refl _) _).setCell (Nat.le_refl _) _).setCell (Nat.le_refl _) _, by simp; omega⟩
      case measure => simp [intOf]; omega
    · obtain rfl : k = n := by omega
      clear hblk
      go_wp2_with fail
      go_ret
      exact ⟨_, rfl, ownsRow_mono hown (by have := hb1.size; omega), hb1.trans (hbel.mono hb1.size)⟩

set_option maxHeartbeats 400000 in
theorem probe_any (h m n : Nat) (hh : h < 18446744073709551616) (hm : m < 18446744073709551616) (hn : n ≤ 4096) (w : World) :
    Calls Try.prog 30 #[.int .u64 h, .int .u64 m, .int .i64 n] w fun e w' => ∃ v, e = .returned v ∧ w'.ownsRow w.heap.size 22 1 v n (wordV (placesL h m n)) ∧ Below w.heap.size w w' := by
  go_enter Try.func30, Try.ntmps30
  go_wp2_with fail
  refine (probe_in h m n hh hm hn _).mono ?_
  rintro e w1 ⟨v, rfl, hown, hb⟩
  go_wp2_with fail
  go_ret
  exact ⟨_, rfl, hown, hb⟩
end Go.Proofs.Ytejgndndjbdlaaa
