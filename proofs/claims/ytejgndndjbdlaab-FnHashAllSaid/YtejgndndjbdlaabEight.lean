/-
  The eight slots 0 to 7, as the statements write them out; the set that has them all.
-/
import Derived.Test.YtejgndndjbdlaabHolds
namespace Go.Proofs.Ytejgndndjbdlaab
open Go.RowKit

theorem eight_cell (i : Nat) (x : Nat) (h : [0, 1, 2, 3, 4, 5, 6, 7][i]? = some x) : i < 8 ∧ x = i := by
  have hi : i < 8 := (List.getElem?_eq_some_iff.1 h).1
  refine ⟨hi, ?_⟩
  match i, hi, h with
  | 0, _, h => simpa using h.symm
  | 1, _, h => simpa using h.symm
  | 2, _, h => simpa using h.symm
  | 3, _, h => simpa using h.symm
  | 4, _, h => simpa using h.symm
  | 5, _, h => simpa using h.symm
  | 6, _, h => simpa using h.symm
  | 7, _, h => simpa using h.symm
theorem reads_eight (w : World) (T : TypeId) :
    Reads .i64 (w.alloc (.cells #[.int .i64 0, .int .i64 1, .int .i64 2, .int .i64 3, .int .i64 4, .int .i64 5, .int .i64 6, .int .i64 7] T)) (.slice (some ⟨w.heap.size, 0, none⟩) 8 8) [0, 1, 2, 3, 4, 5, 6, 7] := by
  refine ⟨_, 8, rfl, by decide, by decide, fun _ => ⟨w.heap.size, 0, rfl, by simp, fun i x hi => ?_⟩⟩
  obtain ⟨h8, rfl⟩ := eight_cell i x hi
  rw [World.cell?_alloc_at _ _ _ _ rfl, Nat.zero_add]
  clear hi
  match x, h8 with
  | 0, _ => rfl
  | 1, _ => rfl
  | 2, _ => rfl
  | 3, _ => rfl
  | 4, _ => rfl
  | 5, _ => rfl
  | 6, _ => rfl
  | 7, _ => rfl
theorem all_eight (v : Value) (w : World) (hr : Reads .i64 w v [0, 1, 2, 3, 4, 5, 6, 7]) :
    Calls Try.prog 11 #[.int .u64 9259542123273814144, v] w fun e w' => e = .returned (.bool true) ∧ Below w.heap.size w w' := by
  rw [lit_msb]
  exact holds_yes 9259542123273814144 (by decide) _ v w hr (by decide +kernel)
theorem lit_zero : (0 : Int) = ((0 : Nat) : Int) := rfl
theorem full_zero (w : World) : Calls Try.prog 12 #[.int .u64 0] w fun e w' => e = .returned (.int .u64 9259542123273814144) ∧ w = w' := by
  rw [lit_zero]
  refine (full_any 0 (by decide) w).mono ?_
  rintro e w' ⟨rfl, rfl⟩
  exact ⟨ret_int (by rw [show fullW 0 = 9259542123273814144 from by decide +kernel]; rfl), rfl⟩
theorem below_zero (w : World) : Calls Try.prog 22 #[.int .u64 9259542123273814144, .int .u64 0] w fun e w' => e = .returned (.int .u64 9259542123273814144) ∧ w = w' := by
  rw [lit_msb, lit_zero]
  refine (below_any 9259542123273814144 0 (by decide) (by decide) w).mono ?_
  rintro e w' ⟨rfl, rfl⟩
  exact ⟨ret_int (by rw [show lessBelowW 9259542123273814144 0 = 9259542123273814144 from by decide +kernel]), rfl⟩
theorem hash_zero (w : World) : Calls Try.prog 24 #[.int .u64 0, .int .u64 0] w fun e w' => e = .returned (.int .u64 9259542123273814144) ∧ w = w' := by
  rw [lit_zero]
  refine (hash_any 0 0 (by decide) (by decide) w).mono ?_
  rintro e w' ⟨rfl, rfl⟩
  exact ⟨ret_int (by rw [show hashW 0 0 = 9259542123273814144 from by decide +kernel]; rfl), rfl⟩
theorem empty_new (w : World) : Calls Try.prog 15 #[.int .u64 9259542123273814144] w fun e w' => e = .returned (.int .u64 9259542123273814144) ∧ w = w' := by
  rw [lit_msb]
  refine (empty_any 9259542123273814144 (by decide) w).mono ?_
  rintro e w' ⟨rfl, rfl⟩
  exact ⟨ret_int (by rw [show emptyW 9259542123273814144 = 9259542123273814144 from by decide +kernel]), rfl⟩
theorem get_new (i : Nat) (hi : i < 8) (w : World) : Calls Try.prog 31 #[.int .u64 9259542123273814144, .int .u64 i] w fun e w' => e = .returned (.int .u8 128) ∧ Below w.heap.size w w' := by
  rw [lit_msb]
  refine (get_any 9259542123273814144 i (by decide) hi w).mono ?_
  rintro e w' ⟨rfl, hb⟩
  have h : ∀ i, i < 8 → byt 9259542123273814144 i = 128 := by decide +kernel
  exact ⟨ret_int (by rw [h i hi]; rfl), hb⟩
end Go.Proofs.Ytejgndndjbdlaab
