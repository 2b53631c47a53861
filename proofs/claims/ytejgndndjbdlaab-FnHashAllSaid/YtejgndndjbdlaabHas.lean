/-
  slices.Contains and slices.Index, at []int, where the number is there: the walk.
-/
import Derived.Test.YtejgndndjbdlaabEqual
namespace Go.Proofs.Ytejgndndjbdlaab
open Go.RowKit

set_option maxHeartbeats 400000 in
theorem index_any (xs : List Nat) (x : Nat) (v : Value) (w : World) (hr : Reads .i64 w v xs) (hx : x ∈ xs) :
    Calls Try.prog 41 #[v, .int .i64 (x : Int)] w fun e w' => ∃ j : Nat, e = .returned (.int .i64 (j : Int)) ∧ w = w' := by
  obtain ⟨a, cap, rfl, hle, hcap, r⟩ := hr
  have hne : xs ≠ [] := by intro h; subst h; simp at hx
  obtain ⟨g, off, rfl, hg, hcell⟩ := r hne
  obtain ⟨L, hL⟩ : ∃ L, L = xs.length := ⟨_, rfl⟩
  rw [← hL] at hle hcap ⊢
  have HL := Lib.hid hL
  have HC := Lib.hid hcell
  have HX := Lib.hid hx
  clear hL hcell hx r hne
  go_enter Try.func41, Try.ntmps41
  go_wp2_with fail
  go_loopw [8] (fun s wr => ∃ k : Nat, k ≤ L ∧ s = .int .i64 k ∧ w = wr ∧ Hid (∀ j, j < k → xs[j]? ≠ some x)) (fun s _ => L - (intOf s).toNat)
  case atStart => exact ⟨0, Nat.zero_le _, rfl, rfl, fun j hj => absurd hj (Nat.not_lt_zero _)⟩
  case round =>
    obtain ⟨k, hk, rfl, rfl, A⟩ := hrel
    by_cases hlt : k < L
    · obtain ⟨y, hyk⟩ : ∃ y, xs[k]? = some y := ⟨_, List.getElem?_eq_getElem (by rw [← HL.out]; exact hlt)⟩
      have k1 := HC.out k y hyk
      have YK := Lib.hid hyk
      clear hyk
      by_cases hxy : x = y
      · subst hxy
        go_wp2_with fail
        go_ret
        exact ⟨k, rfl, rfl⟩
      · have hb : (((x : Nat) : Int) == ((y : Nat) : Int)) = false := by rw [beq_eq_false_iff_ne]; omega
        have hA : Hid (∀ j, j < k + 1 → xs[j]? ≠ some x) := Lib.hid (fun j hj => by
          by_cases e : j = k
          · subst e
            rw [YK.out]
            intro h
            exact hxy (Option.some.inj h).symm
          · exact A.out j (by omega))
        clear hxy
        go_wp2_with fail
        go_roundw
        case rel => exact ⟨k + 1, by omega, by go_num, trivial, hA⟩
        case measure => simp [intOf]; omega
    · obtain rfl : k = L := by omega
      obtain ⟨j, hj⟩ := List.mem_iff_getElem?.1 HX.out
      exact absurd hj (A.out j (by have := (List.getElem?_eq_some_iff.1 hj).1; have := HL.out; omega))
theorem has_any (xs : List Nat) (x : Nat) (v : Value) (w : World) (hr : Reads .i64 w v xs) (hx : x ∈ xs) :
    Calls Try.prog 28 #[v, .int .i64 (x : Int)] w fun e w' => e = .returned (.bool true) ∧ w = w' := by
  have HI := Lib.hid (index_any xs x v w hr hx)
  clear hr hx
  go_enter Try.func28, Try.ntmps28
  go_wp2_with fail
  refine HI.out.mono ?_
  rintro e w1 ⟨j, rfl, rfl⟩
  clear HI
  have hd : (0 : Int) ≤ (j : Int) := by omega
  go_wp2_with fail
  go_ret
  exact ⟨rfl, rfl⟩
end Go.Proofs.Ytejgndndjbdlaab
