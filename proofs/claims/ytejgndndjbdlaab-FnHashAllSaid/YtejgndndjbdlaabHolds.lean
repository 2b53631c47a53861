/-
  The statements' own test that the slots of a set are some slots, in order: the walk.
-/
import Derived.Test.YtejgndndjbdlaabSlots
import Derived.Test.YtejgndndjbdlaabEqual
import Derived.Test.YtejgndndjbdlaabWhere
namespace Go.Proofs.Ytejgndndjbdlaab
open Go.RowKit

theorem reads_where {p : Nat → Bool} {n : Nat} {w : World} {v : Value} {B : Nat} (h : w.ownsRow B 3 1 v (whereN p n 8) (whereV p n 8)) : Reads .i64 w v (whereOf p n) :=
  reads_own (k := .i64) (xs := whereOf p n) h (by have := whereOf_length_le p n; omega)
theorem reads_slots {s : Nat} {w : World} {v : Value} {B : Nat} (h : w.ownsRow B 3 1 v (slotsN s 8) (slotsV s 8)) : Reads .i64 w v (slotsOf s) :=
  reads_own (k := .i64) (xs := slotsOf s) h (by have := slotsN_le s 8; show slotsN s 8 ≤ _; omega)
set_option maxHeartbeats 400000 in
theorem holds_any (s : Nat) (hs : s < 18446744073709551616) (ys : List Nat) (v : Value) (w : World) (hr : Reads .i64 w v ys) :
    Calls Try.prog 11 #[.int .u64 s, v] w fun e w' => e = .returned (.bool (decide (slotsOf s = ys))) ∧ Below w.heap.size w w' := by
  have HR := Lib.hid hr
  clear hr
  go_enter Try.func11, Try.ntmps11
  go_wp2_with fail
  refine (slots_any s hs _).mono ?_
  rintro e w1 ⟨v1, rfl, hown, hb1, _⟩
  have r1 := reads_slots hown
  have R1 := Lib.hid r1
  clear hown r1
  go_wp2_with fail
  refine (equal_int _ _ _ _ _ R1.out (HR.out.below hb1)).mono ?_
  rintro e w2 ⟨rfl, hb2⟩
  go_wp2_with fail
  go_ret
  exact ⟨rfl, hb1.trans (hb2.mono hb1.size)⟩
/-- Where the answer is yes. -/
theorem holds_yes (s : Nat) (hs : s < 18446744073709551616) (ys : List Nat) (v : Value) (w : World) (hr : Reads .i64 w v ys) (e : slotsOf s = ys) :
    Calls Try.prog 11 #[.int .u64 s, v] w fun e w' => e = .returned (.bool true) ∧ Below w.heap.size w w' := by
  refine (holds_any s hs ys v w hr).mono ?_
  rintro e' w' ⟨rfl, hb⟩
  exact ⟨ret_bool (decide_eq_true e), hb⟩
end Go.Proofs.Ytejgndndjbdlaab
