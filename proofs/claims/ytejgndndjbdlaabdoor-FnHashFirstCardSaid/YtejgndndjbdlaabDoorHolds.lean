/-
  The statements' own test that the slots of a set are some slots, in order: the walk.
-/
import Derived.Test.YtejgndndjbdlaabDoorSlots
import Derived.Test.YtejgndndjbdlaabDoorEqual
import Derived.Test.YtejgndndjbdlaabDoorWhere
namespace Go.Proofs.YtejgndndjbdlaabDoor
open Go.RowKit

theorem reads_where {p : Nat → Bool} {n : Nat} {w : World} {v : Value} {B : Nat} (h : w.ownsRow B 3 1 v (whereN p n 8) (whereV p n 8)) : Reads .i64 w v (whereOf p n) :=
  reads_own (k := .i64) (xs := whereOf p n) h (by have := whereOf_length_le p n; omega)
theorem reads_slots {s : Nat} {w : World} {v : Value} {B : Nat} (h : w.ownsRow B 3 1 v (slotsN s 8) (slotsV s 8)) : Reads .i64 w v (slotsOf s) :=
  reads_own (k := .i64) (xs := slotsOf s) h (by have := slotsN_le s 8; show slotsN s 8 ≤ _; omega)
end Go.Proofs.YtejgndndjbdlaabDoor
