/-
  The contracts of the thin functions once more, each answer under a name of its own.
-/
import Derived.Test.YtejgndndjbdlaabDoorFirst
namespace Go.Proofs.YtejgndndjbdlaabDoor
open Go.RowKit

theorem first_of (n t : Nat) (hn : n < 18446744073709551616) (h0 : 0 < n) (ht : tzW n / 8 = t) (w : World) (hT : Tab w) :
    Calls Tryd.prog 13 #[.int .u64 n] w fun e w' => e = .returned (.int .u64 (t : Int)) ∧ w = w' := by
  subst ht
  exact first_any n hn h0 w hT
theorem count_of (n c : Nat) (hn : n < 18446744073709551616) (hc : popW n = c) (w : World) :
    Calls Tryd.prog 16 #[.int .u64 n] w fun e w' => e = .returned (.int .i64 (c : Int)) ∧ w = w' := by
  subst hc
  exact count_any n hn w
theorem low_of (n : Nat) (b : Bool) (hn : n < 18446744073709551616) (hb : (n &&& 128 != 0) = b) (w : World) :
    Calls Tryd.prog 10 #[.int .u64 n] w fun e w' => e = .returned (.bool b) ∧ w = w' := by
  subst hb
  exact low_any n hn w
theorem full_of (n F : Nat) (hn : n < 18446744073709551616) (hF : fullW n = F) (w : World) :
    Calls Tryd.prog 15 #[.int .u64 n] w fun e w' => e = .returned (.int .u64 (F : Int)) ∧ w = w' := by
  subst hF
  exact full_any n hn w
theorem down_of (n d : Nat) (hn : n < 18446744073709551616) (hd : n / 256 = d) (w : World) :
    Calls Tryd.prog 11 #[.int .u64 n] w fun e w' => e = .returned (.int .u64 (d : Int)) ∧ w = w' := by
  subst hd
  exact down_any n hn w
end Go.Proofs.YtejgndndjbdlaabDoor
