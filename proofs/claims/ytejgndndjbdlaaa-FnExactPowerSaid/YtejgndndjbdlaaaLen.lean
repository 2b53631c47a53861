/-
  math/bits.Len64: the walk.
-/
import Derived.Test.YtejgndndjbdlaaaRows
import Derived.Lib.Strings
import Derived.Lib.Slices
import Derived.Lib.Small
import Derived.Lib.Walk
import Derived.Lib.BitFns
namespace Go.Proofs.Ytejgndndjbdlaaa

theorem len_close (n s : Nat) (sI t : Int) (hn : n < 18446744073709551616) (hsI : sI = s) (hs : s ≤ 56) (h1 : 2 ^ s ≤ n) (h2 : n / 2 ^ s < 256) (ht : t = ((n / 2 ^ s : Nat) : Int)) :
    (sI + ((Lib.len8 t + 9223372036854775808) % 18446744073709551616 - 9223372036854775808) + 9223372036854775808) % 18446744073709551616 - 9223372036854775808 = (Lib.bitLen n : Nat) := by
  have l3 := Lib.bitLen_shift s n h1 hn
  generalize n / 2 ^ s = q at h2 ht l3
  have l1 := Lib.len8_of t (by omega) (by omega)
  have l2 := Lib.bitLen_le8' t (by omega) (by omega)
  have e : t.toNat = q := by omega
  rw [e] at l1 l2
  rw [l1]
  omega
set_option maxHeartbeats 4000000 in
set_option maxRecDepth 100000 in
theorem len_any (n : Nat) (hn : n < 18446744073709551616) (w : World) :
    Calls Try.prog 63 #[.int .u64 n] w fun e w' => e = .returned (.int .i64 (Lib.bitLen n : Nat)) ∧ w = w' := by
  go_enter Try.func63, Try.ntmps63
  go_wp2
  all_goals (go_ret; refine ⟨congrArg Ending.returned (congrArg (Value.int IntKind.i64) ?_), rfl⟩)
  · exact len_close n 56 _ _ hn rfl (by decide) (by omega) (by omega) (by omega)
  · exact len_close n 48 _ _ hn rfl (by decide) (by omega) (by omega) (by omega)
  · exact len_close n 40 _ _ hn rfl (by decide) (by omega) (by omega) (by omega)
  · exact len_close n 32 _ _ hn rfl (by decide) (by omega) (by omega) (by omega)
  · exact len_close n 24 _ _ hn rfl (by decide) (by omega) (by omega) (by omega)
  · exact len_close n 16 _ _ hn rfl (by decide) (by omega) (by omega) (by omega)
  · exact len_close n 8 _ _ hn rfl (by decide) (by omega) (by omega) (by omega)
  · have l1 := Lib.len8_of ((n : Int) % 256) (by omega) (by omega)
    have l2 := Lib.bitLen_le8' ((n : Int) % 256) (by omega) (by omega)
    have e : ((n : Int) % 256).toNat = n := by omega
    rw [e] at l1 l2
    rw [l1]
    omega
end Go.Proofs.Ytejgndndjbdlaaa
