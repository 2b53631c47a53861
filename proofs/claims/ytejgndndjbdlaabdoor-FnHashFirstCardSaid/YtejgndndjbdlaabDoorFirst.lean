/-
  The first slot of a set: math/bits.TrailingZeros64, which looks into the library's table of 64 bytes: the walk. 'Tab w': the table lies in the world w.
-/
import Derived.Test.YtejgndndjbdlaabDoorLeaf
namespace Go.Proofs.YtejgndndjbdlaabDoor
open Go.RowKit

def dbTab : List Int := [0, 1, 56, 2, 57, 49, 28, 3, 61, 58, 42, 50, 38, 29, 17, 4, 62, 47, 59, 36, 45, 43, 51, 22, 53, 39, 33, 30, 24, 18, 12, 5, 63, 55, 48, 27, 60, 41, 37, 16, 46, 35, 44, 21, 52, 32, 23, 11, 54, 26, 40, 15, 34, 20, 31, 10, 25, 14, 19, 9, 13, 8, 7, 6]
def Tab (w : World) : Prop := ∀ i, i < 64 → w.cell? ⟨0, i, none⟩ = some (.int .u8 (dbTab.getD i 0))
theorem Tab.below {w w' : World} (h : Tab w) (hb : Below w.heap.size w w') : Tab w' := fun i hi =>
  (hb.cell (p := ⟨0, i, none⟩) (World.block_lt_of_cell? w _ (h i hi))).trans (h i hi)
/-- Where the table is looked into; what stands there. -/
def tzI (n : Nat) : Nat := (n &&& (18446744073709551616 - n)) * 285870213051353865 % 18446744073709551616 / 288230376151711744
def tzW (n : Nat) : Nat := (dbTab.getD (tzI n) 0).toNat
theorem tzI_lt (n : Nat) : tzI n < 64 := by unfold tzI; omega
theorem dbTab_range : ∀ i, i < 64 → 0 ≤ dbTab.getD i 0 ∧ dbTab.getD i 0 < 64 := by decide +kernel
theorem tzW_spread : ∀ m, m < 256 → m ≠ 0 → (slotL m).head? = some (tzW (spread m) / 8) := by decide +kernel

theorem tz_index (n : Nat) (hn : n < 18446744073709551616) (h0 : 0 < n) :
    IntKind.u64.wrap (bits .and .u64 (n : Int) (IntKind.u64.wrap (-(n : Int))) * 285870213051353865) / 288230376151711744 = ((tzI n : Nat) : Int) := by
  have e1 : IntKind.u64.wrap (-(n : Int)) = ((18446744073709551616 - n : Nat) : Int) := by rw [IntKind.wrap_u64]; omega
  have e2 : (((n &&& (18446744073709551616 - n) : Nat) : Int) * 285870213051353865) = (((n &&& (18446744073709551616 - n)) * 285870213051353865 : Nat) : Int) := by omega
  rw [e1, u64_and_nat n _ hn (by omega), e2, u64_wrap]
  unfold tzI
  omega
theorem tz_facts (n : Nat) (w : World) (hT : Tab w) : ∃ (q : Nat) (z : Int), tzI n = q ∧ q < 64 ∧ w.cell? ⟨0, q, none⟩ = some (.int .u8 z) ∧ 0 ≤ z ∧ z < 64 ∧ ((tzW n : Nat) : Int) = z := by
  have hr := dbTab_range _ (tzI_lt n)
  exact ⟨tzI n, dbTab.getD (tzI n) 0, rfl, tzI_lt n, hT _ (tzI_lt n), hr.1, hr.2, by unfold tzW; omega⟩
set_option maxHeartbeats 400000 in
theorem tz_in (n q : Nat) (z : Int) (_hn : n < 18446744073709551616) (h0 : 0 < n) (w : World) (hq : q < 64) (hc : w.cell? ⟨0, q, none⟩ = some (.int .u8 z)) (z0 : 0 ≤ z) (z1 : z < 64)
    (E : Hid (IntKind.u64.wrap (bits .and .u64 (n : Int) (IntKind.u64.wrap (-(n : Int))) * 285870213051353865) / 288230376151711744 = ((q : Nat) : Int))) :
    Calls Tryd.prog 35 #[.int .u64 n] w fun e w' => e = .returned (.int .i64 z) ∧ w = w' := by
  have hne : (((n : Nat) : Int) == 0) = false := by rw [beq_eq_false_iff_ne]; omega
  clear h0
  go_enter Tryd.func35, Tryd.ntmps35
  go_wp2_with (rw [E.out])
  go_ret
  exact ⟨rfl, rfl⟩
theorem tz_any (n : Nat) (hn : n < 18446744073709551616) (h0 : 0 < n) (w : World) (hT : Tab w) :
    Calls Tryd.prog 35 #[.int .u64 n] w fun e w' => e = .returned (.int .i64 ((tzW n : Nat) : Int)) ∧ w = w' := by
  obtain ⟨q, z, h1, h2, h3, h4, h5, h6⟩ := tz_facts n w hT
  rw [h6]
  exact tz_in n q z hn h0 w h2 h3 h4 h5 (by rw [tz_index n hn h0, h1]; exact Lib.hid rfl)
set_option maxHeartbeats 400000 in
theorem first_in (n t : Nat) (ht : t < 64) (w : World) (HC : Hid (Calls Tryd.prog 35 #[.int .u64 n] w fun e w' => e = .returned (.int .i64 ((t : Nat) : Int)) ∧ w = w')) :
    Calls Tryd.prog 13 #[.int .u64 n] w fun e w' => e = .returned (.int .u64 ((t / 8 : Nat) : Int)) ∧ w = w' := by
  go_enter Tryd.func13, Tryd.ntmps13
  go_wp2_with (first | (go_at_call 20; go_in) | (go_at_call 26; go_in) | (go_at_call 32; go_in))
  refine HC.out.mono ?_
  rintro e w' ⟨rfl, rfl⟩
  go_wp2
  go_ret
  exact ⟨ret_int (by omega), rfl⟩
theorem tzW_lt (n : Nat) : tzW n < 64 := by
  have := dbTab_range _ (tzI_lt n)
  unfold tzW; omega
theorem first_any (n : Nat) (hn : n < 18446744073709551616) (h0 : 0 < n) (w : World) (hT : Tab w) :
    Calls Tryd.prog 13 #[.int .u64 n] w fun e w' => e = .returned (.int .u64 ((tzW n / 8 : Nat) : Int)) ∧ w = w' :=
  first_in n (tzW n) (tzW_lt n) w (Lib.hid (tz_any n hn h0 w hT))
end Go.Proofs.YtejgndndjbdlaabDoor
