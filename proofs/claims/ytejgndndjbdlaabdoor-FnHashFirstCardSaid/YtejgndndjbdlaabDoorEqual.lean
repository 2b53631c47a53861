/-
  slices.Equal, at the types that the statements reach: the walk. 'Reads k w v xs': the slice v holds the numbers xs.
-/
import Derived.Test.YtejgndndjbdlaabDoorSpec
import Derived.RegionTactic
import Derived.Deep.LoopGhost
import Derived.Deep.Draws
import Derived.Deep.QuietTactic
import Derived.BigQuiet
namespace Go.Proofs.YtejgndndjbdlaabDoor
open Go.RowKit

def Reads (k : IntKind) (w : World) (v : Value) (xs : List Nat) : Prop :=
  ∃ a cap, v = .slice a xs.length cap ∧ xs.length ≤ 9223372036854775807 ∧ (xs.length ≤ cap) ∧ (xs ≠ [] → ∃ g off, a = some ⟨g, off, none⟩ ∧ g < w.heap.size ∧ ∀ i x : Nat, xs[i]? = some x → w.cell? ⟨g, off + i, none⟩ = some (.int k (x : Int)))
theorem reads_own {k : IntKind} {w : World} {v : Value} {B : Nat} {e : TypeId} {xs : List Nat} (h : w.ownsRow B e 1 v xs.length (xs.map fun x => Value.int k ((x : Nat) : Int))) (hx : xs.length ≤ 9223372036854775807) : Reads k w v xs := by
  by_cases hn : 0 < xs.length
  · obtain ⟨g, cap, rfl, hg, hgs, hnc, hcap, hcell, hfr⟩ := own_cells h hn
    refine ⟨_, cap, rfl, hx, hnc, fun _ => ⟨g, 0, rfl, hgs, fun i x hi => ?_⟩⟩
    rw [Nat.zero_add]
    exact hcell i _ (by rw [List.getElem?_map, hi]; rfl)
  · have h0 : xs = [] := List.length_eq_zero_iff.1 (by omega)
    obtain ⟨a, cap, rfl⟩ := own_len h
    exact ⟨a, cap, rfl, hx, by omega, fun hne => absurd h0 hne⟩
theorem Reads.below {k : IntKind} {w w' : World} {v : Value} {xs : List Nat} (h : Reads k w v xs) (hb : Below w.heap.size w w') : Reads k w' v xs := by
  obtain ⟨a, cap, e, hx, hc, hr⟩ := h
  refine ⟨a, cap, e, hx, hc, fun hne => ?_⟩
  obtain ⟨g, off, ea, hg, hcell⟩ := hr hne
  exact ⟨g, off, ea, Nat.lt_of_lt_of_le hg hb.size, fun i x hi => (hb.cell (p := ⟨g, off + i, none⟩) hg).trans (hcell i x hi)⟩


end Go.Proofs.YtejgndndjbdlaabDoor
