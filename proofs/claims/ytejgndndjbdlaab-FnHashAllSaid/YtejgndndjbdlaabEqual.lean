/-
  slices.Equal, at the types that the statements reach: the walk. 'Reads k w v xs': the slice v holds the numbers xs.
-/
import Derived.Test.YtejgndndjbdlaabSpec
import Derived.RegionTactic
import Derived.Deep.LoopGhost
import Derived.Deep.Draws
import Derived.Deep.QuietTactic
import Derived.BigQuiet
namespace Go.Proofs.Ytejgndndjbdlaab
open Go.RowKit

def Reads (k : IntKind) (w : World) (v : Value) (xs : List Nat) : Prop :=
  ∃ a cap, v = .slice a xs.length cap ∧ xs.length ≤ 9223372036854775807 ∧ (xs.length ≤ cap) ∧ (xs ≠ [] → ∃ g off, a = some ⟨g, off, none⟩ ∧ g < w.heap.size ∧ ∀ i x : Nat, xs[i]? = some x → w.cell? ⟨g, off + i, none⟩ = some (.int k (x : Int)))
theorem reads_own {k : IntKind} {w : World} {v : Value} {B : Nat} {e : TypeId} {xs : List Nat} (h : w.ownsRow B e 1 v xs.length (xs.map fun x => Value.int k ((x : Nat) : Int))) (hx : xs.length ≤ 9223372036854775807) : Reads k w v xs := by
  by_cases hn : 0 < xs.length
  · obtain ⟨g, cap, rfl, hg, hgs, hnc, hcap, hcell, hfr⟩ := own_cells h hn
    refine ⟨_, cap, rfl, hx, hnc, fun _ => ⟨g, 0, rfl, hgs, fun i x hi => ?_⟩⟩
    rw [Nat.zero_add]
    exact hcell i _ (by rw [List.getElem?_map, hi]; rfl)
  · have h0 : xs = [] := List.length_eq_zero_iff.1 (by omega)
    obtain ⟨a, cap, rfl⟩ := own_len h
    exact ⟨a, cap, rfl, hx, by omega, fun hne => absurd h0 hne⟩
theorem Reads.below {k : IntKind} {w w' : World} {v : Value} {xs : List Nat} (h : Reads k w v xs) (hb : Below w.heap.size w w') : Reads k w' v xs := by
  obtain ⟨a, cap, e, hx, hc, hr⟩ := h
  refine ⟨a, cap, e, hx, hc, fun hne => ?_⟩
  obtain ⟨g, off, ea, hg, hcell⟩ := hr hne
  exact ⟨g, off, ea, Nat.lt_of_lt_of_le hg hb.size, fun i x hi => (hb.cell (p := ⟨g, off + i, none⟩) hg).trans (hcell i x hi)⟩

set_option maxHeartbeats 1000000 in
theorem equal_int (xs ys : List Nat) (v1 v2 : Value) (w : World) (h1 : Reads .i64 w v1 xs) (h2 : Reads .i64 w v2 ys) :
    Calls Try.prog 32 #[v1, v2] w fun e w' => e = .returned (.bool (decide (xs = ys))) ∧ Below w.heap.size w w' := by
  obtain ⟨a1, c1, rfl, hx, _, r1⟩ := h1
  obtain ⟨a2, c2, rfl, hy, _, r2⟩ := h2
  by_cases hnm : xs.length = ys.length
  · by_cases hne : xs = []
    · subst hne
      have hy0 : ys = [] := List.length_eq_zero_iff.1 (by simpa using hnm.symm)
      subst hy0
      clear r1 r2 hnm
      go_enter Try.func32, Try.ntmps32
      go_wp2
      refine wp_loop_rounds 1 ?_
      rw [rounds_succ]
      go_wp2
      go_ret
      exact ⟨ret_bool (by simp), Below.refl _ _⟩
    · have hne2 : ys ≠ [] := by
        intro h; subst h; exact hne (List.length_eq_zero_iff.1 (by simpa using hnm))
      obtain ⟨g1, o1, rfl, hg1, hc1⟩ := r1 hne
      obtain ⟨g2, o2, rfl, hg2, hc2⟩ := r2 hne2
      clear r1 r2 hne hne2
      obtain ⟨n, hn⟩ : ∃ n, n = xs.length := ⟨_, rfl⟩
      rw [← hnm, ← hn]
      have HN := Lib.hid hn
      have HM := Lib.hid hnm
      have HC1 := Lib.hid hc1
      have HC2 := Lib.hid hc2
      rw [← hn] at hx
      clear hn hnm hc1 hc2 hy
      go_enter Try.func32, Try.ntmps32
      go_wp2
      go_loopg [13] n (fun g s13 wr => ∃ k q : Nat, k ≤ n ∧ n - k ≤ g ∧ s13 = .int .i64 k ∧ wr = w.drewN q ∧ Hid (∀ j, j < k → xs[j]? = ys[j]?))
      case atStart => exact ⟨0, 0, Nat.zero_le _, by omega, rfl, rfl, fun j hj => absurd hj (Nat.not_lt_zero _)⟩
      case round =>
        obtain ⟨k, q, hk, hg, rfl, rfl, A⟩ := hrel
        by_cases hlt : k < n
        · obtain ⟨x, hxk⟩ : ∃ x, xs[k]? = some x := ⟨_, List.getElem?_eq_getElem (by rw [← HN.out]; exact hlt)⟩
          obtain ⟨y, hyk⟩ : ∃ y, ys[k]? = some y := ⟨_, List.getElem?_eq_getElem (by rw [← HM.out, ← HN.out]; exact hlt)⟩
          have k1 := HC1.out k x hxk
          have k2 := HC2.out k y hyk
          have XK := Lib.hid hxk
          have YK := Lib.hid hyk
          clear hxk hyk
          by_cases hxy : x = y
          · subst hxy
            go_wp2_with fail
            go_region
            go_wp2
            go_roundg (n - (k + 1))
            case measure => omega
            case rel =>
              refine ⟨k + 1, q + 1, by omega, by omega, by go_num, rfl, (show Hid _ from fun j hj => ?_)⟩
              by_cases e : j = k
              · subst e
                rw [XK.out, YK.out]
              · exact A.out j (by omega)
          · have hb : (((x : Nat) : Int) != ((y : Nat) : Int)) = true := by rw [bne_iff_ne]; omega
            have E : Hid (decide (xs = ys) = false) := Lib.hid (by
              rw [decide_eq_false_iff_not]
              intro h
              rw [h, YK.out] at XK
              exact hxy (Option.some.inj XK.out).symm)
            go_wp2_with fail
            go_region
            go_wp2
            go_ret
            exact ⟨ret_bool E.out.symm, below_drewN (Below.refl _ _) _⟩
        · obtain rfl : k = n := by omega
          have E : Hid (decide (xs = ys) = true) := Lib.hid (by
            rw [decide_eq_true_eq]
            apply List.ext_getElem? 
            intro j
            by_cases hj : j < k
            · exact A.out j hj
            · rw [List.getElem?_eq_none (by have := HN.out; omega), List.getElem?_eq_none (by have := HN.out; have := HM.out; omega)])
          go_wp2
          go_ret
          exact ⟨ret_bool E.out.symm, below_drewN (Below.refl _ _) _⟩
  · have hnm' : ¬ (xs.length : Int) = (ys.length : Int) := by omega
    have E : Hid (decide (xs = ys) = false) := Lib.hid (by
      rw [decide_eq_false_iff_not]
      intro h
      exact hnm (by rw [h]))
    clear r1 r2
    go_enter Try.func32, Try.ntmps32
    go_wp2
    go_ret
    exact ⟨ret_bool E.out.symm, Below.refl _ _⟩

end Go.Proofs.Ytejgndndjbdlaab
