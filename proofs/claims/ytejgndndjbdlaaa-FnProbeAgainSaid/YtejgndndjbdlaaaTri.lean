/-
  Plain facts on the probe sequence: its k-th place is the hash and the k-th triangular number, round a power of 2; within one round all places differ.
-/
import Derived.Test.YtejgndndjbdlaaaProbe
namespace Go.Proofs.Ytejgndndjbdlaaa

def tri : Nat → Nat
  | 0 => 0
  | k + 1 => tri k + (k + 1)
theorem tri_two : ∀ k, 2 * tri k = k * (k + 1)
  | 0 => rfl
  | k + 1 => by
    have h := tri_two k
    have e1 : k * (k + 1) = k * k + k := by rw [Nat.mul_add, Nat.mul_one]
    have e2 : (k + 1) * (k + 1 + 1) = k * k + k + (2 * k + 2) := by
      rw [Nat.mul_add, Nat.mul_one, Nat.mul_add, Nat.mul_one, Nat.add_mul, Nat.one_mul]; omega
    rw [tri, Nat.mul_add]
    omega
theorem and_mask (x j : Nat) : x &&& (2 ^ j - 1) = x % 2 ^ j := Nat.and_two_pow_sub_one_eq_mod x j
theorem mod_mod64 (x j : Nat) (hj : j ≤ 64) : x % 18446744073709551616 % 2 ^ j = x % 2 ^ j :=
  Nat.mod_mod_of_dvd x (Nat.pow_dvd_pow 2 hj)
theorem placeO_tri (h j : Nat) (hj : j ≤ 64) : ∀ k, placeO h (2 ^ j - 1) k = (h + tri k) % 2 ^ j
  | 0 => by rw [placeO, and_mask]; rfl
  | k + 1 => by
    rw [placeO, placeO_tri h j hj k, nextO, and_mask, mod_mod64 _ _ hj, tri, Nat.mod_add_mod]
    congr 1
    omega
/-- The reference's places. -/
def specO (h m : Nat) : Nat → Nat
  | 0 => h % (m + 1)
  | k + 1 => (specO h m k + k + 1) % (m + 1)
theorem specO_lt (h m : Nat) : ∀ k, specO h m k < m + 1
  | 0 => Nat.mod_lt _ (Nat.succ_pos _)
  | _ + 1 => Nat.mod_lt _ (Nat.succ_pos _)
theorem specO_tri (h j : Nat) : ∀ k, specO h (2 ^ j - 1) k = (h + tri k) % 2 ^ j
  | 0 => by
    have hp := Nat.two_pow_pos j
    rw [specO, Nat.sub_add_cancel hp]; rfl
  | k + 1 => by
    have hp := Nat.two_pow_pos j
    rw [specO, specO_tri h j k, Nat.sub_add_cancel hp, tri, Nat.add_assoc, Nat.mod_add_mod]
    congr 1
    omega
def specL (h m n : Nat) : List Nat := (List.range n).map (specO h m)
theorem places_spec (h j n : Nat) (hj : j ≤ 64) : placesL h (2 ^ j - 1) n = specL h (2 ^ j - 1) n := by
  unfold placesL specL
  refine List.map_congr_left fun k _ => ?_
  rw [placeO_tri h j hj, specO_tri]
theorem places_hash (h j n : Nat) (hj : j ≤ 64) : placesL (h &&& (2 ^ j - 1)) (2 ^ j - 1) n = placesL h (2 ^ j - 1) n := by
  unfold placesL
  refine List.map_congr_left fun k _ => ?_
  rw [placeO_tri _ j hj, placeO_tri _ j hj, and_mask, Nat.mod_add_mod]
theorem places_take (h m n : Nat) : (placesL h m (n + 1)).take n = placesL h m n := by
  unfold placesL
  rw [← List.map_take, List.take_range, Nat.min_eq_left (Nat.le_succ n)]
theorem places_length (h m n : Nat) : (placesL h m n).length = n := by simp [placesL]

theorem tri_differ (h j i k : Nat) (hik : i < k) (hk : k < 2 ^ j) : (h + tri i) % 2 ^ j ≠ (h + tri k) % 2 ^ j := by
  intro he
  have hi := tri_two i
  have hk2 := tri_two k
  have hle : i * (i + 1) ≤ k * (k + 1) := Nat.mul_le_mul (by omega) (by omega)
  have hd : 2 ^ j ∣ (h + tri k) - (h + tri i) := Nat.dvd_of_mod_eq_zero (Nat.sub_mod_eq_zero_of_mod_eq he.symm)
  have hd2 : 2 ^ (j + 1) ∣ (k - i) * (k + i + 1) := by
    obtain ⟨c, hc⟩ := hd
    refine ⟨c, ?_⟩
    rw [Nat.pow_succ, Nat.mul_right_comm, ← hc]
    obtain ⟨d, rfl⟩ : ∃ d, k = i + d := ⟨k - i, by omega⟩
    have e1 : (i + d) * (i + d + 1) = i * (i + 1) + d * (i + d + i + 1) := by grind
    rw [show i + d - i = d from by omega]
    omega
  have hpos : 0 < k - i := by omega
  have hodd : ∀ x, x % 2 = 1 → Nat.Coprime (2 ^ (j + 1)) x := fun x hx => by
    apply Nat.Coprime.pow_left
    rw [Nat.coprime_iff_gcd_eq_one, Nat.gcd_rec, hx]
    simp
  by_cases ho : (k - i) % 2 = 1
  · have h1 := (hodd _ ho).dvd_of_dvd_mul_left hd2
    have h2 := Nat.le_of_dvd (by omega) h1
    rw [Nat.pow_succ] at h2
    omega
  · have h1 := (hodd (k + i + 1) (by omega)).dvd_of_dvd_mul_right hd2
    have h2 := Nat.le_of_dvd hpos h1
    rw [Nat.pow_succ] at h2
    omega
theorem places_nodup (h j : Nat) (hj : j ≤ 64) (i k : Nat) (hi : i < 2 ^ j) (hk : k < 2 ^ j) (e : placeO h (2 ^ j - 1) i = placeO h (2 ^ j - 1) k) : i = k := by
  rw [placeO_tri h j hj, placeO_tri h j hj] at e
  rcases Nat.lt_trichotomy i k with hlt | heq | hgt
  · exact absurd e (tri_differ h j i k hlt hk)
  · exact heq
  · exact absurd e.symm (tri_differ h j k i hgt hi)
/-- A mask below 4096 whose successor is a power of 2. -/
theorem mask_pow (m : Nat) (hm : m < 4096) (hp : powB (m + 1) = true) : ∃ j, j ≤ 64 ∧ m = 2 ^ j - 1 := by
  simp only [powB, Bool.and_eq_true, bne_iff_ne, beq_iff_eq] at hp
  obtain ⟨j, hj⟩ := pow_of_and (m + 1) hp.1 hp.2
  refine ⟨j, ?_, by omega⟩
  rcases Nat.lt_or_ge j 65 with h | h
  · omega
  · have : 2 ^ 65 ≤ 2 ^ j := Nat.pow_le_pow_right (by decide) h
    omega
end Go.Proofs.Ytejgndndjbdlaaa
