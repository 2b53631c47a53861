/-
  Plain facts on groups of eight control bytes and on sets of their slots. No program stands here.
  'byt n i': control byte i of the group n. 'spread m': the set whose slots are the bits of m. 'slotL m': these slots in order.
-/
import Derived.Laws.BitsAllLaws
namespace Go.Proofs.Ytejgndndjbdlaab

/-- Control byte i of a group. -/
def byt (n i : Nat) : Nat := n / 2 ^ (8 * i) % 256
theorem byt_lt (n i : Nat) : byt n i < 256 := Nat.mod_lt _ (by decide)

/-- A number whose bit i is f i, for i below 8. -/
def mask (f : Nat → Bool) : Nat :=
  (f 0).toNat + 2 * (f 1).toNat + 4 * (f 2).toNat + 8 * (f 3).toNat + 16 * (f 4).toNat + 32 * (f 5).toNat + 64 * (f 6).toNat + 128 * (f 7).toNat
theorem mask_lt (f : Nat → Bool) : mask f < 256 := by
  unfold mask
  have h := fun i => Bool.toNat_le (f i)
  have := h 0; have := h 1; have := h 2; have := h 3; have := h 4; have := h 5; have := h 6; have := h 7
  omega
theorem mask_bits : ∀ b0 b1 b2 b3 b4 b5 b6 b7 : Bool, ∀ i, i < 8 →
    (b0.toNat + 2 * b1.toNat + 4 * b2.toNat + 8 * b3.toNat + 16 * b4.toNat + 32 * b5.toNat + 64 * b6.toNat + 128 * b7.toNat).testBit i = [b0, b1, b2, b3, b4, b5, b6, b7].getD i false := by
  decide +kernel
theorem mask_bit (f : Nat → Bool) (i : Nat) (h : i < 8) : (mask f).testBit i = f i := by
  unfold mask
  rw [mask_bits _ _ _ _ _ _ _ _ i h]
  match i, h with
  | 0, _ => rfl
  | 1, _ => rfl
  | 2, _ => rfl
  | 3, _ => rfl
  | 4, _ => rfl
  | 5, _ => rfl
  | 6, _ => rfl
  | 7, _ => rfl

/-- The slots of a set, in order. -/
def slotL (m : Nat) : List Nat := (List.range 8).filter fun i => m.testBit i
theorem slotL_mask (f : Nat → Bool) : slotL (mask f) = (List.range 8).filter f := by
  unfold slotL
  refine List.filter_congr fun i hi => ?_
  rw [mask_bit f i (by simpa using hi)]

/-- The set (a word) whose slots are the bits of m. -/
def spread (m : Nat) : Nat :=
  m % 2 * 2 ^ 7 + m / 2 % 2 * 2 ^ 15 + m / 4 % 2 * 2 ^ 23 + m / 8 % 2 * 2 ^ 31 + m / 16 % 2 * 2 ^ 39 + m / 32 % 2 * 2 ^ 47 + m / 64 % 2 * 2 ^ 55 + m / 128 % 2 * 2 ^ 63
theorem spread_lt (m : Nat) : spread m < 18446744073709551616 := by unfold spread; omega
theorem spread_bit : ∀ m, m < 256 → ∀ j, j < 64 → (spread m).testBit j = (decide (j % 8 = 7) && m.testBit (j / 8)) := by decide +kernel
theorem spread_slot (m : Nat) (hm : m < 256) (i : Nat) (hi : i < 8) : (spread m).testBit (8 * i + 7) = m.testBit i := by
  rw [spread_bit m hm _ (by omega)]
  have e1 : (8 * i + 7) % 8 = 7 := by omega
  have e2 : (8 * i + 7) / 8 = i := by omega
  simp [e1, e2]
/-- A word that has bits at the tops of bytes alone is a set. -/
theorem eq_spread (s : Nat) (hs : s < 18446744073709551616) (f : Nat → Bool) (h0 : ∀ j, j < 64 → j % 8 ≠ 7 → s.testBit j = false)
    (h1 : ∀ i, i < 8 → s.testBit (8 * i + 7) = f i) : s = spread (mask f) := by
  apply Nat.eq_of_testBit_eq
  intro j
  by_cases hj : j < 64
  · rw [spread_bit _ (mask_lt f) j hj]
    by_cases h7 : j % 8 = 7
    · have e : j = 8 * (j / 8) + 7 := by omega
      have hb := h1 (j / 8) (by omega)
      rw [← e] at hb
      rw [hb, mask_bit f _ (by omega)]
      simp [h7]
    · rw [h0 j hj h7]
      simp [h7]
  · have hp : 2 ^ 64 ≤ 2 ^ j := Nat.pow_le_pow_right (by decide) (by omega)
    rw [Nat.testBit_lt_two_pow (by omega : s < 2 ^ j), Nat.testBit_lt_two_pow (by have := spread_lt (mask f); omega : spread (mask f) < 2 ^ j)]

/-- The bit at the top of byte i, and the other ones of the byte. -/
theorem top_bit (n i : Nat) : n.testBit (8 * i + 7) = decide (128 ≤ byt n i) := by
  rw [Nat.testBit_eq_decide_div_mod_eq]
  unfold byt
  rw [Nat.pow_add, ← Nat.div_div_eq_div_mul]
  generalize n / 2 ^ (8 * i) = a
  congr 1
  apply propext
  constructor <;> intro h <;> omega
theorem byte_bit (n i k : Nat) (hk : k < 8) : n.testBit (8 * i + k) = (byt n i).testBit k := by
  unfold byt
  rw [show (256 : Nat) = 2 ^ 8 from rfl, Nat.testBit_mod_two_pow, Nat.testBit_div_two_pow]
  simp [hk, Nat.add_comm]

theorem msb_bit : ∀ j, j < 64 → (9259542123273814144 : Nat).testBit j = decide (j % 8 = 7) := by decide +kernel
theorem ones_bit : ∀ j, j < 64 → (18446744073709551615 : Nat).testBit j = true := by decide +kernel
theorem not_bit (x : Nat) (hx : x < 18446744073709551616) (j : Nat) (hj : j < 64) : (18446744073709551615 - x).testBit j = !x.testBit j := by
  have h := Nat.testBit_two_pow_sub_succ (n := 64) (x := x) (by omega) j
  have e : 2 ^ 64 - (x + 1) = 18446744073709551615 - x := by omega
  rw [e] at h
  simp [h, hj]
theorem and_msb_lt (x : Nat) : x &&& 9259542123273814144 < 18446744073709551616 := Nat.lt_of_le_of_lt Nat.and_le_right (by decide)

/-- What each function computes, as numbers. -/
def fullW (n : Nat) : Nat := (18446744073709551615 ^^^ n) &&& 9259542123273814144
def freeW (n : Nat) : Nat := n &&& 9259542123273814144
def emptyW (n : Nat) : Nat := (n &&& (18446744073709551615 - n * 64 % 18446744073709551616)) &&& 9259542123273814144
theorem fullW_lt (n : Nat) : fullW n < 18446744073709551616 := and_msb_lt _
theorem freeW_lt (n : Nat) : freeW n < 18446744073709551616 := and_msb_lt _
theorem emptyW_lt (n : Nat) : emptyW n < 18446744073709551616 := and_msb_lt _

theorem fullW_eq (n : Nat) : fullW n = spread (mask fun i => decide (byt n i < 128)) := by
  apply eq_spread _ (fullW_lt n)
  · intro j hj h7
    simp [fullW, msb_bit j hj, h7]
  · intro i hi
    have e1 : (8 * i + 7) % 8 = 7 := by omega
    unfold fullW
    rw [Nat.testBit_and, Nat.testBit_xor, msb_bit (8 * i + 7) (by omega), ones_bit (8 * i + 7) (by omega), top_bit, e1]
    by_cases h : byt n i < 128
    · have h' : ¬ 128 ≤ byt n i := by omega
      simp [h, h']
    · have h' : 128 ≤ byt n i := by omega
      simp [h, h']
theorem freeW_eq (n : Nat) : freeW n = spread (mask fun i => decide (128 ≤ byt n i)) := by
  apply eq_spread _ (freeW_lt n)
  · intro j hj h7
    simp [freeW, msb_bit j hj, h7]
  · intro i hi
    have e1 : (8 * i + 7) % 8 = 7 := by omega
    unfold freeW
    rw [Nat.testBit_and, msb_bit (8 * i + 7) (by omega), top_bit, e1]
    simp

/-- Each control byte is that of an empty slot, of a deleted one, or a hash. -/
def wellB (n : Nat) : Bool := (List.range 8).all fun i => decide (byt n i < 128) || decide (byt n i = 128) || decide (byt n i = 254)
theorem wellB_at {n : Nat} (h : wellB n = true) (i : Nat) (hi : i < 8) : byt n i < 128 ∨ byt n i = 128 ∨ byt n i = 254 := by
  have := List.all_eq_true.1 h i (by simpa using hi)
  simpa [or_assoc] using this

theorem emptyW_eq (n : Nat) (hw : wellB n = true) : emptyW n = spread (mask fun i => decide (byt n i = 128)) := by
  apply eq_spread _ (emptyW_lt n)
  · intro j hj h7
    simp [emptyW, msb_bit j hj, h7]
  · intro i hi
    have e1 : (8 * i + 7) % 8 = 7 := by omega
    have hs : (n * 64 % 18446744073709551616).testBit (8 * i + 7) = n.testBit (8 * i + 1) := by
      rw [show (18446744073709551616 : Nat) = 2 ^ 64 from rfl, Nat.testBit_mod_two_pow, show (64 : Nat) = 2 ^ 6 from rfl, ← Nat.shiftLeft_eq, Nat.testBit_shiftLeft]
      have e2 : 8 * i + 7 - 6 = 8 * i + 1 := by omega
      have e3 : 8 * i + 7 < 2 ^ 6 := by omega
      have e4 : 6 ≤ 8 * i + 7 := by omega
      simp [e2, e4]
      intro _; omega
    unfold emptyW
    rw [Nat.testBit_and, Nat.testBit_and, msb_bit (8 * i + 7) (by omega), e1, not_bit _ (Nat.mod_lt _ (by decide : 0 < 18446744073709551616)) (8 * i + 7) (by omega), hs, top_bit, byte_bit n i 1 (by decide)]
    rcases wellB_at hw i hi with h | h | h
    · have h1 : ¬ 128 ≤ byt n i := by omega
      have h2 : ¬ byt n i = 128 := by omega
      simp [h1, h2]
    · rw [h]; decide
    · rw [h]; decide

/-- A group with one byte set; rounding up. -/
def setW (n i c : Nat) : Nat := (n &&& (18446744073709551615 - 255 * 2 ^ (8 * i) % 18446744073709551616)) ||| (c * 2 ^ (8 * i) % 18446744073709551616)
def upW (n a : Nat) : Nat := (n + a - 1) % 18446744073709551616 &&& (18446744073709551615 - (a - 1))
theorem setW_lt (n i c : Nat) (hn : n < 18446744073709551616) : setW n i c < 18446744073709551616 :=
  Nat.or_lt_two_pow (n := 64) (Nat.lt_of_le_of_lt Nat.and_le_left hn) (Nat.mod_lt _ (by decide))
/-- A group is its bytes. -/
theorem byt_ext (a b : Nat) (ha : a < 18446744073709551616) (hb : b < 18446744073709551616) (h : ∀ i, i < 8 → byt a i = byt b i) : a = b := by
  apply Nat.eq_of_testBit_eq
  intro j
  by_cases hj : j < 64
  · have e : j = 8 * (j / 8) + j % 8 := by omega
    rw [e, byte_bit _ _ _ (Nat.mod_lt _ (by decide)), byte_bit _ _ _ (Nat.mod_lt _ (by decide)), h _ (by omega)]
  · have hp : 2 ^ 64 ≤ 2 ^ j := Nat.pow_le_pow_right (by decide) (by omega)
    rw [Nat.testBit_lt_two_pow (by omega), Nat.testBit_lt_two_pow (by omega)]
theorem bit_of_byt (n i k : Nat) (hk : k < 8) : (byt n i).testBit k = n.testBit (8 * i + k) := (byte_bit n i k hk).symm
theorem setW_byt (n i c k : Nat) (hi : i < 8) (hk : k < 8) (hc : c < 256) : byt (setW n i c) k = if k = i then c else byt n k := by
  have hlt : (if k = i then c else byt n k) < 256 := by split; exact hc; exact byt_lt _ _
  apply Nat.eq_of_testBit_eq
  intro j
  by_cases hj : j < 8
  · rw [bit_of_byt _ _ _ hj]
    have h64 : 8 * k + j < 64 := by omega
    unfold setW
    rw [Nat.testBit_or, Nat.testBit_and, not_bit _ (Nat.mod_lt _ (by decide)) _ h64, show (18446744073709551616 : Nat) = 2 ^ 64 from rfl, Nat.testBit_mod_two_pow, Nat.testBit_mod_two_pow,
      ← Nat.shiftLeft_eq, ← Nat.shiftLeft_eq, Nat.testBit_shiftLeft, Nat.testBit_shiftLeft]
    by_cases hki : k = i
    · subst hki
      have e1 : 8 * k + j - 8 * k = j := by omega
      have h255 : (255 : Nat).testBit j = true := by
        have := Nat.testBit_two_pow_sub_one 8 j
        simpa [hj] using this
      simp [h64, e1, h255]
    · rw [if_neg hki, byte_bit n k j hj]
      by_cases hlt : k < i
      · have : ¬ 8 * i ≤ 8 * k + j := by omega
        simp [h64, this]
      · have hge : 8 * i ≤ 8 * k + j := by omega
        have h8 : 8 ≤ 8 * k + j - 8 * i := by omega
        have hp : 2 ^ 8 ≤ 2 ^ (8 * k + j - 8 * i) := Nat.pow_le_pow_right (by decide) h8
        have z1 : (255 : Nat).testBit (8 * k + j - 8 * i) = false := Nat.testBit_lt_two_pow (by omega)
        have z2 : c.testBit (8 * k + j - 8 * i) = false := Nat.testBit_lt_two_pow (by omega)
        simp [h64, hge, z1, z2]
  · have hp : 2 ^ 8 ≤ 2 ^ j := Nat.pow_le_pow_right (by decide) (by omega)
    have := byt_lt (setW n i c) k
    rw [Nat.testBit_lt_two_pow (by omega), Nat.testBit_lt_two_pow (by omega)]
theorem setW_self (n i : Nat) (hn : n < 18446744073709551616) (hi : i < 8) : setW n i (byt n i) = n := by
  apply byt_ext _ _ (setW_lt _ _ _ hn) hn
  intro k hk
  rw [setW_byt n i _ k hi hk (byt_lt _ _)]
  split
  · subst_vars; rfl
  · rfl
theorem setW_back (n i : Nat) (hn : n < 18446744073709551616) (hi : i < 8) : setW (setW n i 0) i (byt n i) = n := by
  apply byt_ext _ _ (setW_lt _ _ _ (setW_lt _ _ _ hn)) hn
  intro k hk
  rw [setW_byt _ i _ k hi hk (byt_lt _ _), setW_byt n i _ k hi hk (by decide)]
  split
  · subst_vars; rfl
  · rfl

/-- A number that has but one bit in common with none below it is a power of 2. -/
theorem pow_of_and : ∀ n : Nat, n ≠ 0 → n &&& (n - 1) = 0 → ∃ k, n = 2 ^ k := by
  intro n
  induction n using Nat.strongRecOn with
  | ind n ih =>
    intro h0 h
    by_cases h1 : n = 1
    · exact ⟨0, by simpa using h1⟩
    have hodd : n % 2 = 0 := by
      by_cases ho : n % 2 = 0
      · exact ho
      · exfalso
        have ho : n % 2 = 1 := by omega
        have hd : n / 2 &&& n / 2 = 0 := by
          have e := congrArg (· / 2 ^ 1) h
          simp only [Nat.and_div_two_pow] at e
          rw [show n / 2 ^ 1 = n / 2 from rfl, show (n - 1) / 2 ^ 1 = n / 2 from by omega] at e
          simpa using e
        rw [Nat.and_self] at hd
        omega
    have hd : n / 2 &&& (n / 2 - 1) = 0 := by
      have e := congrArg (· / 2 ^ 1) h
      simp only [Nat.and_div_two_pow] at e
      rw [show n / 2 ^ 1 = n / 2 from rfl, show (n - 1) / 2 ^ 1 = n / 2 - 1 from by omega] at e
      simpa using e
    obtain ⟨k, hk⟩ := ih (n / 2) (by omega) (by omega) hd
    exact ⟨k + 1, by rw [Nat.pow_succ]; omega⟩
theorem upW_pow (n k : Nat) (hk : k < 64) (h : n + (2 ^ k - 1) < 18446744073709551616) : upW n (2 ^ k) = (n + (2 ^ k - 1)) / 2 ^ k * 2 ^ k := by
  have hp := Nat.two_pow_pos k
  have hpk : 2 ^ k ≤ 2 ^ 63 := Nat.pow_le_pow_right (by decide) (by omega)
  unfold upW
  rw [show n + 2 ^ k - 1 = n + (2 ^ k - 1) from by omega, Nat.mod_eq_of_lt h]
  generalize n + (2 ^ k - 1) = x at h
  apply Nat.eq_of_testBit_eq
  intro j
  rw [Nat.testBit_and]
  rw [← Nat.shiftLeft_eq, ← Nat.shiftRight_eq_div_pow, Nat.testBit_shiftLeft, Nat.testBit_shiftRight]
  by_cases hj : j < 64
  · rw [not_bit _ (by omega) j hj, Nat.testBit_two_pow_sub_one]
    by_cases hkj : k ≤ j
    · have e1 : ¬ j < k := by omega
      have e2 : k + (j - k) = j := by omega
      simp [e1, e2, hkj]
    · have e1 : j < k := by omega
      simp [e1, hkj]
  · have hp : 2 ^ 64 ≤ 2 ^ j := Nat.pow_le_pow_right (by decide) (by omega)
    have e2 : k + (j - k) = j := by omega
    rw [e2, Nat.testBit_lt_two_pow (by omega : x < 2 ^ j)]
    simp
theorem upW_up (n a : Nat) (ha : a < 18446744073709551616) (h0 : a ≠ 0) (hp : a &&& (a - 1) = 0) (h : n ≤ 18446744073709551615 - (a - 1)) :
    upW n a % a = 0 ∧ n ≤ upW n a ∧ upW n a - n < a ∧ upW n a < 18446744073709551616 := by
  obtain ⟨k, rfl⟩ := pow_of_and a h0 hp
  have hk : k < 64 := by
    rcases Nat.lt_or_ge k 64 with hk | hk
    · exact hk
    · have : 2 ^ 64 ≤ 2 ^ k := Nat.pow_le_pow_right (by decide) hk
      omega
  have hpos := Nat.two_pow_pos k
  rw [upW_pow n k hk (by omega)]
  have hd := Nat.div_add_mod (n + (2 ^ k - 1)) (2 ^ k)
  have hm := Nat.mod_lt (n + (2 ^ k - 1)) hpos
  rw [Nat.mul_comm] at hd
  refine ⟨Nat.mul_mod_left _ _, by omega, by omega, by omega⟩

end Go.Proofs.Ytejgndndjbdlaab
