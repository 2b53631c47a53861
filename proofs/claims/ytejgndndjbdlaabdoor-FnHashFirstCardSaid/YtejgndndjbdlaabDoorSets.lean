/-
  Plain facts on sets: what counting, the first slot, taking slots away and moving down do to a set. Each is asked of all 256 sets by the kernel.
-/
import Derived.Test.YtejgndndjbdlaabDoorPlain
namespace Go.Proofs.YtejgndndjbdlaabDoor

/-- How many bits (the parallel sum of math/bits). -/
def popW (x : Nat) : Nat :=
  let a := ((x / 2 &&& 6148914691236517205) + (x &&& 6148914691236517205)) % 18446744073709551616
  let b := ((a / 4 &&& 3689348814741910323) + (a &&& 3689348814741910323)) % 18446744073709551616
  let c := (b / 16 + b) % 18446744073709551616 &&& 1085102592571150095
  let d := (c + c / 256) % 18446744073709551616
  let e := (d + d / 65536) % 18446744073709551616
  let f := (e + e / 4294967296) % 18446744073709551616
  f % 128
theorem popW_spread : ∀ m, m < 256 → popW (spread m) = (slotL m).length := by decide +kernel

/-- Without the lowest bit. -/
def lessFirstW (x : Nat) : Nat := x &&& ((x + 18446744073709551615) % 18446744073709551616)
def restM (m : Nat) : Nat := m &&& (m - 1)
theorem lessFirstW_spread : ∀ m, m < 256 → lessFirstW (spread m) = spread (restM m) := by decide +kernel
theorem restM_lt (m : Nat) (h : m < 256) : restM m < 256 := Nat.lt_of_le_of_lt Nat.and_le_left h
theorem slotL_rest : ∀ m, m < 256 → slotL (restM m) = (slotL m).tail := by decide +kernel

/-- Without what lies below byte i. -/
def lessBelowW (x i : Nat) : Nat := x &&& (18446744073709551615 - (2 ^ (8 * i) - 1))
theorem lessBelowW_spread : ∀ m, m < 256 → ∀ i, i < 8 → lessBelowW (spread m) i = spread (m / 2 ^ i * 2 ^ i) := by decide +kernel
theorem slotL_below : ∀ m, m < 256 → ∀ i, i < 8 → slotL (m / 2 ^ i * 2 ^ i) = (slotL m).filter fun k => decide (i ≤ k) := by decide +kernel

/-- Slot 0; moved down by one. -/
theorem low_spread : ∀ m, m < 256 → (spread m &&& 128 != 0) = m.testBit 0 := by decide +kernel
theorem down_spread : ∀ m, m < 256 → spread m / 256 = spread (m / 2) := by decide +kernel
theorem slotL_down : ∀ m, m < 256 → slotL (m / 2) = ((slotL m).filter fun k => decide (1 ≤ k)).map (· - 1) := by decide +kernel
theorem slotL_nil : ∀ m, m < 256 → slotL m = [] → m = 0 := by decide +kernel
theorem slotL_lt (m : Nat) : ∀ k ∈ slotL m, k < 8 := by
  intro k hk
  have := (List.mem_filter.1 hk).1
  simpa using this
theorem slotL_length_le (m : Nat) : (slotL m).length ≤ 8 := by
  have := List.length_filter_le (fun i => m.testBit i) (List.range 8)
  rwa [List.length_range] at this

/-- The slots of any word, as the reference gathers them. -/
def slotsOf (s : Nat) : List Nat := (List.range 8).filter fun i => s.testBit (8 * i + 7)
theorem slotsOf_spread (m : Nat) (hm : m < 256) : slotsOf (spread m) = slotL m := by
  unfold slotsOf slotL
  refine List.filter_congr fun i hi => ?_
  rw [spread_slot m hm i (by simpa using hi)]

/-- The slots whose control bytes something holds of, as the reference gathers them. -/
def whereOf (p : Nat → Bool) (n : Nat) : List Nat := (List.range 8).filter fun i => p (byt n i)
theorem slotL_where (p : Nat → Bool) (n : Nat) : slotL (mask fun i => p (byt n i)) = whereOf p n := slotL_mask _
theorem whereOf_lt (p : Nat → Bool) (n : Nat) : ∀ k ∈ whereOf p n, k < 8 := by
  intro k hk
  have := (List.mem_filter.1 hk).1
  simpa using this
theorem whereOf_length_le (p : Nat → Bool) (n : Nat) : (whereOf p n).length ≤ 8 := by
  have := List.length_filter_le (fun i => p (byt n i)) (List.range 8)
  rwa [List.length_range] at this

/-- The matching of a hash: v is the group with the hash taken off each byte. -/
def hashW (n h : Nat) : Nat :=
  let v := n ^^^ (72340172838076673 * h % 18446744073709551616)
  (((v + 18374403900871474943) % 18446744073709551616) &&& (18446744073709551615 - v)) &&& 9259542123273814144
theorem hashW_lt (n h : Nat) : hashW n h < 18446744073709551616 := and_msb_lt _

/-- Which bytes of v match: those that are 0; and those that are 1 and stand right above one that matches. -/
def hit (v : Nat) : Nat → Bool
  | 0 => decide (byt v 0 = 0)
  | i + 1 => decide (byt v (i + 1) = 0) || (decide (byt v (i + 1) = 1) && hit v i)

/-- Byte i against what is borrowed from it: 'L' is what 1 in each byte comes to. -/
theorem eight (p : Nat → Prop) (h0 : p 0) (h1 : p 1) (h2 : p 2) (h3 : p 3) (h4 : p 4) (h5 : p 5) (h6 : p 6) (h7 : p 7) : ∀ i, i < 8 → p i
  | 0, _ => h0
  | 1, _ => h1
  | 2, _ => h2
  | 3, _ => h3
  | 4, _ => h4
  | 5, _ => h5
  | 6, _ => h6
  | 7, _ => h7
theorem hit_eq (v : Nat) : ∀ i, i < 8 → hit v i = decide (v % 2 ^ (8 * i + 8) < 72340172838076673 % 2 ^ (8 * i + 8)) := by
  intro i
  induction i with
  | zero => intro _; simp only [hit, byt]; congr 1; apply propext; constructor <;> intro h <;> omega
  | succ i ih =>
    intro h8
    rw [hit, ih (by omega)]
    rw [Bool.eq_iff_iff]
    simp only [Bool.or_eq_true, Bool.and_eq_true, decide_eq_true_eq]
    unfold byt
    clear ih
    revert h8
    refine fun h8 => eight (fun i => i < 7 → (v / 2 ^ (8 * (i + 1)) % 256 = 0 ∨ v / 2 ^ (8 * (i + 1)) % 256 = 1 ∧ v % 2 ^ (8 * i + 8) < 72340172838076673 % 2 ^ (8 * i + 8) ↔
      v % 2 ^ (8 * (i + 1) + 8) < 72340172838076673 % 2 ^ (8 * (i + 1) + 8))) ?_ ?_ ?_ ?_ ?_ ?_ ?_ ?_ i (by omega) (by omega)
    all_goals
      simp only [Nat.reduceAdd, Nat.reduceMul, Nat.reducePow, Nat.reduceMod]
      omega
theorem borrow_top (v : Nat) (hv : v < 18446744073709551616) (i : Nat) (hi : i < 8) :
    (((v + 18374403900871474943) % 18446744073709551616).testBit (8 * i + 7) && !v.testBit (8 * i + 7)) = hit v i := by
  rw [hit_eq v i hi, top_bit, top_bit, Bool.eq_iff_iff]
  simp only [Bool.and_eq_true, Bool.not_eq_true', decide_eq_true_eq, decide_eq_false_iff_not]
  unfold byt
  refine eight (fun i => (128 ≤ (v + 18374403900871474943) % 18446744073709551616 / 2 ^ (8 * i) % 256 ∧ ¬ 128 ≤ v / 2 ^ (8 * i) % 256 ↔
      v % 2 ^ (8 * i + 8) < 72340172838076673 % 2 ^ (8 * i + 8))) ?_ ?_ ?_ ?_ ?_ ?_ ?_ ?_ i hi
  all_goals
    simp only [Nat.reduceAdd, Nat.reduceMul, Nat.reducePow, Nat.reduceMod]
    omega

theorem byt_xor (a b i : Nat) : byt (a ^^^ b) i = byt a i ^^^ byt b i := by
  apply Nat.eq_of_testBit_eq
  intro k
  by_cases hk : k < 8
  · rw [Nat.testBit_xor, ← byte_bit _ i k hk, ← byte_bit _ i k hk, ← byte_bit _ i k hk, Nat.testBit_xor]
  · have hp : 2 ^ 8 ≤ 2 ^ k := Nat.pow_le_pow_right (by decide) (by omega)
    have h1 := byt_lt (a ^^^ b) i; have h2 := byt_lt a i; have h3 := byt_lt b i
    have h4 : byt a i ^^^ byt b i < 2 ^ 8 := Nat.xor_lt_two_pow (by omega) (by omega)
    rw [Nat.testBit_lt_two_pow (by omega), Nat.testBit_lt_two_pow (by omega)]
theorem byt_same : ∀ h, h < 128 → ∀ i, i < 8 → byt (72340172838076673 * h % 18446744073709551616) i = h := by decide +kernel

/-- Which slots are in the set of a hash. -/
def hitOf (n h : Nat) : Nat → Bool := hit (n ^^^ (72340172838076673 * h % 18446744073709551616))
theorem hashW_eq (n h : Nat) (hn : n < 18446744073709551616) : hashW n h = spread (mask (hitOf n h)) := by
  have hv : n ^^^ (72340172838076673 * h % 18446744073709551616) < 18446744073709551616 :=
    Nat.xor_lt_two_pow (n := 64) (by omega) (Nat.mod_lt _ (by decide))
  apply eq_spread _ (hashW_lt n h)
  · intro j hj h7
    simp [hashW, msb_bit j hj, h7]
  · intro i hi
    have e1 : (8 * i + 7) % 8 = 7 := by omega
    unfold hashW hitOf
    rw [← borrow_top _ hv i hi]
    rw [Nat.testBit_and, Nat.testBit_and, msb_bit (8 * i + 7) (by omega), e1, not_bit _ hv (8 * i + 7) (by omega)]
    simp

theorem xor_zero_iff (a b : Nat) : a ^^^ b = 0 ↔ a = b := by
  constructor
  · intro h
    have : a ^^^ b ^^^ b = 0 ^^^ b := by rw [h]
    simpa [Nat.xor_assoc] using this
  · rintro rfl; simp
theorem hitOf_zero (n h : Nat) (hh : h < 128) : hitOf n h 0 = decide (byt n 0 = h) := by
  unfold hitOf hit
  rw [byt_xor, byt_same h hh 0 (by decide)]
  congr 1
  exact propext (xor_zero_iff _ _)
theorem hitOf_succ (n h : Nat) (hh : h < 128) (i : Nat) (hi : i + 1 < 8) :
    hitOf n h (i + 1) = (decide (byt n (i + 1) = h) || (decide (byt n (i + 1) = h ^^^ 1) && hitOf n h i)) := by
  unfold hitOf
  rw [hit, byt_xor, byt_same h hh (i + 1) hi]
  have e1 : (byt n (i + 1) ^^^ h = 0) ↔ (byt n (i + 1) = h) := xor_zero_iff _ _
  have e2 : (byt n (i + 1) ^^^ h = 1) ↔ (byt n (i + 1) = h ^^^ 1) := by
    constructor
    · intro hx
      have := (xor_zero_iff (byt n (i + 1)) (h ^^^ 1)).1 (by rw [← Nat.xor_assoc, hx]; rfl)
      exact this
    · intro hx
      have := (xor_zero_iff (byt n (i + 1)) (h ^^^ 1)).2 hx
      rw [← Nat.xor_assoc] at this
      exact (xor_zero_iff _ _).1 this
  simp only [e1, e2]
/-- Whoever has the hash is in the set. -/
theorem hitOf_has (n h : Nat) (hh : h < 128) (i : Nat) (hi : i < 8) (e : byt n i = h) : hitOf n h i = true := by
  match i, hi with
  | 0, _ => rw [hitOf_zero n h hh]; simp [e]
  | i + 1, hi => rw [hitOf_succ n h hh i hi]; simp [e]
/-- Whoever is in the set has the hash, or the one that differs in the last bit. -/
theorem hitOf_near (n h : Nat) (hh : h < 128) (i : Nat) (hi : i < 8) (e : hitOf n h i = true) : byt n i = h ∨ byt n i = h ^^^ 1 := by
  match i, hi with
  | 0, _ => rw [hitOf_zero n h hh] at e; exact Or.inl (by simpa using e)
  | i + 1, hi =>
    rw [hitOf_succ n h hh i hi] at e
    simp only [Bool.or_eq_true, Bool.and_eq_true, decide_eq_true_eq] at e
    rcases e with e | ⟨e, _⟩
    · exact Or.inl e
    · exact Or.inr e
/-- The first of the set is the first that has the hash. -/
theorem hitOf_first (n h : Nat) (hh : h < 128) : ∀ k, k ≤ 8 → ((List.range k).filter (hitOf n h)).head? = ((List.range k).filter fun i => decide (byt n i = h)).head? ∧
    (((List.range k).filter fun i => decide (byt n i = h)) = [] → ∀ i, i < k → hitOf n h i = false) := by
  intro k
  induction k with
  | zero => intro _; exact ⟨rfl, fun _ i hi => absurd hi (by omega)⟩
  | succ k ih =>
    intro hk
    obtain ⟨h1, h2⟩ := ih (by omega)
    have ek : ((List.range k).filter fun i => decide (byt n i = h)) = [] → hitOf n h k = decide (byt n k = h) := by
      intro he
      match k, hk with
      | 0, _ => exact hitOf_zero n h hh
      | k + 1, hk =>
        rw [hitOf_succ n h hh k (by omega), h2 he k (by omega)]
        simp
    rw [List.range_succ, List.filter_append, List.filter_append, List.head?_append, List.head?_append, h1]
    refine ⟨?_, ?_⟩
    · by_cases he : ((List.range k).filter fun i => decide (byt n i = h)) = []
      · rw [he]
        simp only [List.head?_nil, Option.none_or, List.filter_cons, List.filter_nil, ek he]
      · obtain ⟨x, r, hx⟩ := List.exists_cons_of_ne_nil he
        rw [hx]; rfl
    · intro he i hi
      have he1 := (List.append_eq_nil_iff.1 he).1
      by_cases hik : i < k
      · exact h2 he1 i hik
      · obtain rfl : i = k := by omega
        rw [ek he1]
        have he2 := (List.append_eq_nil_iff.1 he).2
        by_cases hb : byt n i = h
        · simp [hb] at he2
        · simp [hb]

end Go.Proofs.YtejgndndjbdlaabDoor
