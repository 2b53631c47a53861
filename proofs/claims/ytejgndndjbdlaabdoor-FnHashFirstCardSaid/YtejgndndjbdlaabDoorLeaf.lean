/-
  What the small functions of the thin package return, each for every word: the walks. The results are the plain functions of the texts Plain and Sets.
-/
import Derived.Test.YtejgndndjbdlaabDoorRows
import Derived.Test.YtejgndndjbdlaabDoorSets
import Derived.WalkKit
import Derived.WalkSpells
import Derived.WalkLawsBesides
import Derived.Deep.DeepCutAuto
import Derived.Lib.Hide
namespace Go.Proofs.YtejgndndjbdlaabDoor
open Go.RowKit

theorem ret_int {k : IntKind} {a b : Int} (h : a = b) : Ending.returned (.int k a) = .returned (.int k b) := by rw [h]
theorem ret_bool {a b : Bool} (h : a = b) : Ending.returned (.bool a) = .returned (.bool b) := by rw [h]
theorem u64_wrap (n : Nat) : IntKind.u64.wrap (n : Int) = ((n % 18446744073709551616 : Nat) : Int) := by rw [IntKind.wrap_u64]; omega
theorem lit_msb : (9259542123273814144 : Int) = ((9259542123273814144 : Nat) : Int) := rfl
theorem lit_ones : (18446744073709551615 : Int) = ((18446744073709551615 : Nat) : Int) := rfl
theorem u64_max : IntKind.u64.max = ((18446744073709551615 : Nat) : Int) := rfl
theorem and_msb (n : Nat) (hn : n < 18446744073709551616) : bits .and .u64 (n : Int) 9259542123273814144 = ((n &&& 9259542123273814144 : Nat) : Int) := by
  rw [lit_msb, u64_and_nat n _ hn (by decide)]
theorem full_eq (n : Nat) (hn : n < 18446744073709551616) : bits .and .u64 (bits .xor .u64 IntKind.u64.max (n : Int)) 9259542123273814144 = ((fullW n : Nat) : Int) := by
  rw [u64_max, u64_xor_nat _ n (by decide) hn, and_msb _ (Nat.xor_lt_two_pow (n := 64) (by decide) (by omega))]
  rfl
theorem bne_cast (n : Nat) : ((n : Int) != 0) = (n != 0) := by
  rw [Bool.eq_iff_iff]; simp
theorem beq_cast (n : Nat) : ((n : Int) == 0) = (n == 0) := by
  rw [Bool.eq_iff_iff]; simp

set_option maxHeartbeats 400000 in
theorem full_any (n : Nat) (hn : n < 18446744073709551616) (w : World) :
    Calls Tryd.prog 15 #[.int .u64 n] w fun e w' => e = .returned (.int .u64 (fullW n)) ∧ w = w' := by
  have hs : IntKind.u64.signed = false := rfl
  go_enter Tryd.func15, Tryd.ntmps15
  go_wp2
  go_ret
  exact ⟨ret_int (full_eq n hn), rfl⟩
theorem hash_eq (n h : Nat) (hn : n < 18446744073709551616) : bits .and .u64 (bits .andNot .u64 (IntKind.u64.wrap (bits .xor .u64 (n : Int) (IntKind.u64.wrap (72340172838076673 * (h : Int))) - 72340172838076673)) (bits .xor .u64 (n : Int) (IntKind.u64.wrap (72340172838076673 * (h : Int))))) 9259542123273814144 = ((hashW n h : Nat) : Int) := by
  have e : (72340172838076673 * (h : Int)) = ((72340172838076673 * h : Nat) : Int) := by omega
  have hx : n ^^^ (72340172838076673 * h % 18446744073709551616) < 18446744073709551616 := Nat.xor_lt_two_pow (n := 64) (by omega) (Nat.mod_lt _ (by decide))
  rw [e, u64_wrap, u64_xor_nat n _ hn (Nat.mod_lt _ (by decide))]
  have e2 : IntKind.u64.wrap (((n ^^^ (72340172838076673 * h % 18446744073709551616) : Nat) : Int) - 72340172838076673) = (((n ^^^ (72340172838076673 * h % 18446744073709551616)) + 18374403900871474943) % 18446744073709551616 : Nat) := by
    rw [IntKind.wrap_u64]; omega
  rw [e2, u64_andNot_nat _ _ (Nat.mod_lt _ (by decide)) hx, and_msb _ (Nat.lt_of_le_of_lt Nat.and_le_left (Nat.mod_lt _ (by decide)))]
  rfl
set_option maxHeartbeats 400000 in
theorem hash_any (n h : Nat) (hn : n < 18446744073709551616) (_hh : h < 18446744073709551616) (w : World) :
    Calls Tryd.prog 5 #[.int .u64 n, .int .u64 h] w fun e w' => e = .returned (.int .u64 (hashW n h)) ∧ w = w' := by
  go_enter Tryd.func5, Tryd.ntmps5
  go_wp2
  go_ret
  exact ⟨ret_int (hash_eq n h hn), rfl⟩
theorem low_eq (n : Nat) (hn : n < 18446744073709551616) : (bits .and .u64 (n : Int) 128 != 0) = (n &&& 128 != 0) := by
  rw [show (128 : Int) = ((128 : Nat) : Int) from rfl, u64_and_nat n 128 hn (by decide), bne_cast]
set_option maxHeartbeats 400000 in
theorem low_any (n : Nat) (hn : n < 18446744073709551616) (w : World) :
    Calls Tryd.prog 10 #[.int .u64 n] w fun e w' => e = .returned (.bool (n &&& 128 != 0)) ∧ w = w' := by
  go_enter Tryd.func10, Tryd.ntmps10
  go_wp2
  go_ret
  exact ⟨ret_bool (low_eq n hn), rfl⟩
set_option maxHeartbeats 400000 in
theorem down_any (n : Nat) (_hn : n < 18446744073709551616) (w : World) :
    Calls Tryd.prog 11 #[.int .u64 n] w fun e w' => e = .returned (.int .u64 (n / 256 : Nat)) ∧ w = w' := by
  go_enter Tryd.func11, Tryd.ntmps11
  go_wp2
  go_ret
  exact ⟨ret_int (by omega), rfl⟩
/-- The parallel sum, statement by statement. -/
def popA (x : Nat) : Nat := ((x / 2 &&& 6148914691236517205) + (x &&& 6148914691236517205)) % 18446744073709551616
def popB (a : Nat) : Nat := ((a / 4 &&& 3689348814741910323) + (a &&& 3689348814741910323)) % 18446744073709551616
def popC (b : Nat) : Nat := (b / 16 + b) % 18446744073709551616 &&& 1085102592571150095
def popD (c : Nat) : Nat := (c + c / 256) % 18446744073709551616
def popE (d : Nat) : Nat := (d + d / 65536) % 18446744073709551616
def popF (e : Nat) : Nat := (e + e / 4294967296) % 18446744073709551616
theorem popW_parts (x : Nat) : popW x = popF (popE (popD (popC (popB (popA x))))) % 128 := rfl
theorem popA_eq (x : Nat) (h : x < 18446744073709551616) : IntKind.u64.wrap (bits .and .u64 ((x : Int) / 2) 6148914691236517205 + bits .and .u64 (x : Int) 6148914691236517205) = ((popA x : Nat) : Int) := by
  rw [show (6148914691236517205 : Int) = ((6148914691236517205 : Nat) : Int) from rfl, show (x : Int) / 2 = ((x / 2 : Nat) : Int) from by omega, u64_and_nat _ _ (by omega) (by decide), u64_and_nat _ _ h (by decide), ← Int.natCast_add, u64_wrap]
  rfl
theorem popB_eq (x : Nat) (h : x < 18446744073709551616) : IntKind.u64.wrap (bits .and .u64 ((x : Int) / 4) 3689348814741910323 + bits .and .u64 (x : Int) 3689348814741910323) = ((popB x : Nat) : Int) := by
  rw [show (3689348814741910323 : Int) = ((3689348814741910323 : Nat) : Int) from rfl, show (x : Int) / 4 = ((x / 4 : Nat) : Int) from by omega, u64_and_nat _ _ (by omega) (by decide), u64_and_nat _ _ h (by decide), ← Int.natCast_add, u64_wrap]
  rfl
theorem popC_eq (x : Nat) : bits .and .u64 (IntKind.u64.wrap ((x : Int) / 16 + (x : Int))) 1085102592571150095 = ((popC x : Nat) : Int) := by
  rw [show (1085102592571150095 : Int) = ((1085102592571150095 : Nat) : Int) from rfl, show (x : Int) / 16 + (x : Int) = ((x / 16 + x : Nat) : Int) from by omega, u64_wrap, u64_and_nat _ _ (Nat.mod_lt _ (by decide)) (by decide)]
  rfl
theorem popD_eq (x : Nat) : IntKind.u64.wrap ((x : Int) + (x : Int) / 256) = ((popD x : Nat) : Int) := by
  rw [show (x : Int) + (x : Int) / 256 = ((x + x / 256 : Nat) : Int) from by omega, u64_wrap]; rfl
theorem popE_eq (x : Nat) : IntKind.u64.wrap ((x : Int) + (x : Int) / 65536) = ((popE x : Nat) : Int) := by
  rw [show (x : Int) + (x : Int) / 65536 = ((x + x / 65536 : Nat) : Int) from by omega, u64_wrap]; rfl
theorem popF_eq (x : Nat) : IntKind.u64.wrap ((x : Int) + (x : Int) / 4294967296) = ((popF x : Nat) : Int) := by
  rw [show (x : Int) + (x : Int) / 4294967296 = ((x + x / 4294967296 : Nat) : Int) from by omega, u64_wrap]; rfl
theorem last_eq (f : Nat) (h : f < 18446744073709551616) : bits .and .i64 (wrap64 (f : Int)) 127 = ((f % 128 : Nat) : Int) := by
  show IntKind.i64.wrap ((BitVec.ofInt 64 (wrap64 (f : Int)) &&& BitVec.ofInt 64 127).toNat : Int) = _
  have e : (BitVec.ofInt 64 (wrap64 (f : Int))).toNat = f := by
    rw [BitVec.toNat_ofInt]; unfold wrap64; omega
  rw [BitVec.toNat_and, e, show (BitVec.ofInt 64 127).toNat = 2 ^ 7 - 1 from rfl, Nat.and_two_pow_sub_one_eq_mod]
  rw [IntKind.wrap_i64]
  omega
set_option maxHeartbeats 800000 in
theorem ones_any (n : Nat) (hn : n < 18446744073709551616) (w : World) :
    Calls Tryd.prog 34 #[.int .u64 n] w fun e w' => e = .returned (.int .i64 (popW n)) ∧ w = w' := by
  rw [popW_parts]
  go_enter Tryd.func34, Tryd.ntmps34
  go_upto_region 1 with fail
  go_cut [0] (fun v wx => v = .int .u64 (popA n : Nat) ∧ w = wx)
  case first =>
    go_wp2_with fail
    go_meet
    exact ⟨by rw [popA_eq n hn], rfl⟩
  case rest =>
    obtain ⟨rfl, rfl⟩ := hcut
    have hb : popA n < 18446744073709551616 := Nat.mod_lt _ (by decide)
    obtain ⟨a, ha⟩ : ∃ a, popA n = a := ⟨_, rfl⟩
    rw [ha] at hb ⊢
    have Ha := Lib.hid ha
    clear ha
    go_upto_region 2 with fail
    go_cut [0] (fun v wx => v = .int .u64 (popB a : Nat) ∧ w = wx)
    case first =>
      go_wp2_with fail
      go_meet
      exact ⟨by rw [popB_eq a hb], rfl⟩
    case rest =>
      obtain ⟨rfl, rfl⟩ := hcut
      obtain ⟨b, hb⟩ : ∃ b, popB a = b := ⟨_, rfl⟩
      rw [hb]
      have Hb := Lib.hid hb
      clear hb
      go_upto_region 3 with fail
      go_cut [0] (fun v wx => v = .int .u64 (popC b : Nat) ∧ w = wx)
      case first =>
        go_wp2_with fail
        go_meet
        exact ⟨by rw [popC_eq b], rfl⟩
      case rest =>
        obtain ⟨rfl, rfl⟩ := hcut
        obtain ⟨c, hc⟩ : ∃ c, popC b = c := ⟨_, rfl⟩
        rw [hc]
        have Hc := Lib.hid hc
        clear hc
        go_upto_region 4 with fail
        go_cut [0] (fun v wx => v = .int .u64 (popD c : Nat) ∧ w = wx)
        case first =>
          go_wp2_with fail
          go_meet
          exact ⟨by rw [popD_eq c], rfl⟩
        case rest =>
          obtain ⟨rfl, rfl⟩ := hcut
          obtain ⟨d, hd⟩ : ∃ d, popD c = d := ⟨_, rfl⟩
          rw [hd]
          have Hd := Lib.hid hd
          clear hd
          go_upto_region 5 with fail
          go_cut [0] (fun v wx => v = .int .u64 (popE d : Nat) ∧ w = wx)
          case first =>
            go_wp2_with fail
            go_meet
            exact ⟨by rw [popE_eq d], rfl⟩
          case rest =>
            obtain ⟨rfl, rfl⟩ := hcut
            obtain ⟨e, he⟩ : ∃ e, popE d = e := ⟨_, rfl⟩
            rw [he]
            have He := Lib.hid he
            clear he
            go_upto_region 6 with fail
            go_cut [0] (fun v wx => v = .int .u64 (popF e : Nat) ∧ w = wx)
            case first =>
              go_wp2_with fail
              go_meet
              exact ⟨by rw [popF_eq e], rfl⟩
            case rest =>
              obtain ⟨rfl, rfl⟩ := hcut
              have hy : popF e < 18446744073709551616 := Nat.mod_lt _ (by decide)
              obtain ⟨f, hf⟩ : ∃ f, popF e = f := ⟨_, rfl⟩
              rw [hf] at hy ⊢
              have Hf := Lib.hid hf
              clear hf
              go_wp2
              go_ret
              exact ⟨ret_int (by rw [last_eq f hy, Ha.out, Hb.out, Hc.out, Hd.out, He.out, Hf.out]), rfl⟩
set_option maxHeartbeats 400000 in
theorem count_any (n : Nat) (hn : n < 18446744073709551616) (w : World) :
    Calls Tryd.prog 16 #[.int .u64 n] w fun e w' => e = .returned (.int .i64 (popW n)) ∧ w = w' := by
  go_enter Tryd.func16, Tryd.ntmps16
  go_wp2_with (first | (go_at_call 34; refine (ones_any n hn _).mono ?_; rintro e w' ⟨rfl, rfl⟩) | go_in)
  go_ret
  exact ⟨rfl, rfl⟩
end Go.Proofs.YtejgndndjbdlaabDoor
