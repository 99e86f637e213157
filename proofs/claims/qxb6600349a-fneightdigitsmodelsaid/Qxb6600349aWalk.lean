import Derived.Test.Qxb6600349aRows
import Derived.Test.Qxb6600349aPlain
import Derived.WalkKit
import Derived.ProofKit
namespace Go.Proofs.Qxb6600349a
open Go.ChangeShapes Go.WideShapes Go.ChangeAt Go.RowKit

theorem byt_int (X k : Nat) : ((X : Int) / 2 ^ (8 * k) % 256) = (Eight.byt X k : Int) := by
  unfold Eight.byt
  rw [show (256 : Nat) ^ k = 2 ^ (8 * k) by rw [Nat.pow_mul]]
  simp

theorem hor_lt (X k : Nat) (hk : k < 8) (h : ∀ i, i < k → Eight.digB X i) : (Eight.hor X k : Int) ≤ 9999999 := by
  have a := Eight.hor_le X k (by omega) h
  have b : 10 ^ k ≤ 10 ^ 7 := Nat.pow_le_pow_right (by decide) (by omega)
  have c : (10 : Nat) ^ 7 = 10000000 := by decide
  omega

theorem hor_step (X k : Nat) (h : Eight.digB X k) : (Eight.hor X k : Int) * 10 + ((X : Int) / 2 ^ (8 * k) % 256 - 48) = (Eight.hor X (k + 1) : Int) := by
  rw [byt_int, Eight.hor]
  have := h.1
  omega

theorem dig_int (X k : Nat) (h : Eight.digB X k) : (48 : Int) ≤ (X : Int) / 2 ^ (8 * k) % 256 ∧ (X : Int) / 2 ^ (8 * k) % 256 ≤ 57 := by
  rw [byt_int]
  have := h.1
  have := h.2
  omega

theorem dig_of (X k : Nat) (h : (48 : Int) ≤ (X : Int) / 2 ^ (8 * k) % 256 ∧ (X : Int) / 2 ^ (8 * k) % 256 ≤ 57) : Eight.digB X k := by
  rw [byt_int] at h
  unfold Eight.digB
  omega

/-! ### the model -/
set_option maxHeartbeats 400000 in
set_option maxRecDepth 100000 in
theorem model_yes (X : Nat) (h : ∀ i, i < 8 → Eight.digB X i) (w : World) :
    Calls Try.prog 11 #[.int .u64 X] w fun e w' => e = .returned (.tuple #[.int .i64 (Eight.hor X 8), .bool true]) ∧ w' = w := by
  go_enter Try.func11, Try.ntmps11
  go_wp2
  go_loop [4, 5] (fun v i => ∃ k : Nat, k ≤ 8 ∧ i = .int .u64 k ∧ v = .int .i64 (Eight.hor X k)) (fun _ i => 8 - (intOf i).toNat)
  case atStart => exact ⟨0, by omega, rfl, rfl⟩
  case round =>
    obtain ⟨k, hk, rfl, rfl⟩ := hrel
    by_cases hlt : k < 8
    · have H : Hid (∀ i, i < 8 → Eight.digB X i) := h
      obtain ⟨hb1, hb2⟩ := dig_int X k (h k hlt)
      have hv := hor_lt X k hlt (fun i hi => h i (by omega))
      clear h
      go_wp2
      go_round
      case rel => exact ⟨k + 1, by omega, by go_num, by rw [hor_step X k (H.out k hlt)]⟩
      case measure => simp [intOf]; omega
    · have hk8 : k = 8 := by omega
      subst hk8
      go_wp2
      go_ret2
      exact ⟨rfl, rfl⟩

set_option maxHeartbeats 400000 in
set_option maxRecDepth 100000 in
theorem model_no (X : Nat) (h : ¬ ∀ i, i < 8 → Eight.digB X i) (w : World) :
    Calls Try.prog 11 #[.int .u64 X] w fun e w' => e = .returned (.tuple #[.int .i64 0, .bool false]) ∧ w' = w := by
  have H : Hid (¬ ∀ i, i < 8 → Eight.digB X i) := h
  clear h
  go_enter Try.func11, Try.ntmps11
  go_wp2
  go_loop [4, 5] (fun v i => ∃ k : Nat, k ≤ 8 ∧ i = .int .u64 k ∧ v = .int .i64 (Eight.hor X k) ∧ ∀ j, j < k → Eight.digB X j) (fun _ i => 8 - (intOf i).toNat)
  case atStart => exact ⟨0, by omega, rfl, rfl, fun j hj => by omega⟩
  case round =>
    obtain ⟨k, hk, rfl, rfl, hall⟩ := hrel
    by_cases hlt : k < 8
    · have hv := hor_lt X k hlt hall
      have HA : Hid (∀ j, j < k → Eight.digB X j) := hall
      clear hall
      by_cases h1 : (X : Int) / 2 ^ (8 * k) % 256 < 48
      · go_wp2
        go_ret2
        exact ⟨rfl, rfl⟩
      · by_cases h2 : 57 < (X : Int) / 2 ^ (8 * k) % 256
        · go_wp2
          go_ret2
          exact ⟨rfl, rfl⟩
        · have hd := dig_of X k ⟨by omega, by omega⟩
          have HD : Hid (Eight.digB X k) := hd
          clear hd
          go_wp2
          go_round
          case rel => exact ⟨k + 1, by omega, by go_num, by rw [hor_step X k HD.out], fun j hj => by
            by_cases e : j = k
            · rw [e]; exact HD.out
            · exact HA.out j (by omega)⟩
          case measure => simp [intOf]; omega
    · exact absurd (fun i hi => hall i (by omega)) H.out

/-! ### the program's own function -/
theorem bits_and_nat (a b : Nat) (ha : a < 18446744073709551616) (hb : b < 18446744073709551616) :
    bits .and .u64 (a : Int) (b : Int) = ((a &&& b : Nat) : Int) := by
  have hx : a &&& b < 2 ^ 64 := Nat.and_lt_two_pow _ (by omega)
  have h1 : (BitVec.ofInt 64 (a : Int)).toNat = a := by
    rw [BitVec.ofInt_natCast, BitVec.toNat_ofNat]; exact Nat.mod_eq_of_lt (by omega)
  have h2 : (BitVec.ofInt 64 (b : Int)).toNat = b := by
    rw [BitVec.ofInt_natCast, BitVec.toNat_ofNat]; exact Nat.mod_eq_of_lt (by omega)
  show IntKind.u64.wrap ((BitVec.ofInt 64 (a : Int) &&& BitVec.ofInt 64 (b : Int)).toNat : Int) = _
  rw [BitVec.toNat_and, h1, h2]
  simp only [IntKind.wrap, IntKind.bits, IntKind.signed]
  simp
  omega

theorem bits_or_nat (a b : Nat) (ha : a < 18446744073709551616) (hb : b < 18446744073709551616) :
    bits .or .u64 (a : Int) (b : Int) = ((a ||| b : Nat) : Int) := by
  have hx : a ||| b < 2 ^ 64 := Nat.or_lt_two_pow (by omega) (by omega)
  have h1 : (BitVec.ofInt 64 (a : Int)).toNat = a := by
    rw [BitVec.ofInt_natCast, BitVec.toNat_ofNat]; exact Nat.mod_eq_of_lt (by omega)
  have h2 : (BitVec.ofInt 64 (b : Int)).toNat = b := by
    rw [BitVec.ofInt_natCast, BitVec.toNat_ofNat]; exact Nat.mod_eq_of_lt (by omega)
  show IntKind.u64.wrap ((BitVec.ofInt 64 (a : Int) ||| BitVec.ofInt 64 (b : Int)).toNat : Int) = _
  rw [BitVec.toNat_or, h1, h2]
  simp only [IntKind.wrap, IntKind.bits, IntKind.signed]
  simp
  omega

theorem wrapu (n : Int) : IntKind.u64.wrap n = n % 18446744073709551616 := by simp [IntKind.wrap, IntKind.bits, IntKind.signed]

def sub48 (x : Int) : Int := IntKind.u64.wrap (x - 3472328296227680304)
def flagI (x : Int) : Int := bits .and .u64 (bits .or .u64 (sub48 x) (IntKind.u64.wrap (sub48 x + 8536140394893047414))) 9259542123273814144
def st1 (d : Int) : Int := bits .and .u64 (IntKind.u64.wrap (IntKind.u64.wrap (d * 10) + d / 256)) 71777214294589695
def st2 (d : Int) : Int := bits .and .u64 (IntKind.u64.wrap (IntKind.u64.wrap (d * 100) + d / 65536)) 281470681808895
def st3 (d : Int) : Int := bits .and .u64 (IntKind.u64.wrap (IntKind.u64.wrap (d * 10000) + d / 4294967296)) 4294967295

set_option maxHeartbeats 400000 in
set_option maxRecDepth 100000 in
theorem eight_run (X : Nat) (w : World) (hf : (bits BinOp.and IntKind.u64
      (bits BinOp.or IntKind.u64 (IntKind.u64.wrap (X - 3472328296227680304))
        (IntKind.u64.wrap (IntKind.u64.wrap (X - 3472328296227680304) + 8536140394893047414))) 9259542123273814144 != 0) = false)  :
    Calls Try.prog 22 #[.int .u64 X] w fun e w' => e = .returned (.tuple #[.int .i64 (wrap64 (st3 (st2 (st1 (sub48 X))))), .bool true]) ∧ w' = w := by
  go_enter Try.func22, Try.ntmps22
  go_wp2
  go_ret2
  exact ⟨rfl, rfl⟩

set_option maxHeartbeats 400000 in
set_option maxRecDepth 100000 in
theorem eight_stop (X : Nat) (w : World) (hf : (bits BinOp.and IntKind.u64
      (bits BinOp.or IntKind.u64 (IntKind.u64.wrap (X - 3472328296227680304))
        (IntKind.u64.wrap (IntKind.u64.wrap (X - 3472328296227680304) + 8536140394893047414))) 9259542123273814144 != 0) = true)  :
    Calls Try.prog 22 #[.int .u64 X] w fun e w' => e = .returned (.tuple #[.int .i64 0, .bool false]) ∧ w' = w := by
  go_enter Try.func22, Try.ntmps22
  go_wp2
  go_ret2
  exact ⟨rfl, rfl⟩

/-! the bridge to natural numbers -/
theorem sub48_nat (X : Nat) : sub48 X = (((X + 14974415777481871312) % 18446744073709551616 : Nat) : Int) := by
  unfold sub48; rw [wrapu]; omega

theorem flag_nat (X : Nat) : flagI X = (((((X + 14974415777481871312) % 18446744073709551616) ||| (((X + 14974415777481871312) % 18446744073709551616 + 8536140394893047414) % 18446744073709551616)) &&& Eight.tops : Nat) : Int) := by
  unfold flagI
  rw [sub48_nat]
  generalize hd : (X + 14974415777481871312) % 18446744073709551616 = d
  have hdl : d < 18446744073709551616 := by omega
  have e : IntKind.u64.wrap ((d : Int) + 8536140394893047414) = (((d + 8536140394893047414) % 18446744073709551616 : Nat) : Int) := by rw [wrapu]; omega
  rw [e, bits_or_nat d _ hdl (by omega)]
  have hor : d ||| (d + 8536140394893047414) % 18446744073709551616 < 18446744073709551616 := Nat.or_lt_two_pow (n := 64) (by omega) (by omega)
  exact bits_and_nat _ 9259542123273814144 hor (by omega)

theorem st1_nat (d : Nat) : st1 (d : Int) = (Eight.step1 d : Int) := by
  unfold st1 Eight.step1 Eight.W
  rw [show IntKind.u64.wrap (IntKind.u64.wrap ((d : Int) * 10) + (d : Int) / 256) = (((d * 10 % 18446744073709551616 + d / 256) % 18446744073709551616 : Nat) : Int) by rw [wrapu, wrapu]; omega]
  exact bits_and_nat _ 71777214294589695 (by omega) (by omega)

theorem st2_nat (d : Nat) : st2 (d : Int) = (Eight.step2 d : Int) := by
  unfold st2 Eight.step2 Eight.W
  rw [show IntKind.u64.wrap (IntKind.u64.wrap ((d : Int) * 100) + (d : Int) / 65536) = (((d * 100 % 18446744073709551616 + d / 65536) % 18446744073709551616 : Nat) : Int) by rw [wrapu, wrapu]; omega]
  exact bits_and_nat _ 281470681808895 (by omega) (by omega)

theorem st3_nat (d : Nat) : st3 (d : Int) = (Eight.step3 d : Int) := by
  unfold st3 Eight.step3 Eight.W
  rw [show IntKind.u64.wrap (IntKind.u64.wrap ((d : Int) * 10000) + (d : Int) / 4294967296) = (((d * 10000 % 18446744073709551616 + d / 4294967296) % 18446744073709551616 : Nat) : Int) by rw [wrapu, wrapu]; omega]
  exact bits_and_nat _ 4294967295 (by omega) (by omega)

theorem flag_iff (X : Nat) (hX : X < 18446744073709551616) : (flagI X != 0) = false ↔ ∀ i, i < 8 → Eight.digB X i := by
  rw [flag_nat, ← Eight.flag X _ _ hX rfl rfl]
  rw [bne_eq_false_iff_eq]
  exact Int.natCast_eq_zero

theorem val_nat (X : Nat) (hX : X < 18446744073709551616) (h : ∀ i, i < 8 → Eight.digB X i) : wrap64 (st3 (st2 (st1 (sub48 X)))) = (Eight.hor X 8 : Int) := by
  rw [sub48_nat, st1_nat, st2_nat, st3_nat, Eight.eight X _ hX rfl h]
  have a := Eight.hor_le X 8 (by omega) h
  have c : (10 : Nat) ^ 8 = 100000000 := by decide
  unfold wrap64
  omega

theorem eight_yes (X : Nat) (hX : X < 18446744073709551616) (h : ∀ i, i < 8 → Eight.digB X i) (w : World) :
    Calls Try.prog 22 #[.int .u64 X] w fun e w' => e = .returned (.tuple #[.int .i64 (Eight.hor X 8), .bool true]) ∧ w' = w := by
  have := eight_run X w ((flag_iff X hX).2 h)
  rw [val_nat X hX h] at this
  exact this

theorem eight_no (X : Nat) (hX : X < 18446744073709551616) (h : ¬ ∀ i, i < 8 → Eight.digB X i) (w : World) :
    Calls Try.prog 22 #[.int .u64 X] w fun e w' => e = .returned (.tuple #[.int .i64 0, .bool false]) ∧ w' = w := by
  refine eight_stop X w ?_
  have a := fun e => h ((flag_iff X hX).1 e)
  exact (Bool.not_eq_false _).mp a

end Go.Proofs.Qxb6600349a
