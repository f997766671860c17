/- Bitwise operations of the model on numbers that are not negative are those on natural numbers; their conditions: both lie below the kind's bound. -/
import Derived.WalkKit
import Derived.IntWalk
namespace Go.Proofs.YtdjjgnplpjoabaaGreatDoor
open Go.RowKit

theorem ofInt_nat (n a : Nat) : BitVec.ofInt n (a : Int) = BitVec.ofNat n a := by
  exact BitVec.ofInt_natCast n a

theorem wrap_u64_nat (a : Nat) (h : a < 2 ^ 64) : IntKind.u64.wrap (a : Int) = a := IntWalk.u64_in _ (by omega)

theorem wrap_i64_nat (a : Nat) (h : a < 2 ^ 63) : IntKind.i64.wrap (a : Int) = a := IntWalk.i64_in _ (by omega)

theorem wrap_i32_nat (a : Nat) (h : a < 2 ^ 31) : IntKind.i32.wrap (a : Int) = a := IntWalk.i32_in _ (by omega)

theorem and_u64 (a b : Nat) (ha : a < 2 ^ 64) (hb : b < 2 ^ 64) : bits .and .u64 (a : Int) (b : Int) = ((a &&& b : Nat) : Int) := by
  have h : a &&& b < 2 ^ 64 := Nat.lt_of_le_of_lt Nat.and_le_left ha
  show IntKind.u64.wrap ((BitVec.ofInt 64 (a : Int) &&& BitVec.ofInt 64 (b : Int)).toNat : Int) = _
  rw [ofInt_nat, ofInt_nat, BitVec.toNat_and, BitVec.toNat_ofNat, BitVec.toNat_ofNat, Nat.mod_eq_of_lt ha, Nat.mod_eq_of_lt hb]
  exact wrap_u64_nat _ h

theorem or_u64 (a b : Nat) (ha : a < 2 ^ 64) (hb : b < 2 ^ 64) : bits .or .u64 (a : Int) (b : Int) = ((a ||| b : Nat) : Int) := by
  have h : a ||| b < 2 ^ 64 := Nat.or_lt_two_pow ha hb
  show IntKind.u64.wrap ((BitVec.ofInt 64 (a : Int) ||| BitVec.ofInt 64 (b : Int)).toNat : Int) = _
  rw [ofInt_nat, ofInt_nat, BitVec.toNat_or, BitVec.toNat_ofNat, BitVec.toNat_ofNat, Nat.mod_eq_of_lt ha, Nat.mod_eq_of_lt hb]
  exact wrap_u64_nat _ h

theorem and_i64 (a b : Nat) (ha : a < 2 ^ 63) (hb : b < 2 ^ 63) : bits .and .i64 (a : Int) (b : Int) = ((a &&& b : Nat) : Int) := by
  have h : a &&& b < 2 ^ 63 := Nat.lt_of_le_of_lt Nat.and_le_left ha
  show IntKind.i64.wrap ((BitVec.ofInt 64 (a : Int) &&& BitVec.ofInt 64 (b : Int)).toNat : Int) = _
  rw [ofInt_nat, ofInt_nat, BitVec.toNat_and, BitVec.toNat_ofNat, BitVec.toNat_ofNat, Nat.mod_eq_of_lt (by omega), Nat.mod_eq_of_lt (by omega)]
  exact wrap_i64_nat _ h

theorem or_i64 (a b : Nat) (ha : a < 2 ^ 63) (hb : b < 2 ^ 63) : bits .or .i64 (a : Int) (b : Int) = ((a ||| b : Nat) : Int) := by
  have h : a ||| b < 2 ^ 63 := Nat.or_lt_two_pow ha hb
  show IntKind.i64.wrap ((BitVec.ofInt 64 (a : Int) ||| BitVec.ofInt 64 (b : Int)).toNat : Int) = _
  rw [ofInt_nat, ofInt_nat, BitVec.toNat_or, BitVec.toNat_ofNat, BitVec.toNat_ofNat, Nat.mod_eq_of_lt (by omega), Nat.mod_eq_of_lt (by omega)]
  exact wrap_i64_nat _ h

theorem or_i32 (a b : Nat) (ha : a < 2 ^ 31) (hb : b < 2 ^ 31) : bits .or .i32 (a : Int) (b : Int) = ((a ||| b : Nat) : Int) := by
  have h : a ||| b < 2 ^ 31 := Nat.or_lt_two_pow ha hb
  show IntKind.i32.wrap ((BitVec.ofInt 32 (a : Int) ||| BitVec.ofInt 32 (b : Int)).toNat : Int) = _
  rw [ofInt_nat, ofInt_nat, BitVec.toNat_or, BitVec.toNat_ofNat, BitVec.toNat_ofNat, Nat.mod_eq_of_lt (by omega), Nat.mod_eq_of_lt (by omega)]
  exact wrap_i32_nat _ h

/-- The lowest bits. -/
theorem and_low_u64 (a k : Nat) (ha : a < 2 ^ 64) (hk : k ≤ 63) : bits .and .u64 (a : Int) ((2 ^ k - 1 : Nat) : Int) = ((a % 2 ^ k : Nat) : Int) := by
  have : 2 ^ k ≤ 2 ^ 63 := Nat.pow_le_pow_right (by decide) hk
  rw [and_u64 a _ ha (by omega), Nat.and_two_pow_sub_one_eq_mod]

theorem and_low_i64 (a k : Nat) (ha : a < 2 ^ 63) (hk : k ≤ 62) : bits .and .i64 (a : Int) ((2 ^ k - 1 : Nat) : Int) = ((a % 2 ^ k : Nat) : Int) := by
  have : 2 ^ k ≤ 2 ^ 62 := Nat.pow_le_pow_right (by decide) hk
  rw [and_i64 a _ ha (by omega), Nat.and_two_pow_sub_one_eq_mod]

theorem and_one_u64 (x : Int) (h0 : 0 ≤ x) (h : x < 18446744073709551616) : bits .and .u64 x 1 = x % 2 := by
  obtain ⟨a, rfl⟩ := Int.eq_ofNat_of_zero_le h0
  have := and_low_u64 a 1 (by omega) (by omega)
  exact this

theorem and_one_i64 (x : Int) (h0 : 0 ≤ x) (h : x < 9223372036854775808) : bits .and .i64 x 1 = x % 2 := by
  obtain ⟨a, rfl⟩ := Int.eq_ofNat_of_zero_le h0
  have := and_low_i64 a 1 (by omega) (by omega)
  exact this

end Go.Proofs.YtdjjgnplpjoabaaGreatDoor
