/- Whether a float is finite; its conditions: its bits are below 2^64. -/
import Derived.Test.YtdjjgnplpjoabaaGreatDoorW31
namespace Go.Proofs.YtdjjgnplpjoabaaGreatDoor
open Go.RowKit

theorem read_fin (v : Nat) (h : v % 2 ^ 63 < 2047 * 2 ^ 52) : ∃ m p, Ieee.double.read v = .number (v / 2 ^ 63 % 2 == 1) m p ∧ m < 2 ^ 53 ∧ p ≤ 971 := by
  have e1 : Ieee.double.signWeight = 2 ^ 63 := rfl
  have e2 : Ieee.double.binade = 2 ^ 52 := rfl
  have e3 : Ieee.double.infRung = 2047 * 2 ^ 52 := by decide +kernel
  have e4 : Ieee.double.leastPlace = -1074 := by decide +kernel
  unfold Ieee.Format.read
  simp only [e1, e2, e3, e4]
  by_cases h1 : v % 2 ^ 63 < 2 ^ 52
  · rw [if_pos h1]
    exact ⟨_, _, rfl, by omega, by omega⟩
  · rw [if_neg h1, if_pos h]
    exact ⟨_, _, rfl, by omega, by omega⟩

theorem read_inf (v : Nat) (h : v % 2 ^ 63 = 2047 * 2 ^ 52) : Ieee.double.read v = .infinity (v / 2 ^ 63 % 2 == 1) := by
  have e1 : Ieee.double.signWeight = 2 ^ 63 := rfl
  have e2 : Ieee.double.binade = 2 ^ 52 := rfl
  have e3 : Ieee.double.infRung = 2047 * 2 ^ 52 := by decide +kernel
  unfold Ieee.Format.read
  simp only [e1, e2, e3]
  rw [if_neg (by omega), if_neg (by omega), if_pos h]

theorem read_nan (v : Nat) (h : 2047 * 2 ^ 52 < v % 2 ^ 63) : ∃ t, Ieee.double.read v = .nan (v / 2 ^ 63 % 2 == 1) t := by
  have e1 : Ieee.double.signWeight = 2 ^ 63 := rfl
  have e2 : Ieee.double.binade = 2 ^ 52 := rfl
  have e3 : Ieee.double.infRung = 2047 * 2 ^ 52 := by decide +kernel
  unfold Ieee.Format.read
  simp only [e1, e2, e3]
  rw [if_neg (by omega), if_neg (by omega), if_neg (by omega)]
  exact ⟨_, rfl⟩

theorem read_max : Ieee.double.read 9218868437227405311 = .number false (2 ^ 53 - 1) 971 := by decide +kernel

theorem cmp_self (a : Int) : compare a a = .eq := by
  simp [compare, compareOfLessAndEq]

theorem order_self (v : Nat) (h : v % 2 ^ 63 ≤ 2047 * 2 ^ 52) : (FloatKind.f64.format.order v v != some .eq) = false := by
  have e : FloatKind.f64.format.order v v = some .eq := by
    show (Ieee.double.read v).order (Ieee.double.read v) = some .eq
    rcases Nat.lt_or_ge (v % 2 ^ 63) (2047 * 2 ^ 52) with h1 | h1
    · obtain ⟨m, p, hr, -, -⟩ := read_fin v h1
      rw [hr]
      simp [Ieee.Datum.order]
    · rw [read_inf v (by omega)]
      cases (v / 2 ^ 63 % 2 == 1) <;> rfl
  rw [e]; rfl

theorem order_nan (v : Nat) (h : 2047 * 2 ^ 52 < v % 2 ^ 63) : (FloatKind.f64.format.order v v != some .eq) = true := by
  have e : FloatKind.f64.format.order v v = none := by
    show (Ieee.double.read v).order (Ieee.double.read v) = none
    obtain ⟨t, hr⟩ := read_nan v h
    rw [hr]; rfl
  rw [e]; rfl

theorem order_max (v : Nat) (h : v < 2047 * 2 ^ 52) : (FloatKind.f64.format.order v 9218868437227405311 == some .gt) = false := by
  have e : FloatKind.f64.format.order v 9218868437227405311 = (Ieee.double.read v).order (Ieee.double.read 9218868437227405311) := rfl
  obtain ⟨m, p, hr, hm, hp⟩ := read_fin v (by omega)
  have hs : (v / 2 ^ 63 % 2 == 1) = false := by
    rw [Nat.div_eq_of_lt (by omega)]; rfl
  rw [e, hr, read_max, hs]
  simp only [Ieee.Datum.order, Ieee.signed]
  have e1 : min p 971 = p := by omega
  rw [e1, Int.sub_self]
  have e2 : m <<< (0 : Int).toNat = m := rfl
  have e3 : m ≤ (2 ^ 53 - 1) <<< (971 - p).toNat := by
    rw [Nat.shiftLeft_eq]
    have := Nat.one_le_two_pow (n := (971 - p).toNat)
    have := Nat.mul_le_mul_left (2 ^ 53 - 1) this
    omega
  rw [e2]
  have e4 : compare (m : Int) (((2 ^ 53 - 1) <<< (971 - p).toNat : Nat) : Int) ≠ .gt := by
    intro hgt
    simp only [compare, compareOfLessAndEq] at hgt
    split at hgt
    · cases hgt
    · split at hgt
      · cases hgt
      · omega
  simpa using e4

theorem order_inf : (FloatKind.f64.format.order 9218868437227405312 9218868437227405311 == some .gt) = true := by decide +kernel

theorem andnot_top (v : Nat) (h : v < 2 ^ 64) : bits .andNot .u64 (v : Int) 9223372036854775808 = ((v % 2 ^ 63 : Nat) : Int) := by
  show IntKind.u64.wrap ((BitVec.ofInt 64 (v : Int) &&& ~~~ BitVec.ofInt 64 9223372036854775808).toNat : Int) = _
  have e : ~~~ BitVec.ofInt 64 9223372036854775808 = BitVec.ofNat 64 (2 ^ 63 - 1) := by decide
  rw [e, ofInt_nat, BitVec.toNat_and, BitVec.toNat_ofNat, BitVec.toNat_ofNat, Nat.mod_eq_of_lt h, Nat.mod_eq_of_lt (by decide), Nat.and_two_pow_sub_one_eq_mod]
  exact wrap_u64_nat _ (by omega)

theorem run_abs (v : Nat) (h : v < 2 ^ 64) (w : World) : (callFunc 16 #[.int .u64 (bits .andNot .u64 (v : Int) 9223372036854775808)]).run Tryz.prog w = .ok (.value (.float .f64 (v % 2 ^ 63))) w := by
  rw [andnot_top v h]
  exact run_bits16 _ w

set_option maxRecDepth 100000 in
set_option maxHeartbeats 400000 in
theorem abs_of (v : Nat) (h : v < 2 ^ 64) (w : World) : Calls Tryz.prog 12 #[.float .f64 v] w fun e w' => e = .returned (.float .f64 (v % 2 ^ 63)) ∧ w = w' := by
  have h7 := run_bits7
  have h16 := fun w => run_abs v h w
  clear h
  go_enter Tryz.func12, Tryz.ntmps12
  go_wp2_with fail
  go_ret
  exact ⟨rfl, rfl⟩

set_option maxRecDepth 100000 in
set_option maxHeartbeats 400000 in
theorem isNaN_of (v : Nat) (r : Bool) (hr : (FloatKind.f64.format.order v v != some .eq) = r) (w : World) : Calls Tryz.prog 8 #[.float .f64 v] w fun e w' => e = .returned (.bool r) ∧ w = w' := by
  subst hr
  go_enter Tryz.func8, Tryz.ntmps8
  go_wp2_with fail
  go_ret
  exact ⟨rfl, rfl⟩

set_option maxRecDepth 100000 in
set_option maxHeartbeats 400000 in
theorem isInf_of (v m : Nat) (r : Bool) (h : v < 2 ^ 64) (hm : Hid (v % 2 ^ 63 = m)) (hr : Hid ((FloatKind.f64.format.order m 9218868437227405311 == some .gt) = r)) (w : World) : Calls Tryz.prog 9 #[.float .f64 v, .int .i64 0] w fun e w' => e = .returned (.bool r) ∧ w = w' := by
  have ha := abs_of v h
  rw [hm.out] at ha
  have HA := Lib.hid ha
  clear ha h
  go_enter Tryz.func9, Tryz.ntmps9
  go_wp2_with (go_at_call 12; go_must (refine (HA.out _).mono ?_); rintro e w' ⟨rfl, rfl⟩)
  go_ret
  exact ⟨by rw [← hr.out]; rfl, rfl⟩

set_option maxRecDepth 100000 in
set_option maxHeartbeats 400000 in
theorem finite_yes (v : Nat) (h : v < 2 ^ 64) (hf : v % 2 ^ 63 < 2047 * 2 ^ 52) (w : World) : Calls Tryz.prog 4 #[.float .f64 v] w fun e w' => e = .returned (.bool true) ∧ w = w' := by
  have h8 := Lib.hid (isNaN_of v false (order_self v (by omega)))
  have h9 := Lib.hid (isInf_of v (v % 2 ^ 63) false h rfl (order_max _ hf))
  clear h hf
  go_enter Tryz.func4, Tryz.ntmps4
  go_wp2_with (first | (go_at_call 8; go_must (refine (h8.out _).mono ?_); rintro e w' ⟨rfl, rfl⟩) | (go_at_call 9; go_must (refine (h9.out _).mono ?_); rintro e w' ⟨rfl, rfl⟩))
  go_ret
  exact ⟨rfl, rfl⟩

set_option maxRecDepth 100000 in
set_option maxHeartbeats 400000 in
theorem finite_no (v : Nat) (h : v < 2 ^ 64) (hf : ¬ v % 2 ^ 63 < 2047 * 2 ^ 52) (w : World) : Calls Tryz.prog 4 #[.float .f64 v] w fun e w' => e = .returned (.bool false) ∧ w = w' := by
  rcases Nat.lt_or_ge (2047 * 2 ^ 52) (v % 2 ^ 63) with h1 | h1
  · have h8 := Lib.hid (isNaN_of v true (order_nan v h1))
    clear h hf h1
    go_enter Tryz.func4, Tryz.ntmps4
    go_wp2_with (go_at_call 8; go_must (refine (h8.out _).mono ?_); rintro e w' ⟨rfl, rfl⟩)
    go_ret
    exact ⟨rfl, rfl⟩
  · have h8 := Lib.hid (isNaN_of v false (order_self v h1))
    have h9 := Lib.hid (isInf_of v 9218868437227405312 true h (show v % 2 ^ 63 = 9218868437227405312 by omega) order_inf)
    clear h hf h1
    go_enter Tryz.func4, Tryz.ntmps4
    go_wp2_with (first | (go_at_call 8; go_must (refine (h8.out _).mono ?_); rintro e w' ⟨rfl, rfl⟩) | (go_at_call 9; go_must (refine (h9.out _).mono ?_); rintro e w' ⟨rfl, rfl⟩))
    go_ret
    exact ⟨rfl, rfl⟩

end Go.Proofs.YtdjjgnplpjoabaaGreatDoor
