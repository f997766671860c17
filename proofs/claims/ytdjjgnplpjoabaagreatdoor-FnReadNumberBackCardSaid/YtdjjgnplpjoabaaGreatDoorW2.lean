/- The scaling by a table of powers of ten computes its plain form 'usc', and the constants are laid out of the table; their conditions: the table's entry lies where the variable is, and the shift is below 64. -/
import Derived.Test.YtdjjgnplpjoabaaGreatDoorW1
import Derived.Test.YtdjjgnplpjoabaaGreatDoorUsc
import Derived.Deep.QuietTactic
import Derived.BigQuiet
namespace Go.Proofs.YtdjjgnplpjoabaaGreatDoor
open Go.RowKit

def mulHi (x y : Nat) : Nat := x * y / 2 ^ 64
def mulLo (x y : Nat) : Nat := x * y % 2 ^ 64

theorem mul64_any (x y : Nat) (hx : x ≤ 18446744073709551615) (hy : y ≤ 18446744073709551615) (w : World) :
    Calls Tryz.prog 102 #[.int .u64 x, .int .u64 y] w fun e w' => e = .returned (.tuple #[.int .u64 (mulHi x y), .int .u64 (mulLo x y)]) ∧ w = w' :=
  (Tryz.bits_Mul64 x y (by omega) (by omega) w).mono fun _ _ h => ⟨by rw [h.1]; rfl, h.2.symm⟩

theorem shift_test (H s : Nat) (hH : H < 18446744073709551616) : (IntKind.u64.wrap ((H : Int) / 2 ^ s * 2 ^ s) != (H : Int)) = !decide (H / 2 ^ s * 2 ^ s = H) := by
  have e : (H : Int) / 2 ^ s * 2 ^ s = ((H / 2 ^ s * 2 ^ s : Nat) : Int) := by norm_cast
  have h : H / 2 ^ s * 2 ^ s ≤ H := Nat.div_mul_le_self _ _
  rw [e, wrap_u64_nat _ (by omega)]
  rw [Bool.eq_iff_iff]
  simp only [bne_iff_ne, ne_eq, Bool.not_eq_true', decide_eq_false_iff_not]
  omega

theorem and_63 (s : Nat) (hs : s ≤ 63) : bits .and .i64 (s : Int) 63 = (s : Int) := by
  have := and_low_i64 s 6 (by omega) (by omega)
  rw [show ((2 ^ 6 - 1 : Nat) : Int) = 63 from rfl] at this
  rw [this]; congr 1; exact Nat.mod_eq_of_lt (by omega)

theorem div_pow_nat (H s : Nat) : (H : Int) / 2 ^ s = ((H / 2 ^ s : Nat) : Int) := by norm_cast

theorem div_pow_lt (H s : Nat) (h : H < 18446744073709551616) : H / 2 ^ s < 2 ^ 64 := Nat.lt_of_le_of_lt (Nat.div_le_self _ _) h

theorem mids (L M : Nat) (hL : L < 2 ^ 64) (hM : M < 2 ^ 64) : decide (1 < IntKind.u64.wrap ((L : Int) - M)) = decide (1 < (L + 2 ^ 64 - M) % 2 ^ 64) := by
  have : IntKind.u64.wrap ((L : Int) - M) = (((L + 2 ^ 64 - M) % 2 ^ 64 : Nat) : Int) := by
    simp only [IntKind.wrap, IntKind.bits, IntKind.signed]
    simp
    omega
  rw [this]
  congr 1
  apply propext
  omega

set_option maxHeartbeats 1000000 in
theorem uscale_sticky (x hi s : Nat) (b : Nat) (w : World) (hx : x ≤ 18446744073709551615) (hh : hi ≤ 18446744073709551615) (hs : s ≤ 63)
    (tst : (IntKind.u64.wrap ((mulHi x hi : Int) / 2 ^ s * 2 ^ s) != (mulHi x hi : Int)) = true)
    (c0 : w.cell? ⟨b, 0, none⟩ = some (.int .u64 hi)) (c2 : w.cell? ⟨b, 2, none⟩ = some (.int .i64 s)) :
    Calls Tryz.prog 69 #[.int .u64 x, .pointer (some ⟨b, 0, none⟩)] w fun e w' => e = .returned (.int .u64 (bits .or .u64 ((mulHi x hi : Int) / 2 ^ s) 1)) ∧ w = w' := by
  have hb := and_63 s hs
  go_enter Tryz.func69, Tryz.ntmps69
  go_wp2_with (go_at_call 102; (with_reducible refine (mul64_any _ _ (by assumption) (by assumption) _).mono ?_); rintro e w' ⟨rfl, rfl⟩)
  go_ret
  exact ⟨rfl, rfl⟩

set_option maxRecDepth 100000 in
set_option maxHeartbeats 1000000 in
theorem uscale_whole (x hi lo s : Nat) (b : Nat) (w : World) (hx : x ≤ 18446744073709551615) (hh : hi ≤ 18446744073709551615) (hl : lo ≤ 18446744073709551615) (hs : s ≤ 63)
    (tst : (IntKind.u64.wrap ((mulHi x hi : Int) / 2 ^ s * 2 ^ s) != (mulHi x hi : Int)) = false)
    (c0 : w.cell? ⟨b, 0, none⟩ = some (.int .u64 hi)) (c1 : w.cell? ⟨b, 1, none⟩ = some (.int .u64 lo)) (c2 : w.cell? ⟨b, 2, none⟩ = some (.int .i64 s)) :
    Calls Tryz.prog 69 #[.int .u64 x, .pointer (some ⟨b, 0, none⟩)] w fun e w' => e = .returned (.int .u64 (bits .or .u64 (IntKind.u64.wrap ((mulHi x hi : Int) - b2i (decide (mulLo x hi < mulHi x lo))) / 2 ^ s) (b2i (decide (1 < IntKind.u64.wrap ((mulLo x hi : Int) - mulHi x lo)))))) ∧ ∃ n, w' = w.drewN n := by
  have hb := and_63 s hs
  go_enter Tryz.func69, Tryz.ntmps69
  go_wp2_with (first | (go_at_call 102; (with_reducible refine (mul64_any _ _ (by assumption) (by assumption) _).mono ?_); rintro e w' ⟨rfl, rfl⟩) | (go_at_call 103; (with_reducible refine (bool2_u64 _ _).mono ?_); rintro e w' ⟨rfl, rfl⟩))
  go_quiet ((go_at_call 103; exact Calls.quiet_of_same ((bool2_u64 _ _).mono fun _ _ h => ⟨h.1, h.2.symm⟩)))
  go_wp2
  go_ret
  exact ⟨rfl, _, rfl⟩

theorem mulHi_lt (x y : Nat) (hx : x ≤ 18446744073709551615) (hy : y ≤ 18446744073709551615) : mulHi x y < 2 ^ 64 := by
  unfold mulHi
  rw [Nat.div_lt_iff_lt_mul (by decide)]
  exact Nat.mul_lt_mul'' (by omega) (by omega)
theorem mulLo_lt (x y : Nat) : mulLo x y < 2 ^ 64 := Nat.mod_lt _ (by decide)

theorem wrap_sub_b2i (H : Nat) (c : Bool) (h : H < 2 ^ 64) (h1 : 1 ≤ H) : IntKind.u64.wrap ((H : Int) - b2i c) = ((H - (if c then 1 else 0) : Nat) : Int) := by
  cases c
  · simp [b2i]; exact IntWalk.u64_in _ (by omega)
  · simp [b2i]; rw [IntWalk.u64_in _ (by omega)]; omega

/-- THE SCALING: its plain form; the world is as it was but for draws. -/
theorem uscale_any (x hi lo s : Nat) (b : Nat) (w : World) (hx : x ≤ 18446744073709551615) (hh : hi ≤ 18446744073709551615) (hl : lo ≤ 18446744073709551615) (hs : s ≤ 63) (h1 : 1 ≤ mulHi x hi)
    (c0 : w.cell? ⟨b, 0, none⟩ = some (.int .u64 hi)) (c1 : w.cell? ⟨b, 1, none⟩ = some (.int .u64 lo)) (c2 : w.cell? ⟨b, 2, none⟩ = some (.int .i64 s)) :
    Calls Tryz.prog 69 #[.int .u64 x, .pointer (some ⟨b, 0, none⟩)] w fun e w' => e = .returned (.int .u64 (FB.usc x hi lo s)) ∧ ∃ n, w' = w.drewN n := by
  have H64 := mulHi_lt x hi hx hh
  have M64 := mulHi_lt x lo hx hl
  have L64 := mulLo_lt x hi
  have tst := shift_test (mulHi x hi) s (by omega)
  by_cases ht : mulHi x hi / 2 ^ s * 2 ^ s = mulHi x hi
  · rw [decide_eq_true ht, Bool.not_true] at tst
    refine (uscale_whole x hi lo s b w hx hh hl hs tst c0 c1 c2).mono fun e w' ⟨he, hw⟩ => ⟨?_, hw⟩
    rw [he]
    refine ret_int ?_
    unfold FB.usc
    rw [if_neg (by simpa [mulHi] using ht)]
    rw [wrap_sub_b2i _ _ H64 h1, mids _ _ L64 M64, div_pow_nat]
    have e1 : b2i (decide (1 < (mulLo x hi + 2 ^ 64 - mulHi x lo) % 2 ^ 64)) = (((if 1 < (mulLo x hi + 2 ^ 64 - mulHi x lo) % 2 ^ 64 then 1 else 0 : Nat)) : Int) := by
      unfold b2i
      by_cases h : 1 < (mulLo x hi + 2 ^ 64 - mulHi x lo) % 2 ^ 64 <;> simp [h]
    rw [e1, or_u64 _ _ (Nat.lt_of_le_of_lt (Nat.div_le_self _ _) (by split <;> omega)) (by split <;> decide)]
    simp only [decide_eq_true_eq]
    rfl
  · rw [decide_eq_false ht, Bool.not_false] at tst
    refine (uscale_sticky x hi s b w hx hh hs tst c0 c2).mono fun e w' ⟨he, hw⟩ => ⟨?_, 0, hw.symm⟩
    rw [he]
    refine ret_int ?_
    unfold FB.usc
    rw [if_pos (by simpa [mulHi] using ht), div_pow_nat]
    exact or_u64 _ _ (div_pow_lt _ _ (by omega)) (by decide)

end Go.Proofs.YtdjjgnplpjoabaaGreatDoor
