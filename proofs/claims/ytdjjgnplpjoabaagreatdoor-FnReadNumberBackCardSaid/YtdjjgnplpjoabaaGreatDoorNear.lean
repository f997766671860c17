/- The decimal that the shortest printing chooses lies between the midpoints to the float's neighbours (on them only where the float is even); its conditions: the float is finite and not zero. -/
import Derived.Test.YtdjjgnplpjoabaaGreatDoorPrint
set_option maxRecDepth 10000
namespace Go.Proofs.YtdjjgnplpjoabaaGreatDoor.FB

theorem zpow_split (b : Rat) (hb : b ≠ 0) (k : Int) : b ^ k.toNat = b ^ (-k).toNat * b ^ k := by
  rw [← Rat.zpow_natCast, ← Rat.zpow_natCast, ← Rat.zpow_add hb]
  congr 1
  omega

theorem rle {a b c : Rat} (hc : 0 < c) : a * c ≤ b * c ↔ a ≤ b :=
  ⟨fun h => Rat.le_of_mul_le_mul_right h hc, fun h => Rat.mul_le_mul_of_nonneg_right h (Rat.le_of_lt hc)⟩
theorem rlt {a b c : Rat} (hc : 0 < c) : a * c < b * c ↔ a < b := Rat.mul_lt_mul_right hc

theorem two0 : (2 : Rat) ≠ 0 := by decide
theorem ten0 : (10 : Rat) ≠ 0 := by decide
theorem p2 (k : Int) : (0 : Rat) < 2 ^ k := Rat.zpow_pos (by decide)
theorem p10 (k : Int) : (0 : Rat) < 10 ^ k := Rat.zpow_pos (by decide)

theorem num_rat (p : Int) : (num p : Rat) = den p * (10 ^ p * 2 ^ (127 - lp p)) := by
  have e1 := zpow_split 10 ten0 p
  have e2 := zpow_split 2 two0 (127 - lp p)
  rw [show -(127 - lp p) = lp p - 127 by omega] at e2
  unfold num den
  simp only [Rat.natCast_mul, Rat.natCast_pow]
  have f1 : ((10 : Nat) : Rat) = 10 := rfl
  have f2 : ((2 : Nat) : Rat) = 2 := rfl
  rw [f1, f2, e1, e2]
  grind

theorem den_rat_pos (p : Int) : (0 : Rat) < den p := by
  have := den_pos p
  exact_mod_cast this

/-- A comparison of whole numbers, as one of quotients. -/
theorem frac_le (p : Int) (x c k : Nat) : x * num p ≤ c * (den p * 2 ^ k) ↔ (x : Rat) * 10 ^ p * 2 ^ (127 - lp p - k) ≤ c := by
  rw [← Rat.natCast_le_natCast, ← @rle ((x : Rat) * 10 ^ p * 2 ^ (127 - lp p - k)) c (den p * 2 ^ (k : Int)) (Rat.mul_pos (den_rat_pos p) (p2 _))]
  have e : (2 : Rat) ^ (127 - lp p) = 2 ^ (127 - lp p - k) * 2 ^ (k : Int) := by
    rw [← Rat.zpow_add two0]; congr 1; omega
  have f : ((2 : Nat) : Rat) = 2 := rfl
  simp only [Rat.natCast_mul, Rat.natCast_pow, num_rat, e, f]
  rw [← Rat.zpow_natCast]
  generalize (2 : Rat) ^ (127 - lp p - k) = u
  generalize (2 : Rat) ^ (k : Int) = t
  constructor <;> intro h <;> grind

theorem frac_lt (p : Int) (x c k : Nat) : x * num p < c * (den p * 2 ^ k) ↔ (x : Rat) * 10 ^ p * 2 ^ (127 - lp p - k) < c := by
  rw [← Rat.natCast_lt_natCast, ← @rlt ((x : Rat) * 10 ^ p * 2 ^ (127 - lp p - k)) c (den p * 2 ^ (k : Int)) (Rat.mul_pos (den_rat_pos p) (p2 _))]
  have e : (2 : Rat) ^ (127 - lp p) = 2 ^ (127 - lp p - k) * 2 ^ (k : Int) := by
    rw [← Rat.zpow_add two0]; congr 1; omega
  have f : ((2 : Nat) : Rat) = 2 := rfl
  simp only [Rat.natCast_mul, Rat.natCast_pow, num_rat, e, f]
  rw [← Rat.zpow_natCast]
  generalize (2 : Rat) ^ (127 - lp p - k) = u
  generalize (2 : Rat) ^ (k : Int) = t
  constructor <;> intro h <;> grind

/-- .. the other way round. -/
theorem frac_ge (p : Int) (x c k : Nat) : c * (den p * 2 ^ k) ≤ x * num p ↔ (c : Rat) ≤ (x : Rat) * 10 ^ p * 2 ^ (127 - lp p - k) := by
  have := frac_lt p x c k
  constructor
  · intro h
    refine Rat.not_lt.1 fun hh => ?_
    have := this.2 hh; omega
  · intro h
    refine Nat.le_of_not_lt fun hh => ?_
    exact Rat.not_lt.2 h (this.1 hh)

theorem frac_gt (p : Int) (x c k : Nat) : c * (den p * 2 ^ k) < x * num p ↔ (c : Rat) < (x : Rat) * 10 ^ p * 2 ^ (127 - lp p - k) := by
  have := frac_le p x c k
  constructor
  · intro h
    refine Rat.not_le.1 fun hh => ?_
    have := this.2 hh; omega
  · intro h
    refine Nat.lt_of_not_le fun hh => ?_
    exact Rat.not_le.2 h (this.1 hh)

/-- How far below the number the numbers begin that are rounded to it, in quarters of its last place. -/
def below4 (mant : Nat) (E : Int) : Nat := if mant = 2 ^ 52 ∧ -1074 < E then 1 else 2

/-- v is rounded to mant * 2^E. -/
def Near (mant : Nat) (E : Int) (v : Rat) : Prop :=
  (mant % 2 = 0 → ((4 * mant - below4 mant E : Nat) : Rat) * 2 ^ (E - 2) ≤ v ∧ v ≤ ((4 * mant + 2 : Nat) : Rat) * 2 ^ (E - 2)) ∧
  (mant % 2 = 1 → ((4 * mant - below4 mant E : Nat) : Rat) * 2 ^ (E - 2) < v ∧ v < ((4 * mant + 2 : Nat) : Rat) * 2 ^ (E - 2))

theorem near_scale (P E : Int) (z s x n a : Nat) (hz : 2 ≤ z) (hs : (s : Int) = z - 3 - E - lp P) (hx : x = a * 2 ^ (z - 2)) :
    ((x * num P ≤ 4 * n * (den P * 2 ^ (128 + s)) ↔ (a : Rat) * 2 ^ (E - 2) ≤ n * 10 ^ (-P)) ∧
    (x * num P < 4 * n * (den P * 2 ^ (128 + s)) ↔ (a : Rat) * 2 ^ (E - 2) < n * 10 ^ (-P))) ∧
    ((4 * n * (den P * 2 ^ (128 + s)) ≤ x * num P ↔ n * 10 ^ (-P) ≤ (a : Rat) * 2 ^ (E - 2)) ∧
    (4 * n * (den P * 2 ^ (128 + s)) < x * num P ↔ n * 10 ^ (-P) < (a : Rat) * 2 ^ (E - 2))) := by
  have key : (x : Rat) * 10 ^ P * 2 ^ (127 - lp P - (128 + s : Nat)) = (a : Rat) * 2 ^ (E - 2) * (4 * 10 ^ P) := by
    have f : ((2 : Nat) : Rat) = 2 := rfl
    rw [hx, Rat.natCast_mul, Rat.natCast_pow, f, ← Rat.zpow_natCast]
    have e1 : (2 : Rat) ^ (127 - lp P - (128 + s : Nat)) = 2 ^ (E - 2) * 4 * 2 ^ (-((z - 2 : Nat) : Int)) := by
      have : (4 : Rat) = 2 ^ (2 : Int) := by decide
      rw [this, ← Rat.zpow_add two0, ← Rat.zpow_add two0]
      congr 1
      omega
    have e2 : (2 : Rat) ^ ((z - 2 : Nat) : Int) * 2 ^ (-((z - 2 : Nat) : Int)) = 1 := by
      rw [← Rat.zpow_add two0, Int.add_right_neg]; rfl
    rw [e1]
    generalize (2 : Rat) ^ ((z - 2 : Nat) : Int) = t at *
    generalize (2 : Rat) ^ (-((z - 2 : Nat) : Int)) = t' at *
    grind
  have kn : ((4 * n : Nat) : Rat) = n * 10 ^ (-P) * (4 * 10 ^ P) := by
    have e2 : (10 : Rat) ^ P * 10 ^ (-P) = 1 := by
      rw [← Rat.zpow_add ten0, Int.add_right_neg]; rfl
    have f : ((4 : Nat) : Rat) = 4 := rfl
    rw [Rat.natCast_mul, f]
    grind
  have hp : (0 : Rat) < 4 * 10 ^ P := Rat.mul_pos (by decide) (p10 _)
  rw [frac_le, frac_lt, frac_ge, frac_gt, key, kn, rle hp, rlt hp, rle hp, rlt hp]
  exact ⟨⟨Iff.rfl, Iff.rfl⟩, ⟨Iff.rfl, Iff.rfl⟩⟩

end Go.Proofs.YtdjjgnplpjoabaaGreatDoor.FB
