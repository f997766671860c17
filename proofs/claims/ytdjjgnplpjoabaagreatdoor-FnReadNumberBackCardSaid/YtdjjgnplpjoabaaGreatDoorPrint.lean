/- The decimal that the shortest printing chooses lies in the interval of the numbers that are rounded to the float; its conditions: the float is finite and not zero. -/
import Derived.Test.YtdjjgnplpjoabaaGreatDoorUsc
set_option maxRecDepth 10000
namespace Go.Proofs.YtdjjgnplpjoabaaGreatDoor.FB

/-- An unrounded number tells each comparison with an even number. -/
theorem unr_even (n d : Nat) (hd : 0 < d) (k : Nat) : (2 * k * d ≤ n ↔ 2 * k ≤ unr n d) ∧ (2 * k * d < n ↔ 2 * k < unr n d) := by
  have h1 := Nat.div_add_mod n d
  have h2 := Nat.mod_lt n hd
  have hq : ∀ j, j * d ≤ n ↔ j ≤ n / d := fun j => by rw [Nat.le_div_iff_mul_le hd]
  obtain ⟨q, hqe⟩ : ∃ q, n / d = q := ⟨_, rfl⟩
  rw [hqe] at h1
  unfold unr
  rw [hqe]
  have hor : q ||| 1 = q / 2 * 2 + 1 := by
    have := Nat.or_mod_two_eq_one (a := q) (b := 1)
    have h3 : (q ||| 1) / 2 = q / 2 := by rw [Nat.or_div_two]; simp
    have h4 : (q ||| 1) % 2 = 1 := by rw [this]; omega
    omega
  by_cases hz : n % d = 0
  · rw [if_pos hz, Nat.or_zero]
    have e : n = q * d := by rw [Nat.mul_comm]; omega
    rw [e]
    exact ⟨Nat.mul_le_mul_right_iff hd, Nat.mul_lt_mul_right hd⟩
  · rw [if_neg hz, hor]
    have l1 : q * d < n := by rw [Nat.mul_comm]; omega
    have l2 : n < (q + 1) * d := by rw [Nat.add_mul, Nat.mul_comm]; omega
    have i1 : 2 * k * d ≤ n ↔ 2 * k ≤ q := by rw [hq, hqe]
    have i2 : 2 * k * d < n ↔ 2 * k ≤ q := by
      constructor
      · intro h; rw [← hqe, ← hq]; omega
      · intro h
        have : 2 * k * d ≤ q * d := Nat.mul_le_mul_right _ h
        omega
    rw [i1, i2]
    constructor <;> omega

/-- What the choice of a decimal promises, in whole numbers: 4 d' D lies between A and B. -/
theorem print_core (A B V D W U1 U2 U3 mant odd : Nat) (hD : 0 < D) (hodd : odd = mant % 2)
    (e1 : ∀ k, (2 * k * D ≤ A ↔ 2 * k ≤ U1) ∧ (2 * k * D < A ↔ 2 * k < U1))
    (e2 : ∀ k, (2 * k * D ≤ B ↔ 2 * k ≤ U2) ∧ (2 * k * D < B ↔ 2 * k < U2))
    (e3 : ∀ k, (2 * k * D ≤ V ↔ 2 * k ≤ U3) ∧ (2 * k * D < V ↔ 2 * k < U3))
    (hV : V = mant * W) (hB : 2 * B = 2 * V + W) (hW : (2 * A + W = 2 * V ∧ 4 * D ≤ W) ∨ (4 * A + W = 4 * V ∧ 16 * D ≤ 3 * W ∧ odd = 0)) (hA : 0 < A)
    (d n : Nat)
    (h : ((U1 + odd + 3) / 4 ≤ (U2 - odd) / 4 / 10 * 10 ∧ d = (U2 - odd) / 4 / 10 ∧ n = 10 * d) ∨
      ((U2 - odd) / 4 / 10 * 10 < (U1 + odd + 3) / 4 ∧ (U1 + odd + 3) / 4 < (U2 - odd) / 4 ∧ d = (U3 + 1 + U3 / 4 % 2) / 4 ∧ n = d) ∨
      ((U2 - odd) / 4 / 10 * 10 < (U1 + odd + 3) / 4 ∧ (U2 - odd) / 4 ≤ (U1 + odd + 3) / 4 ∧ d = (U1 + odd + 3) / 4 ∧ n = d)) :
    1 ≤ d ∧ ((odd = 0 → A ≤ 4 * n * D ∧ 4 * n * D ≤ B) ∧ (odd = 1 → A < 4 * n * D ∧ 4 * n * D < B)) := by
  have o1 : odd ≤ 1 := by omega
  obtain ⟨lo, hlo⟩ : ∃ x, (U1 + odd + 3) / 4 = x := ⟨_, rfl⟩
  obtain ⟨hi, hhi⟩ : ∃ x, (U2 - odd) / 4 = x := ⟨_, rfl⟩
  rw [hlo, hhi] at h
  -- what the two ends mean
  have gl : ∀ k, lo ≤ k ↔ (if odd = 0 then A ≤ 4 * k * D else A < 4 * k * D) := by
    intro k
    have := e1 (2 * k)
    rw [show 2 * (2 * k) = 4 * k by omega] at this
    split <;> omega
  have gh : ∀ k, k ≤ hi → (if odd = 0 then 4 * k * D ≤ B else 4 * k * D < B ∨ k = 0) := by
    intro k hk
    have := e2 (2 * k)
    rw [show 2 * (2 * k) = 4 * k by omega] at this
    split <;> omega
  have gh2 : ∀ k, hi < k → (if odd = 0 then B < 4 * k * D else B ≤ 4 * k * D) := by
    intro k hk
    have := e2 (2 * k)
    rw [show 2 * (2 * k) = 4 * k by omega] at this
    split <;> omega
  have lo1 : 1 ≤ lo := by
    have := (gl 0).1
    by_cases h0 : lo = 0
    · have := this (by omega)
      split at this <;> omega
    · omega
  have good : ∀ k, lo ≤ k → k ≤ hi → ((odd = 0 → A ≤ 4 * k * D ∧ 4 * k * D ≤ B) ∧ (odd = 1 → A < 4 * k * D ∧ 4 * k * D < B)) := by
    intro k h1 h2
    have a := (gl k).1 h1
    have b := gh k h2
    refine ⟨fun h => ?_, fun h => ?_⟩
    · rw [if_pos h] at a b; exact ⟨a, b⟩
    · rw [if_neg (by omega)] at a b; exact ⟨a, by omega⟩
  rcases h with ⟨h1, h2, h3⟩ | ⟨h1, h2, h3, h4⟩ | ⟨h1, h2, h3, h4⟩
  · exact ⟨by omega, good n (by omega) (by omega)⟩
  · -- the nearest one
    have r1 : ¬ 4 * d + 2 < U3 := by omega
    have r2 : 4 * d ≤ U3 + 2 := by omega
    have hd1 := e3 (2 * d + 1)
    rw [show 2 * (2 * d + 1) = 4 * d + 2 by omega, Nat.add_mul] at hd1
    have v1 : V ≤ 4 * d * D + 2 * D := by omega
    have v2 : 4 * d * D ≤ V + 2 * D := by
      by_cases hd0 : d = 0
      · rw [hd0]; simp
      · have hd2 := e3 (2 * d - 1)
        rw [show 2 * (2 * d - 1) = 4 * d - 2 by omega] at hd2
        have : (4 * d - 2) * D = 4 * d * D - 2 * D := by rw [Nat.sub_mul]
        omega
    have l1 : lo ≤ d := by
      refine Nat.le_of_not_lt fun hlt => ?_
      have a := gl (lo - 1)
      have b := gh (lo + 1) (by omega)
      have hk : d ≤ lo - 1 := by omega
      have c : 4 * d * D ≤ 4 * (lo - 1) * D := Nat.mul_le_mul_right _ (by omega)
      have e : 4 * (lo + 1) * D = 4 * (lo - 1) * D + 8 * D := by rw [← Nat.add_mul]; congr 1; omega
      have a' : 4 * (lo - 1) * D ≤ A := by
        have : ¬ lo ≤ lo - 1 := by omega
        rw [a] at this
        split at this <;> omega
      have b' : 4 * (lo + 1) * D ≤ B := by split at b <;> omega
      omega
    have l2 : d ≤ hi := by
      refine Nat.le_of_not_lt fun hlt => ?_
      have a := (gl (hi - 1)).1 (by omega)
      have b := gh2 (hi + 1) (by omega)
      have c : 4 * (hi + 1) * D ≤ 4 * d * D := Nat.mul_le_mul_right _ (by omega)
      have e : 4 * (hi + 1) * D = 4 * (hi - 1) * D + 8 * D := by rw [← Nat.add_mul]; congr 1; omega
      have a' : A ≤ 4 * (hi - 1) * D := by split at a <;> omega
      have b' : B ≤ 4 * (hi + 1) * D := by split at b <;> omega
      omega
    exact ⟨by omega, by rw [h4]; exact good d l1 l2⟩
  · have l2 : lo ≤ hi := by
      refine Nat.le_of_not_lt fun hlt => ?_
      have a : ¬ lo ≤ hi := by omega
      rw [gl hi] at a
      have b := gh2 (hi + 1) (by omega)
      have e : 4 * (hi + 1) * D = 4 * hi * D + 4 * D := by rw [← Nat.add_mul]; congr 1
      by_cases ho : odd = 0
      · rw [if_pos ho] at a b
        omega
      · rw [if_neg ho] at a b
        -- the width is just one unit and the ends are whole: then the number is a half
        have hWD : W = 4 * D := by omega
        have hV4 : V = 4 * mant * D := by rw [hV, hWD]; grind
        have hA4 : 4 * mant * D = 4 * hi * D + 2 * D := by omega
        have : 4 * mant * D = (4 * hi + 2) * D := by rw [Nat.add_mul]; exact hA4
        have := Nat.eq_of_mul_eq_mul_right hD this
        omega
    exact ⟨by omega, by rw [h4, h3]; exact good lo (Nat.le_refl _) l2⟩

end Go.Proofs.YtdjjgnplpjoabaaGreatDoor.FB
