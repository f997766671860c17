/- All that the shortest printing of a float needs and gives, in plain numbers; its conditions: the float is finite and not zero. -/
import Derived.Test.YtdjjgnplpjoabaaGreatDoorNear
set_option maxRecDepth 100000
namespace Go.Proofs.YtdjjgnplpjoabaaGreatDoor.FB

def lg (x : Int) : Int := x * 78913 / 262144
def sk (x : Int) : Int := (x * 631305 - 261663) / 2097152

/-- The width of the last place, in decimals: from 1 to 10. -/
def chkN (E P : Int) : Bool :=
  decide (-300 ≤ P) && decide (P < 330) && decide (5 ≤ 8 - E - lp P) && decide (8 - E - lp P ≤ 9) &&
  Nat.ble (den P * 2 ^ (119 + (8 - E - lp P).toNat)) (num P) && Nat.ble (num P) (10 * (den P * 2 ^ (119 + (8 - E - lp P).toNat)))
def chkS (E P : Int) : Bool :=
  decide (-300 ≤ P) && decide (P < 330) && decide (5 ≤ 8 - E - lp P) && decide (8 - E - lp P ≤ 9) &&
  Nat.ble (4 * (den P * 2 ^ (119 + (8 - E - lp P).toNat))) (3 * num P) && Nat.ble (num P) (15 * (den P * 2 ^ (119 + (8 - E - lp P).toNat)))

def chkAll : Nat → Int → Bool
  | 0, _ => true
  | n + 1, E => chkN E (-lg E) && chkS E (-sk E) && chkAll n (E + 1)

theorem chk_all : chkAll 2046 (-1074) = true := by kernel_rfl

theorem chkAll_at : ∀ (n : Nat) (E : Int), chkAll n E = true → ∀ k : Nat, k < n → chkN (E + k) (-lg (E + k)) = true ∧ chkS (E + k) (-sk (E + k)) = true
  | 0, _, _, k, hk => absurd hk (Nat.not_lt_zero _)
  | n + 1, E, h, k, hk => by
    simp only [chkAll, Bool.and_eq_true] at h
    cases k with
    | zero => simpa using h.1
    | succ k =>
      have := chkAll_at n (E + 1) h.2 k (by omega)
      rw [show E + 1 + (k : Int) = E + ((k + 1 : Nat) : Int) by omega] at this
      exact this

theorem chk_at (E : Int) (h1 : -1074 ≤ E) (h2 : E ≤ 971) : chkN E (-lg E) = true ∧ chkS E (-sk E) = true := by
  have := chkAll_at _ _ chk_all (E + 1074).toNat (by omega)
  rw [show -1074 + ((E + 1074).toNat : Int) = E by omega] at this
  exact this

/-- A finite float that is not zero: its whole number, its place, how far its whole number is shifted to fill 64 bits. -/
structure Fin (mant : Nat) (E : Int) (z : Nat) : Prop where
  z1 : 11 ≤ z
  z2 : z ≤ 63
  lo : 2 ^ 63 ≤ mant * 2 ^ z
  hi : mant * 2 ^ z < 2 ^ 64
  E1 : -1074 ≤ E
  E2 : E ≤ 971
  sub : z = 11 ∨ E = -1074

def isSkew (mant : Nat) (E : Int) : Prop := mant = 2 ^ 52 ∧ -1074 < E
instance (mant : Nat) (E : Int) : Decidable (isSkew mant E) := by unfold isSkew; infer_instance

def pOf (mant : Nat) (E : Int) : Int := if isSkew mant E then -sk E else -lg E
def mnOf (mant : Nat) (E : Int) (z : Nat) : Nat := if isSkew mant E then mant * 2 ^ z - 2 ^ (z - 2) else mant * 2 ^ z - 2 ^ (z - 1)
def mxOf (mant : Nat) (z : Nat) : Nat := mant * 2 ^ z + 2 ^ (z - 1)
def sOf (mant : Nat) (E : Int) (z : Nat) : Nat := ((z : Int) - 3 - E - lp (pOf mant E)).toNat
def uOf (mant : Nat) (E : Int) (z x : Nat) : Nat := usc x (tabAt (pOf mant E)).1 (tabAt (pOf mant E)).2 (sOf mant E z)

variable {mant : Nat} {E : Int} {z : Nat}

theorem pow_parts (z : Nat) (hz : 11 ≤ z) : 2 ^ z = 4 * 2 ^ (z - 2) ∧ 2 ^ (z - 1) = 2 * 2 ^ (z - 2) ∧ 2 ^ (z - 2) = 128 * 2 ^ (z - 9) := by
  have a : 2 ^ z = 2 ^ (z - 2 + 2) := by congr 1; omega
  have b : 2 ^ (z - 1) = 2 ^ (z - 2 + 1) := by congr 1; omega
  have c : 2 ^ (z - 2) = 2 ^ (z - 9 + 7) := by congr 1; omega
  rw [Nat.pow_add] at a b c
  omega

theorem Fin.P (h : Fin mant E z) : -300 ≤ pOf mant E ∧ pOf mant E < 330 ∧ 5 ≤ 8 - E - lp (pOf mant E) ∧ 8 - E - lp (pOf mant E) ≤ 9 := by
  obtain ⟨a, b⟩ := chk_at E h.E1 h.E2
  simp only [chkN, chkS, Bool.and_eq_true, decide_eq_true_eq] at a b
  unfold pOf
  split
  · exact ⟨b.1.1.1.1.1, b.1.1.1.1.2, b.1.1.1.2, b.1.1.2⟩
  · exact ⟨a.1.1.1.1.1, a.1.1.1.1.2, a.1.1.1.2, a.1.1.2⟩

theorem Fin.s (h : Fin mant E z) : ((sOf mant E z : Nat) : Int) = (z : Int) - 3 - E - lp (pOf mant E) ∧ 5 ≤ sOf mant E z ∧ sOf mant E z ≤ 63 := by
  have hP := h.P
  have h1 := h.z1; have h2 := h.z2
  have hp324 : E = -1074 → z ≠ 11 → lp (pOf mant E) = 1076 := by
    intro hE _
    subst hE
    have : ¬ isSkew mant (-1074) := by unfold isSkew; omega
    unfold pOf
    rw [if_neg this]
    decide
  unfold sOf
  rcases h.sub with h3 | h3
  · omega
  · by_cases h4 : z = 11
    · omega
    · have := hp324 h3 h4
      omega

theorem Fin.mid (h : Fin mant E z) : isSkew mant E → z = 11 := by
  intro hs
  rcases h.sub with h3 | h3
  · exact h3
  · exact absurd hs.2 (by omega)

/-- The width of the last place, scaled. -/
theorem Fin.width (h : Fin mant E z) : (¬ isSkew mant E → 4 * (den (pOf mant E) * 2 ^ (128 + sOf mant E z)) ≤ 2 ^ z * num (pOf mant E)) ∧
    (isSkew mant E → 16 * (den (pOf mant E) * 2 ^ (128 + sOf mant E z)) ≤ 3 * (2 ^ z * num (pOf mant E))) ∧
    2 ^ z * num (pOf mant E) ≤ 60 * (den (pOf mant E) * 2 ^ (128 + sOf mant E z)) ∧
    (¬ isSkew mant E → 2 ^ z * num (pOf mant E) ≤ 40 * (den (pOf mant E) * 2 ^ (128 + sOf mant E z))) := by
  obtain ⟨a, b⟩ := chk_at E h.E1 h.E2
  simp only [chkN, chkS, Bool.and_eq_true, Nat.ble_eq] at a b
  obtain ⟨s1, s2, s3⟩ := h.s
  obtain ⟨P1, P2, P3, P4⟩ := h.P
  have z1 := h.z1
  have e : ∀ P, P = pOf mant E → 4 * (den P * 2 ^ (128 + sOf mant E z)) = 2 ^ z * (den P * 2 ^ (119 + (8 - E - lp P).toNat)) := by
    intro P hP
    have : 2 ^ (128 + sOf mant E z) * 4 = 2 ^ z * 2 ^ (119 + (8 - E - lp P).toNat) := by
      rw [← Nat.pow_add, show (4 : Nat) = 2 ^ 2 from rfl, ← Nat.pow_add]
      congr 1
      rw [hP]
      omega
    calc 4 * (den P * 2 ^ (128 + sOf mant E z)) = den P * (2 ^ (128 + sOf mant E z) * 4) := by grind
      _ = den P * (2 ^ z * 2 ^ (119 + (8 - E - lp P).toNat)) := by rw [this]
      _ = _ := by grind
  have hz0 : 0 < 2 ^ z := Nat.pow_pos (by decide)
  by_cases hs : isSkew mant E
  · have hP : pOf mant E = -sk E := by unfold pOf; rw [if_pos hs]
    have e' := e _ rfl
    have b1 := Nat.mul_le_mul_left (2 ^ z) b.1.2
    have b2 := Nat.mul_le_mul_left (2 ^ z) b.2
    rw [hP] at e' ⊢
    generalize den (-sk E) * 2 ^ (119 + (8 - E - lp (-sk E)).toNat) = X at *
    rw [show 2 ^ z * (4 * X) = 4 * (2 ^ z * X) by grind, show 2 ^ z * (3 * num (-sk E)) = 3 * (2 ^ z * num (-sk E)) by grind] at b1
    rw [show 2 ^ z * (15 * X) = 15 * (2 ^ z * X) by grind] at b2
    refine ⟨fun h => absurd hs h, fun _ => by omega, by omega, fun h => absurd hs h⟩
  · have hP : pOf mant E = -lg E := by unfold pOf; rw [if_neg hs]
    have e' := e _ rfl
    have b1 := Nat.mul_le_mul_left (2 ^ z) a.1.2
    have b2 := Nat.mul_le_mul_left (2 ^ z) a.2
    rw [hP] at e' ⊢
    generalize den (-lg E) * 2 ^ (119 + (8 - E - lp (-lg E)).toNat) = X at *
    rw [show 2 ^ z * (10 * X) = 10 * (2 ^ z * X) by grind] at b2
    refine ⟨fun _ => by omega, fun h => absurd h hs, by omega, fun _ => by omega⟩

theorem Fin.parts (h : Fin mant E z) : ∃ t, 2 ^ z = 4 * (128 * t) ∧ 2 ^ (z - 1) = 2 * (128 * t) ∧ 2 ^ (z - 2) = 128 * t ∧ 0 < t ∧
    mnOf mant E z = (4 * mant - below4 mant E) * 2 ^ (z - 2) ∧ mxOf mant z = (4 * mant + 2) * 2 ^ (z - 2) ∧ 1 ≤ mant := by
  obtain ⟨a, b, c⟩ := pow_parts z h.z1
  have hm : 1 ≤ mant := by
    have := h.lo
    rcases Nat.eq_zero_or_pos mant with h0 | h0
    · rw [h0] at this; simp at this
    · exact h0
  refine ⟨2 ^ (z - 9), by omega, by omega, c, Nat.pow_pos (by decide), ?_, ?_, hm⟩
  · unfold mnOf below4
    by_cases hs : isSkew mant E
    · rw [if_pos hs, if_pos (show mant = 2 ^ 52 ∧ -1074 < E from hs), a, Nat.sub_mul]
      grind
    · rw [if_neg hs, if_neg (show ¬ (mant = 2 ^ 52 ∧ -1074 < E) from hs), a, b, Nat.sub_mul]
      grind
  · unfold mxOf
    rw [a, b, Nat.add_mul]
    grind

theorem Fin.bounds (h : Fin mant E z) : 2 ^ 62 ≤ mnOf mant E z ∧ mnOf mant E z < 2 ^ 64 ∧ mxOf mant z < 2 ^ 64 := by
  obtain ⟨t, a, b, c, t0, e1, e2, hm⟩ := h.parts
  have lo := h.lo; have hi := h.hi
  have hz : 2 ^ z * 2 ^ (64 - z) = 2 ^ 64 := by rw [← Nat.pow_add]; congr 1; have := h.z2; omega
  have hmz : mant + 1 ≤ 2 ^ (64 - z) := by
    refine Nat.lt_of_not_le fun hh => ?_
    have : 2 ^ (64 - z) * 2 ^ z ≤ mant * 2 ^ z := Nat.mul_le_mul_right _ hh
    rw [Nat.mul_comm] at this
    omega
  have h3 : (mant + 1) * 2 ^ z ≤ 2 ^ 64 := by rw [← hz, Nat.mul_comm (2 ^ z)]; exact Nat.mul_le_mul_right _ hmz
  rw [Nat.add_mul, Nat.one_mul] at h3
  have h4 : 2 ^ z ≤ 2 ^ 63 := Nat.pow_le_pow_right (by decide) h.z2
  unfold mnOf mxOf
  split <;> omega

theorem Fin.unr (h : Fin mant E z) (x a : Nat) (hx : x = a * 2 ^ (z - 2)) (h1 : 2 ≤ x) (h2 : x < 2 ^ 64) :
    uOf mant E z x = unr (x * num (pOf mant E)) (den (pOf mant E) * 2 ^ (128 + sOf mant E z)) := by
  obtain ⟨P1, P2, _, _⟩ := h.P
  obtain ⟨_, s2, _⟩ := h.s
  obtain ⟨t, _, _, c, t0, _⟩ := h.parts
  refine usc_eq _ (by omega) P2 x _ h2 h1 ?_ s2
  have e : x = (a * t) * 128 := by rw [hx, c]; grind
  rw [e]
  exact gapA _ (by omega) P2 (a * t) (by omega)

/-- THE BOUNDS OF THE THREE SCALED NUMBERS. -/
theorem Fin.small (h : Fin mant E z) (x a : Nat) (hx : x = a * 2 ^ (z - 2)) (h1 : 2 ≤ x) (h2 : x < 2 ^ 64) (ha : a ≤ 4 * mant + 2) : 1 ≤ uOf mant E z x ∧ uOf mant E z x ≤ 18446744073709550000 := by
  have hu := h.unr x a hx h1 h2
  have hd : 0 < den (pOf mant E) * 2 ^ (128 + sOf mant E z) := Nat.mul_pos (den_pos _) (Nat.pow_pos (by decide))
  have ev := unr_even (x * num (pOf mant E)) _ hd
  rw [← hu] at ev
  obtain ⟨_, _, w, _⟩ := h.width
  obtain ⟨t, pa, _, pc, t0, _, _, hm⟩ := h.parts
  constructor
  · have := (ev 0).2
    have hx0 : 0 < x * num (pOf mant E) := Nat.mul_pos (by omega) (num_pos _)
    omega
  · refine Nat.le_of_not_lt fun hh => ?_
    have := (ev 9223372036854775000).1
    rw [show 2 * 9223372036854775000 = 18446744073709550000 from rfl] at this
    have hge := this.2 (by omega)
    -- x * num <= 2^54 * 60 * D
    have hmant : mant ≤ 2 ^ 53 := by
      have hi := h.hi
      have : 2 ^ 11 ≤ 2 ^ z := Nat.pow_le_pow_right (by decide) h.z1
      refine Nat.le_of_not_lt fun hc => ?_
      have : (2 ^ 53 + 1) * 2 ^ 11 ≤ mant * 2 ^ z := Nat.mul_le_mul hc this
      omega
    have l1 : x * num (pOf mant E) ≤ 2 ^ 56 * (2 ^ z * num (pOf mant E)) := by
      rw [hx, ← Nat.mul_assoc]
      refine Nat.mul_le_mul_right _ ?_
      refine Nat.mul_le_mul (by omega) (Nat.pow_le_pow_right (by decide) (by omega))
    have l2 : 2 ^ 56 * (2 ^ z * num (pOf mant E)) ≤ 2 ^ 56 * (60 * (den (pOf mant E) * 2 ^ (128 + sOf mant E z))) := Nat.mul_le_mul_left _ w
    generalize den (pOf mant E) * 2 ^ (128 + sOf mant E z) = D at *
    omega

/-- THE DECIMAL LIES IN THE FLOAT's INTERVAL. -/
theorem Fin.short (h : Fin mant E z) (U1 U2 U3 odd d n : Nat) (hU1 : uOf mant E z (mnOf mant E z) = U1) (hU2 : uOf mant E z (mxOf mant z) = U2) (hU3 : uOf mant E z (mant * 2 ^ z) = U3) (hodd : odd = mant % 2)
    (hd : ((U1 + odd + 3) / 4 ≤ (U2 - odd) / 4 / 10 * 10 ∧ d = (U2 - odd) / 4 / 10 ∧ n = 10 * d) ∨
      ((U2 - odd) / 4 / 10 * 10 < (U1 + odd + 3) / 4 ∧ (U1 + odd + 3) / 4 < (U2 - odd) / 4 ∧ d = (U3 + 1 + U3 / 4 % 2) / 4 ∧ n = d) ∨
      ((U2 - odd) / 4 / 10 * 10 < (U1 + odd + 3) / 4 ∧ (U2 - odd) / 4 ≤ (U1 + odd + 3) / 4 ∧ d = (U1 + odd + 3) / 4 ∧ n = d)) :
    1 ≤ d ∧ d < 10 ^ 17 ∧ Near mant E ((n : Rat) * 10 ^ (-pOf mant E)) := by
  obtain ⟨bn1, bn2, bx⟩ := h.bounds
  obtain ⟨t, pa, pb, pc, t0, en, ex, hm⟩ := h.parts
  have lo := h.lo; have hi := h.hi
  have em : mant * 2 ^ z = (4 * mant) * 2 ^ (z - 2) := by rw [pa, pc]; grind
  have u1 := h.unr _ _ en (by omega) bn2
  have bx2 : 2 ≤ mxOf mant z := by unfold mxOf; omega
  have u2 := h.unr _ _ ex bx2 bx
  have u3 := h.unr _ _ em (by omega) hi
  rw [hU1] at u1; rw [hU2] at u2; rw [hU3] at u3
  have hD : 0 < den (pOf mant E) * 2 ^ (128 + sOf mant E z) := Nat.mul_pos (den_pos _) (Nat.pow_pos (by decide))
  obtain ⟨w1, w2, w3, w4⟩ := h.width
  have v1 := unr_even (mnOf mant E z * num (pOf mant E)) _ hD
  have v2 := unr_even (mxOf mant z * num (pOf mant E)) _ hD
  have v3 := unr_even (mant * 2 ^ z * num (pOf mant E)) _ hD
  rw [← u1] at v1; rw [← u2] at v2; rw [← u3] at v3
  -- the widths
  have z1 := h.z1
  have eB : 2 * (mxOf mant z * num (pOf mant E)) = 2 * (mant * 2 ^ z * num (pOf mant E)) + 2 ^ z * num (pOf mant E) := by
    unfold mxOf
    rw [Nat.add_mul]
    have : 2 * (2 ^ (z - 1) * num (pOf mant E)) = 2 ^ z * num (pOf mant E) := by rw [← Nat.mul_assoc]; congr 1; omega
    omega
  have h2z : 2 ^ z ≤ 2 ^ 63 := Nat.pow_le_pow_right (by decide) h.z2
  have hle : 2 ^ (z - 1) ≤ mant * 2 ^ z := by omega
  have hle2 : 2 ^ (z - 2) ≤ mant * 2 ^ z := by omega
  have eA : (2 * (mnOf mant E z * num (pOf mant E)) + 2 ^ z * num (pOf mant E) = 2 * (mant * 2 ^ z * num (pOf mant E)) ∧ 4 * (den (pOf mant E) * 2 ^ (128 + sOf mant E z)) ≤ 2 ^ z * num (pOf mant E)) ∨
      (4 * (mnOf mant E z * num (pOf mant E)) + 2 ^ z * num (pOf mant E) = 4 * (mant * 2 ^ z * num (pOf mant E)) ∧ 16 * (den (pOf mant E) * 2 ^ (128 + sOf mant E z)) ≤ 3 * (2 ^ z * num (pOf mant E)) ∧ odd = 0) := by
    unfold mnOf
    by_cases hs : isSkew mant E
    · right
      rw [if_pos hs]
      refine ⟨?_, w2 hs, ?_⟩
      · rw [Nat.sub_mul]
        have : 4 * (2 ^ (z - 2) * num (pOf mant E)) = 2 ^ z * num (pOf mant E) := by rw [← Nat.mul_assoc]; congr 1; omega
        have : 2 ^ (z - 2) * num (pOf mant E) ≤ mant * 2 ^ z * num (pOf mant E) := Nat.mul_le_mul_right _ hle2
        omega
      · rw [hodd, hs.1]
    · left
      rw [if_neg hs]
      refine ⟨?_, w1 hs⟩
      rw [Nat.sub_mul]
      have : 2 * (2 ^ (z - 1) * num (pOf mant E)) = 2 ^ z * num (pOf mant E) := by rw [← Nat.mul_assoc]; congr 1; omega
      have : 2 ^ (z - 1) * num (pOf mant E) ≤ mant * 2 ^ z * num (pOf mant E) := Nat.mul_le_mul_right _ hle
      omega
  have core := print_core _ _ _ _ (2 ^ z * num (pOf mant E)) U1 U2 U3 mant odd hD hodd v1 v2 v3 (by rw [Nat.mul_assoc]) eB eA (Nat.mul_pos (by omega) (num_pos _)) d n hd
  obtain ⟨c1, c2, c3⟩ := core
  -- in quotients
  obtain ⟨s1, _, _⟩ := h.s
  obtain ⟨⟨n1, n2⟩, _⟩ := near_scale (pOf mant E) E z (sOf mant E z) (mnOf mant E z) n _ (by omega) s1 en
  obtain ⟨_, ⟨n3, n4⟩⟩ := near_scale (pOf mant E) E z (sOf mant E z) (mxOf mant z) n _ (by omega) s1 ex
  have hodd2 : odd ≤ 1 := by omega
  refine ⟨c1, ?_, fun he => ?_, fun ho => ?_⟩
  · -- the size
    have hB : 4 * n * (den (pOf mant E) * 2 ^ (128 + sOf mant E z)) ≤ mxOf mant z * num (pOf mant E) := by
      by_cases h0 : odd = 0
      · exact (c2 h0).2
      · exact Nat.le_of_lt (c3 (by omega)).2
    have hdn : d ≤ n := by omega
    refine Nat.lt_of_not_le fun hc => ?_
    have l1 : 4 * 10 ^ 17 * (den (pOf mant E) * 2 ^ (128 + sOf mant E z)) ≤ 4 * n * (den (pOf mant E) * 2 ^ (128 + sOf mant E z)) := Nat.mul_le_mul_right _ (by omega)
    have hmant : mant < 2 ^ 53 := by
      have : 2 ^ 11 ≤ 2 ^ z := Nat.pow_le_pow_right (by decide) z1
      refine Nat.lt_of_not_le fun hc => ?_
      have : 2 ^ 53 * 2 ^ 11 ≤ mant * 2 ^ z := Nat.mul_le_mul hc this
      omega
    have e4 : 4 * (mxOf mant z * num (pOf mant E)) = (4 * mant + 2) * (2 ^ z * num (pOf mant E)) := by
      rw [ex, pa, pc]; grind
    by_cases hs : isSkew mant E
    · have hm52 := hs.1
      have : (4 * mant + 2) * (2 ^ z * num (pOf mant E)) ≤ (4 * 2 ^ 52 + 2) * (60 * (den (pOf mant E) * 2 ^ (128 + sOf mant E z))) := Nat.mul_le_mul (by omega) w3
      generalize den (pOf mant E) * 2 ^ (128 + sOf mant E z) = D at *
      omega
    · have : (4 * mant + 2) * (2 ^ z * num (pOf mant E)) ≤ (4 * 2 ^ 53) * (40 * (den (pOf mant E) * 2 ^ (128 + sOf mant E z))) := Nat.mul_le_mul (by omega) (w4 hs)
      generalize den (pOf mant E) * 2 ^ (128 + sOf mant E z) = D at *
      omega
  · have := c2 (by omega)
    exact ⟨n1.1 this.1, n3.1 this.2⟩
  · have := c3 (by omega)
    exact ⟨n2.1 this.1, n4.1 this.2⟩

end Go.Proofs.YtdjjgnplpjoabaaGreatDoor.FB
