/- Unrounded scaling by a table of powers of ten (two products of 64 bits) gives the whole part and the sticky bit of the exact product; its conditions: the number is a multiple of 2^7, or of 100 and the power's exponent is from 1 to 299, and at least five bits are dropped. -/
import Derived.Test.YtdjjgnplpjoabaaGreatDoorCert
set_option maxRecDepth 10000
namespace Go.Proofs.YtdjjgnplpjoabaaGreatDoor.FB

theorem far_int (N D a b c d x y : Int) (hb : 0 ≤ b) (hd : 0 ≤ d)
    (h1 : b * c = a * d + 1) (hx0 : 0 < x) (hx : x < b + d)
    (h3 : a * D ≤ b * N) (h4 : b * N = a * D ∨ D ≤ (b * N - a * D) * 2 ^ 68)
    (h5 : d * N < c * D) (h6 : D ≤ (c * D - d * N) * 2 ^ 68) :
    x * N = y * D ∨ D ≤ (x * N - y * D) * 2 ^ 68 ∨ D ≤ (y * D - x * N) * 2 ^ 68 := by
  obtain ⟨u, hu⟩ : ∃ u, u = x * c - y * d := ⟨_, rfl⟩
  obtain ⟨v, hv⟩ : ∃ v, v = y * b - x * a := ⟨_, rfl⟩
  obtain ⟨L, hL⟩ : ∃ L, L = b * N - a * D := ⟨_, rfl⟩
  obtain ⟨R, hR⟩ : ∃ R, R = c * D - d * N := ⟨_, rfl⟩
  have ex : x = u * b + v * d := by
    rw [hu, hv]; grind
  have ey : y = u * a + v * c := by
    rw [hu, hv]; grind
  have ev : x * N - y * D = u * L - v * R := by
    rw [hL, hR]; grind
  have hL0 : 0 ≤ L := by omega
  have hR0 : 0 < R := by omega
  have hL1 : L = 0 ∨ D ≤ L * 2 ^ 68 := by
    rcases h4 with h | h
    · left; omega
    · right; rw [hL]; exact h
  have hR1 : D ≤ R * 2 ^ 68 := by rw [hR]; exact h6
  clear hu hv hL hR h3 h4 h5 h6 h1
  by_cases hv0 : v ≤ 0
  · have hu1 : 1 ≤ u := by
      have : ¬ u ≤ 0 := by
        intro hu0
        have h1 : u * b ≤ 0 := Int.mul_nonpos_of_nonpos_of_nonneg hu0 hb
        have h2 : v * d ≤ 0 := Int.mul_nonpos_of_nonpos_of_nonneg hv0 hd
        omega
      omega
    have hvR : v * R ≤ 0 := Int.mul_nonpos_of_nonpos_of_nonneg hv0 (by omega)
    rcases hL1 with h | h
    · by_cases hvz : v = 0
      · left
        rw [hvz, h] at ev
        omega
      · right; left
        have h7 : v * R ≤ (-1) * R := Int.mul_le_mul_of_nonneg_right (by omega) (by omega)
        rw [h] at ev
        have h8 : x * N - y * D = - (v * R) := by omega
        rw [h8]
        omega
    · right; left
      have h7 : 1 * L ≤ u * L := Int.mul_le_mul_of_nonneg_right hu1 hL0
      rw [ev]
      omega
  · have hu0 : u ≤ 0 := by
      have : ¬ 1 ≤ u := by
        intro hu1
        have h1 : 1 * b ≤ u * b := Int.mul_le_mul_of_nonneg_right hu1 hb
        have h2 : 1 * d ≤ v * d := Int.mul_le_mul_of_nonneg_right (by omega) hd
        omega
      omega
    right; right
    have h7 : 1 * R ≤ v * R := Int.mul_le_mul_of_nonneg_right (by omega) (by omega)
    have h8 : u * L ≤ 0 := Int.mul_nonpos_of_nonpos_of_nonneg hu0 hL0
    have h9 : y * D - x * N = v * R - u * L := by omega
    rw [h9]
    omega

/-- What a certificate says of all numbers below its bound. -/
theorem far_sound {N D X a b c d : Nat} (h : far N D X a b c d = true) (hD : 0 < D) (x y : Nat) (hx : x < X) :
    x * N = y * D ∨ y * D + D / 2 ^ 68 ≤ x * N ∨ x * N + D / 2 ^ 68 ≤ y * D := by
  simp only [far, Bool.and_eq_true, Bool.or_eq_true, Nat.beq_eq, Nat.ble_eq] at h
  obtain ⟨⟨⟨⟨⟨h1, h2⟩, h3⟩, h4⟩, h5⟩, h6⟩ := h
  by_cases hx0 : x = 0
  · subst hx0
    by_cases hy : y = 0
    · left; simp [hy]
    · right; right
      have : 1 * D ≤ y * D := Nat.mul_le_mul_right _ (by omega)
      have := Nat.div_le_self D (2 ^ 68)
      omega
  have key := far_int (N : Int) D a b c d x y (by omega) (by omega) (by exact_mod_cast h1) (by omega) (by omega)
    (by exact_mod_cast h3) (by
      rcases h4 with h | h
      · left; exact_mod_cast h
      · right
        have : (((b * N - a * D : Nat)) : Int) = b * N - a * D := by
          rw [Int.ofNat_sub h3]; simp
        rw [← this]; exact_mod_cast h) (by exact_mod_cast h5) (by
        have : (((c * D - d * N : Nat)) : Int) = c * D - d * N := by
          rw [Int.ofNat_sub (by omega)]; simp
        rw [← this]; exact_mod_cast h6)
  have e1 : ((x * N : Nat) : Int) = (x : Int) * N := by simp
  have e2 : ((y * D : Nat) : Int) = (y : Int) * D := by simp
  rw [← e1, ← e2] at key
  generalize x * N = A at *
  generalize y * D = B at *
  omega

theorem den_pos (p : Int) : 0 < den p := Nat.mul_pos (Nat.pow_pos (by omega)) (Nat.pow_pos (by omega))
theorem num_pos (p : Int) : 0 < num p := Nat.mul_pos (Nat.pow_pos (by omega)) (Nat.pow_pos (by omega))

theorem checkA_at : ∀ (l : List (Nat × Nat × Nat × Nat)) (t : List (Nat × Nat)) (p : Int), checkA l t p = true → ∀ (i : Nat) (hi : i < l.length),
    ∃ h : i < t.length, far (num (p + i) * 128) (den (p + i) * 2 ^ 133) (2 ^ 57 + 1) l[i].1 l[i].2.1 l[i].2.2.1 l[i].2.2.2 = true ∧ tabFits (p + i) t[i] = true
  | [], _, _, _, _, hi => absurd hi (Nat.not_lt_zero _)
  | c :: r, [], p, h, i, hi => by simp [checkA] at h
  | c :: r, g :: t, p, h, i, hi => by
    simp only [checkA, Bool.and_eq_true] at h
    cases i with
    | zero => exact ⟨Nat.succ_pos _, by simpa using h.1.1, by simpa using h.1.2⟩
    | succ i =>
      obtain ⟨h1, h2, h3⟩ := checkA_at r t (p + 1) h.2 i (by simpa using hi)
      have e : p + 1 + (i : Int) = p + ((i + 1 : Nat) : Int) := by omega
      rw [e] at h2 h3
      exact ⟨by simpa using h1, by simpa using h2, by simpa using h3⟩

theorem checkB_at : ∀ (l : List (Nat × Nat × Nat × Nat)) (p : Int), checkB l p = true → ∀ (i : Nat) (hi : i < l.length),
    far (num (p + i) * 100) (den (p + i) * 2 ^ 133) (2 ^ 64 / 100 + 1) l[i].1 l[i].2.1 l[i].2.2.1 l[i].2.2.2 = true
  | [], _, _, _, hi => absurd hi (Nat.not_lt_zero _)
  | c :: r, p, h, i, hi => by
    simp only [checkB, Bool.and_eq_true] at h
    cases i with
    | zero => simpa using h.1
    | succ i =>
      have h2 := checkB_at r (p + 1) h.2 i (by simpa using hi)
      have e : p + 1 + (i : Int) = p + ((i + 1 : Nat) : Int) := by omega
      rw [e] at h2
      simpa using h2

/-- No multiple of 'x' times the power lies near a multiple of 2^133, but on it. -/
def Gap (p : Int) (x : Nat) : Prop := ∀ y : Nat, x * num p = y * (den p * 2 ^ 133) ∨ y * (den p * 2 ^ 133) + den p * 2 ^ 65 ≤ x * num p ∨ x * num p + den p * 2 ^ 65 ≤ y * (den p * 2 ^ 133)

theorem div68 (d : Nat) : d * 2 ^ 133 / 2 ^ 68 = d * 2 ^ 65 := by
  have : d * 2 ^ 133 = d * 2 ^ 65 * 2 ^ 68 := by rw [Nat.mul_assoc]
  rw [this, Nat.mul_div_cancel _ (by decide)]

theorem gapA (p : Int) (h1 : -330 ≤ p) (h2 : p < 330) (x : Nat) (hx : x ≤ 2 ^ 57) : Gap p (x * 128) := by
  intro y
  obtain ⟨_, h, _⟩ := checkA_at _ _ _ allA (p + 330).toNat (by rw [lengthA]; omega)
  have e : -330 + ((p + 330).toNat : Int) = p := by omega
  rw [e] at h
  have := far_sound h (Nat.mul_pos (den_pos p) (by decide)) x y (by omega)
  rw [div68] at this
  rw [Nat.mul_assoc, Nat.mul_comm 128]
  exact this

theorem gapB (p : Int) (h1 : 1 ≤ p) (h2 : p < 300) (x : Nat) (hx : x * 100 < 2 ^ 64) : Gap p (x * 100) := by
  intro y
  have h := checkB_at _ _ allB (p - 1).toNat (by rw [lengthB]; omega)
  have e : 1 + ((p - 1).toNat : Int) = p := by omega
  rw [e] at h
  have := far_sound h (Nat.mul_pos (den_pos p) (by decide)) x y (by omega)
  rw [div68] at this
  rw [Nat.mul_assoc, Nat.mul_comm 100]
  exact this

/-- What the table holds for a power. -/
theorem tab_fits (p : Int) (h1 : -330 ≤ p) (h2 : p < 330) : tabFits p (tabAt p) = true := by
  obtain ⟨hl, _, h⟩ := checkA_at _ _ _ allA (p + 330).toNat (by rw [lengthA]; omega)
  have e : -330 + ((p + 330).toNat : Int) = p := by omega
  rw [e] at h
  have e2 : tabAt p = (Go.Pinned.pow10Rows.drop 18)[(p + 330).toNat] := by
    unfold tabAt
    rw [List.getElem_drop, List.getD_eq_getElem?_getD, List.getElem?_eq_getElem (by rw [lengthT]; omega)]
    simp only [Option.getD_some]
    congr 1
    omega
  rw [e2]
  exact h

/-- 'n / d' cut to a whole number, its last bit set where something is left over. -/
def unr (n d : Nat) : Nat := n / d ||| (if n % d = 0 then 0 else 1)

/-- Unrounded scaling, as the code does it. -/
def usc (x hi lo s : Nat) : Nat :=
  if x * hi / 2 ^ 64 / 2 ^ s * 2 ^ s ≠ x * hi / 2 ^ 64 then x * hi / 2 ^ 64 / 2 ^ s ||| 1
  else (x * hi / 2 ^ 64 - (if x * hi % 2 ^ 64 < x * lo / 2 ^ 64 then 1 else 0)) / 2 ^ s ||| (if 1 < (x * hi % 2 ^ 64 + 2 ^ 64 - x * lo / 2 ^ 64) % 2 ^ 64 then 1 else 0)

/-- The bounds on the number that the two products make. -/
theorem scaled (A B d x hi lo W low2 : Nat) (hd : 0 < d) (hB : B = d * 2 ^ 64)
    (hx : x < 2 ^ 64) (hlo : lo < hi * 2 ^ 64)
    (hW : x * hi * 2 ^ 64 + low2 = W * 2 ^ 64 + x * lo) (hlow : low2 < 2 ^ 64)
    (g1 : A ≤ x * ((hi * 2 ^ 64 - lo) * d)) (g2 : x * ((hi * 2 ^ 64 - lo) * d) ≤ A + x * d) :
    A ≤ W * B ∧ W * B < A + 2 * B := by
  obtain ⟨Z, hZ⟩ : ∃ Z, Z = x * ((hi * 2 ^ 64 - lo) * d) := ⟨_, rfl⟩
  have e : Z + low2 * d = W * B := by
    have e1 : x * (hi * 2 ^ 64 - lo) + low2 = W * 2 ^ 64 := by
      have : x * (hi * 2 ^ 64 - lo) = x * hi * 2 ^ 64 - x * lo := by rw [Nat.mul_sub, Nat.mul_assoc]
      have : x * lo ≤ x * hi * 2 ^ 64 := by rw [Nat.mul_assoc]; exact Nat.mul_le_mul_left _ (by omega)
      omega
    rw [hZ, hB, ← Nat.mul_assoc, ← Nat.add_mul, e1]
    rw [Nat.mul_assoc, Nat.mul_comm (2 ^ 64)]
  have l1 : low2 * d < B := by
    rw [hB, Nat.mul_comm]
    exact Nat.mul_lt_mul_of_pos_left hlow hd
  have l2 : x * d < B := by
    rw [hB, Nat.mul_comm]
    exact Nat.mul_lt_mul_of_pos_left hx hd
  rw [← hZ] at g1 g2
  omega

theorem usc_eq (p : Int) (h1 : -330 ≤ p) (h2 : p < 330) (x s : Nat) (hx : x < 2 ^ 64) (h2x : 2 ≤ x) (hg : Gap p x) (hs : 5 ≤ s) :
    usc x (tabAt p).1 (tabAt p).2 s = unr (x * num p) (den p * 2 ^ (128 + s)) := by
  have hf := tab_fits p h1 h2
  obtain ⟨⟨hi, lo⟩, ht⟩ : ∃ t, tabAt p = t := ⟨_, rfl⟩
  rw [ht] at hf ⊢
  simp only [tabFits, Bool.and_eq_true, Nat.ble_eq] at hf
  obtain ⟨⟨⟨⟨f1, f2⟩, f3⟩, f4⟩, f5⟩ := hf
  simp only at f1 f2 f3 f4 f5 ⊢
  have hd := den_pos p
  generalize hnum : num p = n at *
  generalize hden : den p = d at *
  unfold Gap at hg
  rw [hnum, hden] at hg
  -- the parts of the two products
  have m2 : x * lo / 2 ^ 64 ≤ 2 ^ 64 - 2 := by
    have a1 : x * lo ≤ (2 ^ 64 - 1) * (2 ^ 64 - 1) := Nat.mul_le_mul (by omega) f3
    have a2 : x * lo / 2 ^ 64 < 2 ^ 64 - 1 := by
      rw [Nat.div_lt_iff_lt_mul (by decide)]
      exact Nat.lt_of_le_of_lt a1 (by decide)
    omega
  have hH1 : 1 ≤ x * hi / 2 ^ 64 := by
    rw [Nat.le_div_iff_mul_le (by decide)]
    have : 2 * 2 ^ 63 ≤ x * hi := Nat.mul_le_mul h2x f2
    omega
  have q1 := Nat.div_add_mod (x * hi) (2 ^ 64)
  have q2 := Nat.div_add_mod (x * lo) (2 ^ 64)
  have r1 := Nat.mod_lt (x * hi) (y := 2 ^ 64) (by decide)
  have r2 := Nat.mod_lt (x * lo) (y := 2 ^ 64) (by decide)
  unfold usc
  obtain ⟨H, hH⟩ : ∃ H, x * hi / 2 ^ 64 = H := ⟨_, rfl⟩
  obtain ⟨mid, hmid⟩ : ∃ m, x * hi % 2 ^ 64 = m := ⟨_, rfl⟩
  obtain ⟨mid2, hmid2⟩ : ∃ m, x * lo / 2 ^ 64 = m := ⟨_, rfl⟩
  obtain ⟨low2, hlow2⟩ : ∃ m, x * lo % 2 ^ 64 = m := ⟨_, rfl⟩
  rw [hH, hmid] at q1
  rw [hmid2, hlow2] at q2
  rw [hmid] at r1
  rw [hlow2] at r2
  rw [hmid2] at m2
  rw [hH] at hH1
  simp only [hH, hmid, hmid2]
  obtain ⟨B, hB⟩ : ∃ B, B = d * 2 ^ 64 := ⟨_, rfl⟩
  obtain ⟨A, hA⟩ : ∃ A, A = x * n := ⟨_, rfl⟩
  have hlo : lo < hi * 2 ^ 64 := by omega
  have key := scaled A B d x hi lo (H * 2 ^ 64 + mid - mid2) low2 hd hB hx hlo (by omega) r2
    (by rw [hA]; exact Nat.mul_le_mul_left _ f4) (by
      have : x * ((hi * 2 ^ 64 - lo) * d) ≤ x * (n + d) := Nat.mul_le_mul_left _ (by omega)
      rw [hA, ← Nat.mul_add]; exact this)
  obtain ⟨W, hW⟩ : ∃ W, W = H * 2 ^ 64 + mid - mid2 := ⟨_, rfl⟩
  rw [← hW] at key
  obtain ⟨k1, k2⟩ := key
  have hW' : W + mid2 = H * 2 ^ 64 + mid := by omega
  clear hW f4 f5 q1 q2 hH hmid hmid2 hlow2 hlo f1 f2 f3
  -- the unit of what is dropped
  obtain ⟨S, hS⟩ : ∃ S, S = 2 ^ s := ⟨_, rfl⟩
  have hS0 : 0 < S := by rw [hS]; exact Nat.pow_pos (by decide)
  obtain ⟨r, hr⟩ : ∃ r, r = S / 32 := ⟨_, rfl⟩
  have hSr : S = r * 32 := by
    rw [hr, hS]
    have : 2 ^ s = 2 ^ (s - 5) * 32 := by
      have : 2 ^ s = 2 ^ (s - 5 + 5) := by congr 1; omega
      rw [this, Nat.pow_add]
    omega
  have hB0 : 0 < B := by rw [hB]; exact Nat.mul_pos hd (by decide)
  have eU : d * 2 ^ (128 + s) = S * 2 ^ 64 * B := by
    rw [hB, hS, Nat.pow_add]
    grind
  rw [← hA, eU, ← hS]
  have gap : ∀ y : Nat, A = y * S * 2 ^ 64 * B ∨ (y * S * 2 ^ 64 + 2) * B ≤ A ∨ A + 2 * B ≤ y * S * 2 ^ 64 * B := by
    intro y
    have := hg (y * r)
    rw [← hA] at this
    have e1 : y * r * (d * 2 ^ 133) = y * S * 2 ^ 64 * B := by
      rw [hB, hSr]; grind
    have e2 : d * 2 ^ 65 = 2 * B := by rw [hB]; omega
    rw [e1, e2] at this
    rw [Nat.add_mul]
    exact this
  clear hg hB hA eU hr hSr hS
  have hT0 : 0 < S * 2 ^ 64 * B := Nat.mul_pos (Nat.mul_pos hS0 (by decide)) hB0
  obtain ⟨q, hq⟩ : ∃ q, q = A / (S * 2 ^ 64 * B) := ⟨_, rfl⟩
  have hq1 : q * (S * 2 ^ 64 * B) ≤ A := by rw [hq]; exact Nat.div_mul_le_self _ _
  have hq2 : A < (q + 1) * (S * 2 ^ 64 * B) := by
    rw [hq, Nat.mul_comm]; exact Nat.lt_mul_div_succ _ hT0
  have hz : A % (S * 2 ^ 64 * B) = 0 ↔ A = q * (S * 2 ^ 64 * B) := by
    have := Nat.div_add_mod A (S * 2 ^ 64 * B)
    rw [← hq, Nat.mul_comm] at this
    omega
  unfold unr
  rw [← hq]
  have b1 : ∀ a c : Nat, a * B < c * B ↔ a < c := fun a c => Nat.mul_lt_mul_right hB0
  have b2 : ∀ a c : Nat, a * B ≤ c * B ↔ a ≤ c := fun a c => Nat.mul_le_mul_right_iff hB0
  -- the four bounds on W
  have hex : A = q * (S * 2 ^ 64 * B) → q * S * 2 ^ 64 ≤ W ∧ W < q * S * 2 ^ 64 + 2 := by
    intro h
    have h' : A = q * S * 2 ^ 64 * B := by rw [h]; grind
    constructor
    · rw [← b2]; omega
    · rw [← b1, Nat.add_mul]; omega
  have hin : A ≠ q * (S * 2 ^ 64 * B) → q * S * 2 ^ 64 + 2 ≤ W ∧ W < (q + 1) * S * 2 ^ 64 := by
    intro h
    have e0 : q * S * 2 ^ 64 * B = q * (S * 2 ^ 64 * B) := by grind
    have e1 : (q + 1) * S * 2 ^ 64 * B = (q + 1) * (S * 2 ^ 64 * B) := by grind
    have g0 := gap q
    have g1 := gap (q + 1)
    rw [e0] at g0
    rw [e1] at g1
    constructor
    · rw [← b2]
      rcases g0 with g | g | g
      · exact absurd g h
      · omega
      · omega
    · rw [← b1, e1]
      rcases g1 with g | g | g
      · omega
      · have : (q + 1) * S * 2 ^ 64 * B ≤ ((q + 1) * S * 2 ^ 64 + 2) * B := Nat.mul_le_mul_right _ (by omega)
        omega
      · omega
  clear gap hq1 hq2 b1 b2 k1 k2 hq
  have eS : (q + 1) * S = q * S + S := by rw [Nat.add_mul, Nat.one_mul]
  obtain ⟨Q, hQ⟩ : ∃ Q, Q = q * S := ⟨_, rfl⟩
  rw [eS, ← hQ] at hin
  rw [← hQ] at hex
  have hdm := Nat.div_add_mod H S
  have hml := Nat.mod_lt H hS0
  by_cases hE : A = q * (S * 2 ^ 64 * B)
  · obtain ⟨w1, w2⟩ := hex hE
    have hHQ : H = Q := by omega
    have hHq : H / S = q := by rw [hHQ, hQ]; exact Nat.mul_div_cancel _ hS0
    rw [if_neg (by rw [hHq, ← hQ, hHQ]; simp), if_neg (by omega), if_pos (hz.2 hE), if_neg (by omega)]
    simp [hHq]
  · obtain ⟨w1, w2⟩ := hin hE
    rw [if_neg (c := A % (S * 2 ^ 64 * B) = 0) (fun h => hE (hz.1 h))]
    by_cases hm : H % S = 0
    · have e : H / S * S = H := by rw [Nat.mul_comm]; omega
      rw [if_neg (by omega)]
      have hk : H / S = q ∨ H / S = q + 1 := by
        have a1 : ¬ H / S < q := by
          intro h
          have : (H / S + 1) * S ≤ q * S := Nat.mul_le_mul_right _ h
          rw [Nat.add_mul, Nat.one_mul] at this
          omega
        have a2 : ¬ q + 1 < H / S := by
          intro h
          have : (q + 1 + 1) * S ≤ H / S * S := Nat.mul_le_mul_right _ h
          rw [Nat.add_mul, eS, Nat.one_mul] at this
          omega
        omega
      rcases hk with hk | hk
      · rw [hk, ← hQ] at e
        rw [if_neg (by omega), Nat.sub_zero, hk, if_pos (by omega)]
      · rw [hk, eS, ← hQ] at e
        rw [if_pos (by omega), if_pos (by omega)]
        have : (H - 1) / S = q := by
          rw [Nat.div_eq_iff hS0]
          rw [← hQ]
          omega
        rw [this]
    · have hk : H / S = q := by
        have a1 : ¬ H / S < q := by
          intro h
          have : (H / S + 1) * S ≤ q * S := Nat.mul_le_mul_right _ h
          rw [Nat.add_mul, Nat.one_mul, Nat.mul_comm] at this
          omega
        have a2 : ¬ q + 1 ≤ H / S := by
          intro h
          have : (q + 1) * S ≤ H / S * S := Nat.mul_le_mul_right _ h
          rw [eS, Nat.mul_comm (H / S)] at this
          omega
        omega
      rw [if_pos (by rw [Nat.mul_comm]; omega), hk]

end Go.Proofs.YtdjjgnplpjoabaaGreatDoor.FB
