/- A number that lies in a float's interval is rounded to that float, whether it is given whole or as a quotient; its conditions: the float is finite and not zero. -/
import Derived.Test.YtdjjgnplpjoabaaGreatDoorParse
import Ieee.Arith
set_option maxRecDepth 100000
namespace Go.Proofs.YtdjjgnplpjoabaaGreatDoor.FB

/-- The word of a float that is not negative. -/
def fw (mant : Nat) (E : Int) : Nat := (E + 1074).toNat * 2 ^ 52 + mant

variable {mant : Nat} {E : Int} {z : Nat}

/-- To the nearest, halves to even. -/
theorem cut_even (n drop m : Nat) (hm : 1 ≤ m) (h : m % 2 = 0 → (2 * m - 1) * 2 ^ drop ≤ 2 * n ∧ 2 * n ≤ (2 * m + 1) * 2 ^ drop)
    (h' : m % 2 = 1 → (2 * m - 1) * 2 ^ drop < 2 * n ∧ 2 * n < (2 * m + 1) * 2 ^ drop) (neg : Bool) : Ieee.Toward.even.cut neg n drop = m := by
  have hG : 0 < 2 ^ drop := Nat.pow_pos (by decide)
  have h3 : (2 * m - 1) * 2 ^ drop ≤ 2 * n ∧ 2 * n ≤ (2 * m + 1) * 2 ^ drop := by
    by_cases ho : m % 2 = 0
    · exact h ho
    · have := h' (by omega); omega
  have hn : 0 < n := by
    have : 1 * 2 ^ drop ≤ (2 * m - 1) * 2 ^ drop := Nat.mul_le_mul_right _ (by omega)
    omega
  have hdrop : drop ≤ n.log2 + 2 := by
    refine Nat.le_of_not_lt fun hc => ?_
    have : n < 2 ^ (n.log2 + 1) := Nat.lt_log2_self
    have h4 : 2 ^ (n.log2 + 3) ≤ 2 ^ drop := Nat.pow_le_pow_right (by decide) hc
    have h5 : 2 ^ (n.log2 + 3) = 2 ^ (n.log2 + 1) * 4 := by rw [← Nat.pow_add (m := n.log2 + 1) (n := 2)]
    have : 1 * 2 ^ drop ≤ (2 * m - 1) * 2 ^ drop := Nat.mul_le_mul_right _ (by omega)
    omega
  unfold Ieee.Toward.cut
  simp only [Nat.min_eq_left hdrop, Nat.one_shiftLeft]
  have q1 := Nat.div_add_mod n (2 ^ drop)
  have q2 := Nat.mod_lt n hG
  generalize 2 ^ drop = G at *
  obtain ⟨q, hq⟩ : ∃ q, n / G = q := ⟨_, rfl⟩
  obtain ⟨r, hr⟩ : ∃ r, n % G = r := ⟨_, rfl⟩
  rw [hq, hr] at q1
  rw [hr] at q2
  rw [hq, hr]
  have e1 : (2 * m - 1) * G = 2 * (m * G) - G := by rw [Nat.sub_mul]; grind
  have e2 : (2 * m + 1) * G = 2 * (m * G) + G := by grind
  rw [e1, e2] at h h' h3
  rw [Nat.mul_comm] at q1
  have hmG : 1 * G ≤ m * G := Nat.mul_le_mul_right _ hm
  -- q is m or one below
  have c1 : q < m + 1 := by
    refine Nat.lt_of_not_le fun hc => ?_
    have : (m + 1) * G ≤ q * G := Nat.mul_le_mul_right _ hc
    rw [Nat.add_mul, Nat.one_mul] at this
    omega
  have c2 : m ≤ q + 1 := by
    refine Nat.le_of_not_lt fun hc => ?_
    have : (q + 2) * G ≤ m * G := Nat.mul_le_mul_right _ hc
    rw [Nat.add_mul] at this
    omega
  by_cases hqm : q = m
  · rw [hqm] at q1 ⊢
    have : (decide (G < 2 * r) || G == 2 * r && m % 2 == 1) = false := by
      rw [Bool.or_eq_false_iff, decide_eq_false_iff_not, Bool.and_eq_false_iff, beq_eq_false_iff_ne, beq_eq_false_iff_ne]
      constructor
      · omega
      · by_cases ho : m % 2 = 1
        · left
          have := h' ho
          omega
        · right; exact ho
    rw [this]
    rfl
  · have hqm1 : m = q + 1 := by omega
    have eq1 : m * G = q * G + G := by rw [hqm1, Nat.add_mul, Nat.one_mul]
    have : (decide (G < 2 * r) || G == 2 * r && q % 2 == 1) = true := by
      rw [Bool.or_eq_true, decide_eq_true_eq, Bool.and_eq_true, beq_iff_eq, beq_iff_eq]
      by_cases ho : m % 2 = 1
      · left
        have := h' ho
        omega
      · by_cases hh : G < 2 * r
        · left; exact hh
        · right; constructor <;> omega
    rw [this]
    exact hqm1.symm

theorem nearest_word (neg : Bool) (mag : Nat) (place : Int) (h : mag ≠ 0) :
    Ieee.double.nearest neg mag place = Ieee.double.word neg (min ((max (place + mag.log2 - 52) (-1074) - -1074).toNat * 2 ^ 52 + Ieee.Toward.even.cut neg (mag <<< (place - max (place + mag.log2 - 52) (-1074)).toNat) (max (place + mag.log2 - 52) (-1074) - place).toNat) (2047 * 2 ^ 52)) := by
  unfold Ieee.Format.nearest
  rw [if_neg h]
  rfl

/-- An end of the interval, in units of the last place. -/
theorem end_le (a b G n : Nat) (V L Q : Rat) (hab : a = 2 * b) (hQL : Q * L * 4 = 1) (hL : 0 < L) (en : (n : Rat) = V * L * G) (h : (a : Rat) * Q ≤ V) : b * G ≤ 2 * n := by
  refine Rat.natCast_le_natCast.1 ?_
  have h1 := (rle hL).2 h
  have hG : (0 : Rat) ≤ G := Rat.natCast_nonneg
  have h2 := Rat.mul_le_mul_of_nonneg_right h1 hG
  rw [hab, Rat.natCast_mul, two_cast] at h2
  rw [Rat.natCast_mul, Rat.natCast_mul, two_cast, en]
  have : 2 * (b : Rat) * Q * L * G = b * G / 2 := by
    have : 2 * (b : Rat) * Q * L * G = (Q * L * 4) * (b * G / 2) := by grind
    rw [this, hQL, Rat.one_mul]
  grind
theorem end_lt (a b G n : Nat) (V L Q : Rat) (hab : a = 2 * b) (hQL : Q * L * 4 = 1) (hL : 0 < L) (hG0 : (0 : Rat) < G) (en : (n : Rat) = V * L * G) (h : (a : Rat) * Q < V) : b * G < 2 * n := by
  refine Rat.natCast_lt_natCast.1 ?_
  have h1 := (rlt hL).2 h
  have h2 := (rlt hG0).2 h1
  rw [hab, Rat.natCast_mul, two_cast] at h2
  rw [Rat.natCast_mul, Rat.natCast_mul, two_cast, en]
  have : 2 * (b : Rat) * Q * L * G = b * G / 2 := by
    have : 2 * (b : Rat) * Q * L * G = (Q * L * 4) * (b * G / 2) := by grind
    rw [this, hQL, Rat.one_mul]
  grind
theorem end_ge (a b G n : Nat) (V L Q : Rat) (hab : a = 2 * b) (hQL : Q * L * 4 = 1) (hL : 0 < L) (en : (n : Rat) = V * L * G) (h : V ≤ (a : Rat) * Q) : 2 * n ≤ b * G := by
  refine Rat.natCast_le_natCast.1 ?_
  have h1 := (rle hL).2 h
  have hG : (0 : Rat) ≤ G := Rat.natCast_nonneg
  have h2 := Rat.mul_le_mul_of_nonneg_right h1 hG
  rw [hab, Rat.natCast_mul, two_cast] at h2
  rw [Rat.natCast_mul, Rat.natCast_mul, two_cast, en]
  have : 2 * (b : Rat) * Q * L * G = b * G / 2 := by
    have : 2 * (b : Rat) * Q * L * G = (Q * L * 4) * (b * G / 2) := by grind
    rw [this, hQL, Rat.one_mul]
  grind
theorem end_gt (a b G n : Nat) (V L Q : Rat) (hab : a = 2 * b) (hQL : Q * L * 4 = 1) (hL : 0 < L) (hG0 : (0 : Rat) < G) (en : (n : Rat) = V * L * G) (h : V < (a : Rat) * Q) : 2 * n < b * G := by
  refine Rat.natCast_lt_natCast.1 ?_
  have h1 := (rlt hL).2 h
  have h2 := (rlt hG0).2 h1
  rw [hab, Rat.natCast_mul, two_cast] at h2
  rw [Rat.natCast_mul, Rat.natCast_mul, two_cast, en]
  have : 2 * (b : Rat) * Q * L * G = b * G / 2 := by
    have : 2 * (b : Rat) * Q * L * G = (Q * L * 4) * (b * G / 2) := by grind
    rw [this, hQL, Rat.one_mul]
  grind

/-- A NUMBER IN A FLOAT's INTERVAL IS ROUNDED TO IT. -/
theorem nearest_near (h : Fin mant E z) (mag : Nat) (place : Int) (hm : mag ≠ 0) (hn : Near mant E (mag * 2 ^ place)) (neg : Bool) :
    Ieee.double.nearest neg mag place = Ieee.double.word neg (fw mant E) := by
  rw [nearest_word neg mag place hm]
  have hml := h.mant_lt
  have hE1 := h.E1; have hE2 := h.E2
  obtain ⟨t, _, _, _, _, _, _, hm1⟩ := h.parts
  obtain ⟨w1, w2⟩ := hn.weak
  have l1 : 2 ^ mag.log2 ≤ mag := Nat.log2_self_le hm
  have l2 : mag < 2 ^ (mag.log2 + 1) := Nat.lt_log2_self
  obtain ⟨V, hV⟩ : ∃ V : Rat, V = mag * 2 ^ place := ⟨_, rfl⟩
  rw [← hV] at w1 w2
  have hpl := p2 place
  have v1 : (2 : Rat) ^ ((mag.log2 : Int) + place) ≤ V := by
    have a : (2 : Rat) ^ (mag.log2 : Int) ≤ mag := by
      rw [Rat.zpow_natCast]
      have := Rat.natCast_le_natCast.2 l1
      rw [Rat.natCast_pow] at this
      exact this
    rw [Rat.zpow_add two0, hV]
    exact (rle hpl).2 a
  have v2 : V < (2 : Rat) ^ ((mag.log2 : Int) + 1 + place) := by
    have a : (mag : Rat) < (2 : Rat) ^ ((mag.log2 : Int) + 1) := by
      have e : ((mag.log2 : Int) + 1) = ((mag.log2 + 1 : Nat) : Int) := by omega
      rw [e, Rat.zpow_natCast]
      have := Rat.natCast_lt_natCast.2 l2
      rw [Rat.natCast_pow] at this
      exact this
    rw [Rat.zpow_add two0, hV]
    exact (rlt hpl).2 a
  have pE := p2 (E - 2)
  -- the last place
  have a1 : (mag.log2 : Int) + place < E + 53 := by
    refine p2_lt_of (rlt_of_le_of_lt v1 (rlt_of_le_of_lt w2 ?_))
    have e : (2 : Rat) ^ (E + 53) = ((2 ^ 55 : Nat) : Rat) * 2 ^ (E - 2) := by
      have : ((2 ^ 55 : Nat) : Rat) = 2 ^ (55 : Int) := by decide +kernel
      rw [this, ← Rat.zpow_add two0]; congr 1; omega
    rw [e]
    exact (rlt pE).2 (Rat.natCast_lt_natCast.2 (by omega))
  have a2 : -1074 < E → E + 51 < (mag.log2 : Int) + 1 + place := by
    intro hE
    have hge := h.mant_ge hE
    refine p2_lt_of (rlt_of_le_of_lt (Rat.le_trans ?_ w1) v2)
    have e : (2 : Rat) ^ (E + 51) = ((2 ^ 53 : Nat) : Rat) * 2 ^ (E - 2) := by
      have : ((2 ^ 53 : Nat) : Rat) = 2 ^ (53 : Int) := by decide +kernel
      rw [this, ← Rat.zpow_add two0]; congr 1; omega
    rw [e]
    exact (rle pE).2 (Rat.natCast_le_natCast.2 (by unfold below4; split <;> omega))
  have a3 : -1074 < E → mant ≠ 2 ^ 52 → E + 52 < (mag.log2 : Int) + 1 + place := by
    intro hE h52
    have hge := h.mant_ge hE
    refine p2_lt_of (rlt_of_le_of_lt (Rat.le_trans ?_ w1) v2)
    have e : (2 : Rat) ^ (E + 52) = ((2 ^ 54 : Nat) : Rat) * 2 ^ (E - 2) := by
      have : ((2 ^ 54 : Nat) : Rat) = 2 ^ (54 : Int) := by decide +kernel
      rw [this, ← Rat.zpow_add two0]; congr 1; omega
    rw [e]
    exact (rle pE).2 (Rat.natCast_le_natCast.2 (by unfold below4; split <;> omega))
  obtain ⟨last, hlast⟩ : ∃ l, l = max (place + mag.log2 - 52) (-1074) := ⟨_, rfl⟩
  rw [← hlast]
  -- what is cut
  obtain ⟨n, hnn⟩ : ∃ n, n = mag <<< (place - last).toNat := ⟨_, rfl⟩
  rw [← hnn]
  have en : (n : Rat) = V * 2 ^ (-last) * ((2 ^ (last - place).toNat : Nat) : Rat) := by
    have e1 := zpow_split 2 two0 (place - last)
    rw [show -(place - last) = last - place by omega] at e1
    have e2 : (2 : Rat) ^ (place - last) = 2 ^ place * 2 ^ (-last) := by rw [← Rat.zpow_add two0]; congr 1
    rw [hnn, Nat.shiftLeft_eq, Rat.natCast_mul, Rat.natCast_pow, Rat.natCast_pow, two_cast, e1, e2, hV]
    grind
  have hGp : (0 : Rat) < ((2 ^ (last - place).toNat : Nat) : Rat) := by
    have : 0 < 2 ^ (last - place).toNat := Nat.pow_pos (by decide)
    exact_mod_cast this
  have fin : ∀ k, k < 2047 * 2 ^ 52 → (last - -1074).toNat * 2 ^ 52 + Ieee.Toward.even.cut neg n (last - place).toNat = k → min ((last - -1074).toNat * 2 ^ 52 + Ieee.Toward.even.cut neg n (last - place).toNat) (2047 * 2 ^ 52) = k := by
    intro k hk he
    rw [he]; omega
  have hfw : fw mant E < 2047 * 2 ^ 52 := by unfold fw; omega
  congr 1
  refine fin _ hfw ?_
  have tonat : ∀ a b : Nat, ((a : Nat) : Rat) ≤ (b : Rat) → a ≤ b := fun a b => Rat.natCast_le_natCast.1
  have tonat' : ∀ a b : Nat, ((a : Nat) : Rat) < (b : Rat) → a < b := fun a b => Rat.natCast_lt_natCast.1
  by_cases hlE : last = E
  · -- the float's own place
    have cutm : Ieee.Toward.even.cut neg n (last - place).toNat = mant := by
      have sc : (2 : Rat) ^ (E - 2) * 2 ^ (-last) * 4 = 1 := by
        have : (4 : Rat) = 2 ^ (2 : Int) := by decide
        rw [this, ← Rat.zpow_add two0, ← Rat.zpow_add two0, hlE, show E - 2 + -E + 2 = 0 by omega]; rfl
      have pl := p2 (-last)
      have b4 : below4 mant E = 1 ∨ below4 mant E = 2 := by unfold below4; split <;> simp
      have b4m : below4 mant E = 1 → mant % 2 = 0 := by
        unfold below4
        split
        · rename_i hh; intro _; rw [hh.1]
        · intro hh; omega
      have c1 : ((4 * mant - 2 : Nat) : Rat) ≤ ((4 * mant - below4 mant E : Nat) : Rat) := Rat.natCast_le_natCast.2 (by omega)
      have pQ := p2 (E - 2)
      refine cut_even n _ mant hm1 (fun he => ?_) (fun ho => ?_) neg
      · exact ⟨end_le (4 * mant - 2) _ _ n V _ _ (by omega) sc pl en (Rat.le_trans ((rle pQ).2 c1) w1), end_ge (4 * mant + 2) _ _ n V _ _ (by omega) sc pl en w2⟩
      · have := hn.2 ho
        rw [← hV] at this
        exact ⟨end_lt (4 * mant - 2) _ _ n V _ _ (by omega) sc pl hGp en (rlt_of_le_of_lt ((rle pQ).2 c1) this.1), end_gt (4 * mant + 2) _ _ n V _ _ (by omega) sc pl hGp en this.2⟩
    rw [cutm]
    unfold fw
    rw [hlE]
    simp
  · -- the binade below: the float is a power of two
    have hE : -1074 < E := by omega
    have h52 : mant = 2 ^ 52 := by
      refine Classical.byContradiction fun hc => ?_
      have := a3 hE hc
      omega
    have hl1 : last = E - 1 := by
      have := a2 hE
      omega
    have hb4 : below4 mant E = 1 := by unfold below4; rw [if_pos ⟨h52, hE⟩]
    have cutm : Ieee.Toward.even.cut neg n (last - place).toNat = 2 ^ 53 := by
      have sc : (2 : Rat) ^ (E - 2) / 2 * 2 ^ (-last) * 4 = 1 := by
        have : (2 : Rat) ^ (E - 2) / 2 = 2 ^ (E - 3) := by
          rw [show E - 2 = E - 3 + 1 by omega, Rat.zpow_add two0]
          have : (2 : Rat) ^ (1 : Int) = 2 := by decide
          rw [this]; grind
        rw [this]
        have : (4 : Rat) = 2 ^ (2 : Int) := by decide
        rw [this, ← Rat.zpow_add two0, ← Rat.zpow_add two0, hl1, show E - 3 + -(E - 1) + 2 = 0 by omega]; rfl
      have pl := p2 (-last)
      have pQ := p2 (E - 2)
      rw [hb4, h52] at w1
      have up : V ≤ ((2 * (2 * 2 ^ 53 + 1) : Nat) : Rat) * (2 ^ (E - 2) / 2) := by
        have : V < (2 : Rat) ^ (E + 52) := by
          have e : (mag.log2 : Int) + 1 + place = E + 52 := by omega
          rw [← e]; exact v2
        have e : (2 : Rat) ^ (E + 52) = ((2 ^ 54 : Nat) : Rat) * 2 ^ (E - 2) := by
          have : ((2 ^ 54 : Nat) : Rat) = 2 ^ (54 : Int) := by decide +kernel
          rw [this, ← Rat.zpow_add two0]; congr 1; omega
        rw [e] at this
        have k1 : ((2 * (2 * 2 ^ 53 + 1) : Nat) : Rat) = ((2 ^ 54 : Nat) : Rat) * 2 + 2 := by decide +kernel
        rw [k1]
        grind
      have dn : ((2 * (2 * 2 ^ 53 - 1) : Nat) : Rat) * (2 ^ (E - 2) / 2) ≤ V := by
        have k1 : ((2 * (2 * 2 ^ 53 - 1) : Nat) : Rat) = ((4 * 2 ^ 52 - 1 : Nat) : Rat) * 2 := by decide +kernel
        rw [k1]
        have : ((4 * 2 ^ 52 - 1 : Nat) : Rat) * 2 * (2 ^ (E - 2) / 2) = ((4 * 2 ^ 52 - 1 : Nat) : Rat) * 2 ^ (E - 2) := by grind
        rw [this]
        exact w1
      refine cut_even n _ (2 ^ 53) (by decide) (fun _ => ⟨end_le _ _ _ n V _ _ rfl sc pl en dn, end_ge _ _ _ n V _ _ rfl sc pl en up⟩) (fun ho => by simp at ho) neg
    rw [cutm]
    unfold fw
    rw [hl1, h52]
    omega

/-- A word of a finite float, read. -/
theorem read_fw (h : Fin mant E z) : Ieee.double.read (fw mant E) = .number false mant E := by
  have hml := h.mant_lt
  have hE1 := h.E1; have hE2 := h.E2
  have hs : Ieee.double.signWeight = 2 ^ 63 := rfl
  have hb : Ieee.double.binade = 2 ^ 52 := rfl
  have hi : Ieee.double.infRung = 2047 * 2 ^ 52 := rfl
  have hl : Ieee.double.leastPlace = -1074 := rfl
  have hlt : fw mant E < 2047 * 2 ^ 52 := by unfold fw; omega
  unfold Ieee.Format.read
  simp only [hs, hb, hi, hl]
  rw [Nat.mod_eq_of_lt (show fw mant E < 2 ^ 63 by omega), Nat.div_eq_of_lt (show fw mant E < 2 ^ 63 by omega)]
  by_cases hsub : fw mant E < 2 ^ 52
  · rw [if_pos hsub]
    unfold fw at hsub ⊢
    have : E = -1074 := by omega
    subst this
    simp
  · rw [if_neg hsub, if_pos hlt]
    have hge : 2 ^ 52 ≤ mant := by
      by_cases hE : -1074 < E
      · exact h.mant_ge hE
      · unfold fw at hsub; omega
    have e1 : fw mant E % 2 ^ 52 = mant - 2 ^ 52 := by unfold fw; omega
    have e2 : fw mant E / 2 ^ 52 = (E + 1075).toNat := by unfold fw; omega
    rw [e1, e2]
    have e3 : 2 ^ 52 + (mant - 2 ^ 52) = mant := by omega
    have e4 : (-1074 : Int) + (((E + 1075).toNat - 1 : Nat) : Int) = E := by omega
    rw [e3, e4]
    rfl

/-- THE QUOTIENT OF TWO FLOATS THAT LIES IN A FLOAT's INTERVAL IS ROUNDED TO IT. -/
theorem div_near (h : Fin mant E z) (x y m n : Nat) (i j : Int) (hx : Ieee.double.read x = .number false m i) (hy : Ieee.double.read y = .number false n j) (hm : m ≠ 0) (hn0 : n ≠ 0)
    (hn : Near mant E (m * 2 ^ i / (n * 2 ^ j))) : Ieee.double.div x y = some (fw mant E) := by
  unfold Ieee.Format.div
  rw [hx, hy]
  unfold Ieee.Datum.quotient
  have hfb : Ieee.double.fractionBits + 2 = 54 := rfl
  simp only [if_neg hn0, hfb, Option.map_some, Option.some.injEq]
  obtain ⟨more, hmore⟩ : ∃ k, k = 54 + n.log2 - m.log2 := ⟨_, rfl⟩
  rw [← hmore]
  obtain ⟨D, hD⟩ : ∃ D, D = m <<< more := ⟨_, rfl⟩
  rw [← hD]
  obtain ⟨q, hq⟩ : ∃ q, q = D / n := ⟨_, rfl⟩
  obtain ⟨st, hst⟩ : ∃ st, st = (D % n != 0).toNat := ⟨_, rfl⟩
  rw [← hq, ← hst]
  show Ieee.double.nearest (false ^^ false) (2 * q + st) (i - j - more - 1) = _
  -- the quotient is long enough
  have hDge : 2 ^ 53 * n ≤ D := by
    have l1 : 2 ^ m.log2 ≤ m := Nat.log2_self_le hm
    have l2 : n < 2 ^ (n.log2 + 1) := Nat.lt_log2_self
    rw [hD, Nat.shiftLeft_eq]
    by_cases hc : m.log2 ≤ 54 + n.log2
    · have : 2 ^ m.log2 * 2 ^ more = 2 ^ 53 * 2 ^ (n.log2 + 1) := by
        rw [← Nat.pow_add, ← Nat.pow_add]; congr 1; omega
      have a : 2 ^ m.log2 * 2 ^ more ≤ m * 2 ^ more := Nat.mul_le_mul_right _ l1
      have b : 2 ^ 53 * n ≤ 2 ^ 53 * 2 ^ (n.log2 + 1) := Nat.mul_le_mul_left _ (Nat.le_of_lt l2)
      omega
    · have : 2 ^ 53 * 2 ^ (n.log2 + 1) = 2 ^ (54 + n.log2) := by rw [← Nat.pow_add]; congr 1; omega
      have c : 2 ^ (54 + n.log2) ≤ 2 ^ m.log2 := Nat.pow_le_pow_right (by decide) (by omega)
      have b : 2 ^ 53 * n ≤ 2 ^ 53 * 2 ^ (n.log2 + 1) := Nat.mul_le_mul_left _ (Nat.le_of_lt l2)
      have d : m * 1 ≤ m * 2 ^ more := Nat.mul_le_mul_left _ (Nat.pow_pos (by decide))
      omega
  have hnp : 0 < n := Nat.pos_of_ne_zero hn0
  have hq53 : 2 ^ 53 ≤ q := by rw [hq, Nat.le_div_iff_mul_le hnp]; exact hDge
  -- what the quotient tells
  have qd := Nat.div_add_mod D n
  have qm := Nat.mod_lt D hnp
  rw [← hq] at qd
  have tells : ∀ k : Nat, (k * n ≤ D ↔ 2 * k ≤ 2 * q + st) ∧ (k * n < D ↔ 2 * k < 2 * q + st) := by
    intro k
    have h1 : k * n ≤ D ↔ k ≤ q := by rw [hq, Nat.le_div_iff_mul_le hnp]
    have s01 : st = 0 ∧ D % n = 0 ∨ st = 1 ∧ D % n ≠ 0 := by
      rw [hst]
      by_cases hz : D % n = 0
      · left; simp [hz]
      · right; exact ⟨by simp [hz], hz⟩
    refine ⟨?_, ?_⟩
    · rw [h1]; omega
    · by_cases hkq : k = q
      · subst hkq
        rw [Nat.mul_comm] at qd
        omega
      · constructor
        · intro hh
          have := h1.1 (Nat.le_of_lt hh)
          omega
        · intro hh
          have h2 : k * n ≤ D := h1.2 (by omega)
          have h3 : (k + 1) * n ≤ q * n := Nat.mul_le_mul_right _ (by omega)
          rw [Nat.add_mul, Nat.one_mul] at h3
          rw [Nat.mul_comm] at qd
          omega
  -- in quotients: the unit is 2^U
  obtain ⟨U, hU⟩ : ∃ U : Int, U = i - j - more := ⟨_, rfl⟩
  rw [show i - j - more - 1 = U - 1 by omega]
  obtain ⟨V, hV⟩ : ∃ V : Rat, V = m * 2 ^ i / (n * 2 ^ j) := ⟨_, rfl⟩
  rw [← hV] at hn
  have hnr : (0 : Rat) < n := by exact_mod_cast hnp
  have eV : V * (n : Rat) = D * 2 ^ U := by
    have e1 : (D : Rat) = m * 2 ^ (more : Int) := by
      rw [hD, Nat.shiftLeft_eq, Rat.natCast_mul, Rat.natCast_pow, two_cast, Rat.zpow_natCast]
    have e2 : (2 : Rat) ^ i = 2 ^ (more : Int) * 2 ^ U * 2 ^ j := by
      rw [← Rat.zpow_add two0, ← Rat.zpow_add two0]; congr 1; omega
    rw [e1, hV, e2]
    have := p2 j
    have hj : (2 : Rat) ^ j ≠ 0 := by grind
    have hn' : (n : Rat) ≠ 0 := by grind
    generalize (2 : Rat) ^ j = J at *
    generalize (2 : Rat) ^ U = W at *
    generalize (2 : Rat) ^ (more : Int) = X at *
    grind
  have pU := p2 U
  have cmp : ∀ k : Nat, ((k : Rat) * 2 ^ U ≤ V ↔ ((2 * k : Nat) : Rat) ≤ ((2 * q + st : Nat) : Rat)) ∧ ((k : Rat) * 2 ^ U < V ↔ ((2 * k : Nat) : Rat) < ((2 * q + st : Nat) : Rat)) := by
    intro k
    obtain ⟨a, b⟩ := tells k
    have e : (k : Rat) * 2 ^ U * n = ((k * n : Nat) : Rat) * 2 ^ U := by rw [Rat.natCast_mul]; grind
    have c1 := @rle (k * 2 ^ U) V n hnr
    have c2 := @rlt (k * 2 ^ U) V n hnr
    rw [e, eV, rle pU, Rat.natCast_le_natCast] at c1
    rw [e, eV, rlt pU, Rat.natCast_lt_natCast] at c2
    rw [Rat.natCast_le_natCast, Rat.natCast_lt_natCast, ← a, ← b]
    exact ⟨c1.symm, c2.symm⟩
  clear tells
  obtain ⟨T, hT⟩ : ∃ T : Nat, T = 2 * q + st := ⟨_, rfl⟩
  rw [← hT] at cmp ⊢
  have hT54 : 2 ^ 54 ≤ T := by omega
  refine nearest_near h T (U - 1) (by omega) ?_ _
  -- the float's ends are multiples of the unit
  obtain ⟨w1, w2⟩ := hn.weak
  have hml := h.mant_lt
  obtain ⟨t, _, _, _, _, _, _, hm1⟩ := h.parts
  have pE := p2 (E - 2)
  have hUE : U < E := by
    have a : ((2 ^ 53 : Nat) : Rat) * 2 ^ U ≤ V := (cmp (2 ^ 53)).1.2 (Rat.natCast_le_natCast.2 (by omega))
    have b : V < ((2 ^ 55 : Nat) : Rat) * 2 ^ (E - 2) := rlt_of_le_of_lt w2 ((rlt pE).2 (Rat.natCast_lt_natCast.2 (by omega)))
    have c := rlt_of_le_of_lt a b
    have k1 : ((2 ^ 53 : Nat) : Rat) = 2 ^ (53 : Int) := by decide +kernel
    have k2 : ((2 ^ 55 : Nat) : Rat) = 2 ^ (55 : Int) := by decide +kernel
    rw [k1, k2, ← Rat.zpow_add two0, ← Rat.zpow_add two0] at c
    have := p2_lt_of c
    omega
  -- an end that is even in quarters
  have ends : ∀ a : Nat, ((2 * a : Nat) : Rat) * 2 ^ (E - 2) = ((a * 2 ^ (E - 1 - U).toNat : Nat) : Rat) * 2 ^ U ∧ ((2 * a : Nat) : Rat) * 2 ^ (E - 2) = ((2 * (a * 2 ^ (E - 1 - U).toNat) : Nat) : Rat) * 2 ^ (U - 1) := by
    intro a
    have e1 : (2 : Rat) ^ (E - 2) * 2 = 2 ^ ((E - 1 - U).toNat : Int) * 2 ^ U := by
      have : (2 : Rat) = 2 ^ (1 : Int) := by decide
      rw [show (2 : Rat) ^ (E - 2) * 2 = 2 ^ (E - 2) * 2 ^ (1 : Int) by rw [← this], ← Rat.zpow_add two0, ← Rat.zpow_add two0]; congr 1; omega
    have e2 : (2 : Rat) ^ U = 2 * 2 ^ (U - 1) := by
      have : (2 : Rat) = 2 ^ (1 : Int) := by decide
      rw [show (2 : Rat) * 2 ^ (U - 1) = 2 ^ (1 : Int) * 2 ^ (U - 1) by rw [← this], ← Rat.zpow_add two0]; congr 1; omega
    rw [Rat.natCast_mul, Rat.natCast_mul, Rat.natCast_mul, Rat.natCast_mul, Rat.natCast_pow, two_cast, ← Rat.zpow_natCast]
    constructor
    · grind
    · grind
  have pU1 := p2 (U - 1)
  have le_t : ∀ a : Nat, ((2 * a : Nat) : Rat) * 2 ^ (E - 2) ≤ V → ((2 * a : Nat) : Rat) * 2 ^ (E - 2) ≤ (T : Rat) * 2 ^ (U - 1) := by
    intro a hh
    obtain ⟨e1, e2⟩ := ends a
    rw [e1] at hh
    rw [e2]
    exact (rle pU1).2 ((cmp _).1.1 hh)
  have lt_t : ∀ a : Nat, ((2 * a : Nat) : Rat) * 2 ^ (E - 2) < V → ((2 * a : Nat) : Rat) * 2 ^ (E - 2) < (T : Rat) * 2 ^ (U - 1) := by
    intro a hh
    obtain ⟨e1, e2⟩ := ends a
    rw [e1] at hh
    rw [e2]
    exact (rlt pU1).2 ((cmp _).2.1 hh)
  have ge_t : ∀ a : Nat, V ≤ ((2 * a : Nat) : Rat) * 2 ^ (E - 2) → (T : Rat) * 2 ^ (U - 1) ≤ ((2 * a : Nat) : Rat) * 2 ^ (E - 2) := by
    intro a hh
    refine Rat.not_lt.1 fun hc => ?_
    obtain ⟨e1, e2⟩ := ends a
    rw [e2] at hc
    rw [e1] at hh
    exact Rat.not_lt.2 hh ((cmp _).2.2 ((rlt pU1).1 hc))
  have gt_t : ∀ a : Nat, V < ((2 * a : Nat) : Rat) * 2 ^ (E - 2) → (T : Rat) * 2 ^ (U - 1) < ((2 * a : Nat) : Rat) * 2 ^ (E - 2) := by
    intro a hh
    refine Rat.not_le.1 fun hc => ?_
    obtain ⟨e1, e2⟩ := ends a
    rw [e2] at hc
    rw [e1] at hh
    exact Rat.not_le.2 hh ((cmp _).1.2 ((rle pU1).1 hc))
  have hhi : 4 * mant + 2 = 2 * (2 * mant + 1) := by omega
  by_cases hsk : mant = 2 ^ 52 ∧ -1074 < E
  · have hb4 : below4 mant E = 1 := by unfold below4; rw [if_pos hsk]
    refine ⟨fun he => ⟨?_, ?_⟩, fun ho => by rw [hsk.1] at ho; simp at ho⟩
    · rw [hb4]
      rw [hb4] at w1
      by_cases hU2 : U = E - 1
      · have a : ((4 * mant - 1 : Nat) : Rat) ≤ ((2 ^ 54 : Nat) : Rat) := Rat.natCast_le_natCast.2 (by omega)
        have a2 := (rle pE).2 a
        have b : ((2 ^ 54 : Nat) : Rat) ≤ T := Rat.natCast_le_natCast.2 hT54
        have b2 := (rle pE).2 b
        rw [show U - 1 = E - 2 by omega]
        exact Rat.le_trans a2 b2
      · -- one place more
        have e1 : (2 : Rat) ^ (E - 2) = 2 ^ ((E - 2 - U).toNat : Int) * 2 ^ U := by
          rw [← Rat.zpow_add two0]; congr 1; omega
        have e2 : (2 : Rat) ^ U = 2 * 2 ^ (U - 1) := by
          have : (2 : Rat) = 2 ^ (1 : Int) := by decide
          rw [show (2 : Rat) * 2 ^ (U - 1) = 2 ^ (1 : Int) * 2 ^ (U - 1) by rw [← this], ← Rat.zpow_add two0]; congr 1; omega
        have e3 : ((4 * mant - 1 : Nat) : Rat) * 2 ^ (E - 2) = (((4 * mant - 1) * 2 ^ (E - 2 - U).toNat : Nat) : Rat) * 2 ^ U := by
          rw [e1, Rat.natCast_mul, Rat.natCast_pow, two_cast, ← Rat.zpow_natCast]; grind
        have e4 : ((4 * mant - 1 : Nat) : Rat) * 2 ^ (E - 2) = ((2 * ((4 * mant - 1) * 2 ^ (E - 2 - U).toNat) : Nat) : Rat) * 2 ^ (U - 1) := by
          rw [e3, e2, Rat.natCast_mul 2, two_cast]; grind
        rw [e3] at w1
        rw [e4]
        exact (rle pU1).2 ((cmp _).1.1 w1)
    · rw [hhi]; exact ge_t _ (by rw [← hhi]; exact w2)
  · have hb4 : below4 mant E = 2 := by unfold below4; rw [if_neg hsk]
    have hlo : 4 * mant - 2 = 2 * (2 * mant - 1) := by omega
    unfold Near at hn ⊢
    rw [hb4, hlo, hhi] at hn ⊢
    exact ⟨fun he => ⟨le_t _ (hn.1 he).1, ge_t _ (hn.1 he).2⟩, fun ho => ⟨lt_t _ (hn.2 ho).1, gt_t _ (hn.2 ho).2⟩⟩

end Go.Proofs.YtdjjgnplpjoabaaGreatDoor.FB
