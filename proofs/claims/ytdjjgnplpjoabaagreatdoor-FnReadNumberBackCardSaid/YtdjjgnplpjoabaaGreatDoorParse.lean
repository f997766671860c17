/- A decimal that lies in a float's interval is parsed as that float by unrounded scaling; its conditions: the decimal has at most 57 bits, or is a multiple of 100 below 2^64 with a positive exponent. -/
import Derived.Test.YtdjjgnplpjoabaaGreatDoorShort
set_option maxRecDepth 100000
namespace Go.Proofs.YtdjjgnplpjoabaaGreatDoor.FB

/-- A power of ten lies well inside of its two powers of two. -/
def chkT (p : Int) : Bool := Nat.ble (2 ^ 127 * den p) (num p) && Nat.ble (num p) ((2 ^ 128 - 2 ^ 104) * den p)
def chkTs : Nat → Int → Bool
  | 0, _ => true
  | n + 1, p => chkT p && chkTs n (p + 1)
theorem chkTs_all : chkTs 660 (-330) = true := by kernel_rfl
theorem chkTs_at : ∀ (n : Nat) (p : Int), chkTs n p = true → ∀ k : Nat, k < n → chkT (p + k) = true
  | 0, _, _, k, hk => absurd hk (Nat.not_lt_zero _)
  | n + 1, p, h, k, hk => by
    simp only [chkTs, Bool.and_eq_true] at h
    cases k with
    | zero => simpa using h.1
    | succ k =>
      have := chkTs_at n (p + 1) h.2 k (by omega)
      rw [show p + 1 + (k : Int) = p + ((k + 1 : Nat) : Int) by omega] at this
      exact this

theorem ten_bounds (p : Int) (h1 : -330 ≤ p) (h2 : p < 330) : (2 : Rat) ^ (lp p) ≤ 10 ^ p ∧ (10 : Rat) ^ p ≤ 2 ^ (lp p + 1) * (1 - 1 / 16777216) := by
  have h := chkTs_at _ _ chkTs_all (p + 330).toNat (by omega)
  rw [show -330 + ((p + 330).toNat : Int) = p by omega] at h
  simp only [chkT, Bool.and_eq_true, Nat.ble_eq] at h
  obtain ⟨a, b⟩ := h
  have a' := (frac_ge p 1 (2 ^ 127) 0).1 (by simpa using a)
  have b' := (frac_le p 1 (2 ^ 128 - 2 ^ 104) 0).1 (by simpa using b)
  have e1 : (2 : Rat) ^ (127 - lp p - (0 : Nat)) * 2 ^ (lp p) = 2 ^ (127 : Int) := by
    rw [← Rat.zpow_add two0]; congr 1; omega
  have e2 : (2 : Rat) ^ (lp p + 1) = 2 ^ (lp p) * 2 := by
    rw [Rat.zpow_add two0]; rfl
  have e127 : (2 : Rat) ^ (127 : Int) = ((2 ^ 127 : Nat) : Rat) := by decide +kernel
  have c1 : ((1 : Nat) : Rat) = 1 := rfl
  have c2 : ((2 ^ 128 - 2 ^ 104 : Nat) : Rat) = ((2 ^ 127 : Nat) : Rat) * (2 * (1 - 1 / 16777216)) := by decide +kernel
  have hp := p2 (lp p)
  have c3 : (0 : Rat) < ((2 ^ 127 : Nat) : Rat) := by decide +kernel
  rw [c1] at a' b'
  rw [c2] at b'
  rw [e127] at e1
  rw [e2]
  generalize (2 : Rat) ^ (127 - lp p - (0 : Nat)) = t at *
  generalize (2 : Rat) ^ (lp p) = r at *
  generalize (10 : Rat) ^ p = x at *
  generalize ((2 ^ 127 : Nat) : Rat) = K at *
  have a2 := (rle (c := r) hp).2 a'
  have b2 := (rle (c := r) hp).2 b'
  constructor
  · refine (rle c3).1 ?_
    have : 1 * x * t * r = x * K := by rw [← e1]; grind
    rw [this] at a2
    grind
  · refine (rle c3).1 ?_
    have : 1 * x * t * r = x * K := by rw [← e1]; grind
    rw [this] at b2
    grind

theorem p2_le {a b : Int} (h : a ≤ b) : (2 : Rat) ^ a ≤ 2 ^ b := by
  have e : (2 : Rat) ^ b = 2 ^ ((b - a).toNat : Int) * 2 ^ a := by rw [← Rat.zpow_add two0]; congr 1; omega
  have h1 : (1 : Rat) ≤ 2 ^ ((b - a).toNat : Int) := by
    rw [Rat.zpow_natCast]
    have : 1 ≤ 2 ^ (b - a).toNat := Nat.one_le_two_pow
    have := Rat.natCast_le_natCast.2 this
    rw [Rat.natCast_pow] at this
    exact this
  have hp := p2 a
  rw [e]
  have := (rle (c := (2 : Rat) ^ a) hp).2 h1
  rw [Rat.one_mul] at this
  exact this

theorem p2_lt_of {a b : Int} (h : (2 : Rat) ^ a < 2 ^ b) : a < b := by
  refine Int.lt_of_not_ge fun hh => ?_
  exact Rat.not_lt.2 (p2_le hh) h

variable {mant : Nat} {E : Int} {z : Nat}

theorem Fin.mant_lt (h : Fin mant E z) : mant < 2 ^ 53 := by
  have hi := h.hi
  have : 2 ^ 11 ≤ 2 ^ z := Nat.pow_le_pow_right (by decide) h.z1
  refine Nat.lt_of_not_le fun hc => ?_
  have : 2 ^ 53 * 2 ^ 11 ≤ mant * 2 ^ z := Nat.mul_le_mul hc this
  omega

theorem Fin.mant_ge (h : Fin mant E z) (hE : -1074 < E) : 2 ^ 52 ≤ mant := by
  have hz : z = 11 := by
    rcases h.sub with h3 | h3
    · exact h3
    · omega
  have lo := h.lo
  rw [hz] at lo
  omega

/-- The same on both sides of the interval, whether the float is even or odd. -/
theorem Near.weak {v : Rat} (h : Near mant E v) : ((4 * mant - below4 mant E : Nat) : Rat) * 2 ^ (E - 2) ≤ v ∧ v ≤ ((4 * mant + 2 : Nat) : Rat) * 2 ^ (E - 2) := by
  by_cases ho : mant % 2 = 0
  · exact h.1 ho
  · have := h.2 (by omega)
    exact ⟨Rat.le_of_lt this.1, Rat.le_of_lt this.2⟩

/-- The unrounded number that is parsed tells each comparison with an even number. -/
theorem parse_unr (M10 b s : Nat) (p e : Int) (hb64 : b ≤ 64) (hs : (s : Int) = 61 - b - lp p - e) (j : Nat) :
    (2 * j * (den p * 2 ^ (128 + s)) ≤ M10 * 2 ^ (64 - b) * num p ↔ ((2 * j : Nat) : Rat) ≤ M10 * 10 ^ p * 2 ^ (e + 2)) ∧
    (2 * j * (den p * 2 ^ (128 + s)) < M10 * 2 ^ (64 - b) * num p ↔ ((2 * j : Nat) : Rat) < M10 * 10 ^ p * 2 ^ (e + 2)) := by
  have key : ((M10 * 2 ^ (64 - b) : Nat) : Rat) * 10 ^ p * 2 ^ (127 - lp p - (128 + s : Nat)) = M10 * 10 ^ p * 2 ^ (e + 2) := by
    have f : ((2 : Nat) : Rat) = 2 := rfl
    have e1 : (2 : Rat) ^ (e + 2) = 2 ^ ((64 - b : Nat) : Int) * 2 ^ (127 - lp p - (128 + s : Nat)) := by
      rw [← Rat.zpow_add two0]; congr 1; omega
    rw [Rat.natCast_mul, Rat.natCast_pow, f, e1, ← Rat.zpow_natCast]
    grind
  rw [frac_ge, frac_gt, key]
  exact ⟨Iff.rfl, Iff.rfl⟩

theorem rlt_of_le_of_lt {a b c : Rat} (h : a ≤ b) (k : b < c) : a < c := by grind
theorem rlt_of_lt_of_le {a b c : Rat} (h : a < b) (k : b ≤ c) : a < c := by grind
theorem two_cast : ((2 : Nat) : Rat) = 2 := rfl

theorem parse_core (h : Fin mant E z) (M10 b : Nat) (p e e0 : Int) (hb : 1 ≤ b) (hb1 : 2 ^ (b - 1) ≤ M10) (hb2 : M10 < 2 ^ b) (hb64 : b ≤ 64)
    (hp1 : -330 ≤ p) (hp2 : p < 330) (hn : Near mant E (M10 * 10 ^ p)) (he0 : e0 = 53 - b - lp p) (he : e = min 1074 e0) :
    (E + e = 0 ∨ E + e = 1) ∧ 8 ≤ 61 - b - lp p - e ∧ 61 - b - lp p - e ≤ 63 := by
  obtain ⟨w1, w2⟩ := hn.weak
  obtain ⟨t1, t2⟩ := ten_bounds p hp1 hp2
  have hml := h.mant_lt
  obtain ⟨v, hv⟩ : ∃ v : Rat, v = M10 * 10 ^ p := ⟨_, rfl⟩
  rw [← hv] at w1 w2
  have hx : (0 : Rat) < 10 ^ p := p10 p
  -- where the decimal lies
  have v1 : v ≤ 2 ^ (54 - e0) * (1 - 1 / 16777216) := by
    have a : (M10 : Rat) ≤ 2 ^ (b : Int) := by
      rw [Rat.zpow_natCast]
      have := Rat.natCast_le_natCast.2 (Nat.le_of_lt hb2)
      rw [Rat.natCast_pow] at this
      exact this
    have a2 := (rle hx).2 a
    have e1 : (2 : Rat) ^ (54 - e0) = 2 ^ (b : Int) * 2 ^ (lp p + 1) := by
      rw [← Rat.zpow_add two0]; congr 1; omega
    have a3 := Rat.mul_le_mul_of_nonneg_left t2 (Rat.le_of_lt (p2 (b : Int)))
    rw [hv, e1]
    grind
  have v2 : (2 : Rat) ^ (52 - e0) ≤ v := by
    have a : (2 : Rat) ^ ((b - 1 : Nat) : Int) ≤ M10 := by
      rw [Rat.zpow_natCast]
      have := Rat.natCast_le_natCast.2 hb1
      rw [Rat.natCast_pow] at this
      exact this
    have a2 := (rle hx).2 a
    have e1 : (2 : Rat) ^ (52 - e0) = 2 ^ ((b - 1 : Nat) : Int) * 2 ^ (lp p) := by
      rw [← Rat.zpow_add two0]; congr 1; omega
    have a3 := Rat.mul_le_mul_of_nonneg_left t1 (Rat.le_of_lt (p2 ((b - 1 : Nat) : Int)))
    rw [hv, e1]
    exact Rat.le_trans a3 a2
  have s54 : (2 : Rat) ^ (54 - e0) = 2 ^ (-e0) * 18014398509481984 := by
    have : (18014398509481984 : Rat) = 2 ^ (54 : Int) := by decide +kernel
    rw [this, ← Rat.zpow_add two0]; congr 1; omega
  have s52 : (2 : Rat) ^ (52 - e0) = 2 ^ (-e0) * 4503599627370496 := by
    have : (4503599627370496 : Rat) = 2 ^ (52 : Int) := by decide +kernel
    rw [this, ← Rat.zpow_add two0]; congr 1; omega
  have q0 := p2 (-e0)
  have hle : e ≤ e0 := by omega
  have h1 := h.E1
  obtain ⟨t, _, _, _, _, _, _, hm1⟩ := h.parts
  -- not two places above
  have kA : E + e ≤ 1 := by
    refine Int.le_of_not_gt fun hk => ?_
    have hE : -1074 < E := by omega
    have hge := h.mant_ge hE
    have hc : 18014398509481983 ≤ 4 * mant - below4 mant E := by
      unfold below4
      by_cases h52 : mant = 2 ^ 52
      · rw [if_pos ⟨h52, hE⟩]; omega
      · split <;> omega
    have a1 : (18014398509481983 : Rat) ≤ ((4 * mant - below4 mant E : Nat) : Rat) := by
      have := Rat.natCast_le_natCast.2 hc
      exact this
    have a2 : (2 : Rat) ^ (-e0) ≤ 2 ^ (E - 2) := p2_le (by omega)
    have a3 := (rle (p2 (E - 2))).2 a1
    rw [s54] at v1
    grind
  have kB : 0 ≤ E + e := by
    refine Int.le_of_not_gt fun hk => ?_
    have hee : e = e0 := by omega
    have hc : 4 * mant + 2 ≤ 36028797018963966 := by omega
    have a1 : ((4 * mant + 2 : Nat) : Rat) ≤ 36028797018963966 := by
      have := Rat.natCast_le_natCast.2 hc
      exact this
    have a2 : (2 : Rat) ^ (E - 2) ≤ 2 ^ (-3 + -e0) := p2_le (by omega)
    have a3 := (rle (p2 (E - 2))).2 a1
    have a4 : (2 : Rat) ^ (-3 + -e0) = 2 ^ (-e0) / 8 := by
      rw [Rat.zpow_add two0]
      have : (2 : Rat) ^ (-3 : Int) = 1 / 8 := by decide +kernel
      rw [this]; grind
    rw [a4] at a2
    rw [s52] at v2
    grind
  refine ⟨by omega, by omega, ?_⟩
  -- the shift
  by_cases hc : e = e0
  · omega
  · have he74 : e = 1074 := by omega
    have hlow : (2 : Rat) ^ (-1075 : Int) ≤ v := by
      have hcc : 2 ≤ 4 * mant - below4 mant E := by
        unfold below4; split <;> omega
      have a1 : (2 : Rat) ≤ ((4 * mant - below4 mant E : Nat) : Rat) := by
        have := Rat.natCast_le_natCast.2 hcc
        exact this
      have a2 : (2 : Rat) ^ (-1076 : Int) ≤ 2 ^ (E - 2) := p2_le (by omega)
      have a3 := (rle (p2 (E - 2))).2 a1
      have a4 : (2 : Rat) ^ (-1075 : Int) = 2 * 2 ^ (-1076 : Int) := by
        rw [show (-1075 : Int) = 1 + -1076 by omega, Rat.zpow_add two0]; rfl
      rw [a4]
      grind
    have : (2 : Rat) ^ (-1075 : Int) < 2 ^ (54 - e0) := by
      have := p2 (54 - e0)
      grind
    have := p2_lt_of this
    omega

/-- Half to even of an unrounded number. -/
def rnd (u : Nat) : Nat := (u + 1 + u / 4 % 2) / 4
/-- One bit less, the last one kept. -/
def half (u : Nat) : Nat := u / 2 ||| u % 2

theorem half_eq (u : Nat) : half u = if u % 2 = 0 then u / 2 else u / 4 * 2 + 1 := by
  unfold half
  by_cases h : u % 2 = 0
  · rw [if_pos h, h, Nat.or_zero]
  · rw [if_neg h, show u % 2 = 1 by omega]
    have h1 := Nat.or_mod_two_eq_one (a := u / 2) (b := 1)
    have h3 : (u / 2 ||| 1) / 2 = u / 2 / 2 := by rw [Nat.or_div_two]; simp
    have h4 : (u / 2 ||| 1) % 2 = 1 := by rw [h1]; omega
    omega

/-- A PARSED DECIMAL IS THE FLOAT IN WHOSE INTERVAL IT LIES. -/
theorem parse_ok (h : Fin mant E z) (M10 b : Nat) (p e e0 : Int) (hb : 1 ≤ b) (hb1 : 2 ^ (b - 1) ≤ M10) (hb2 : M10 < 2 ^ b) (hb64 : b ≤ 64)
    (hp1 : -330 ≤ p) (hp2 : p < 330) (hn : Near mant E (M10 * 10 ^ p)) (he0 : e0 = 53 - b - lp p) (he : e = min 1074 e0)
    (hg : Gap p (M10 * 2 ^ (64 - b))) :
    ∃ s : Nat, (s : Int) = 61 - b - lp p - e ∧ s ≤ 63 ∧ M10 * 2 ^ (64 - b) < 2 ^ 64 ∧ 2 ^ 63 ≤ M10 * 2 ^ (64 - b) ∧
      ((E = -e ∧ usc (M10 * 2 ^ (64 - b)) (tabAt p).1 (tabAt p).2 s < 36028797018963966 ∧ rnd (usc (M10 * 2 ^ (64 - b)) (tabAt p).1 (tabAt p).2 s) = mant) ∨
       (E = 1 - e ∧ 36028797018963966 ≤ usc (M10 * 2 ^ (64 - b)) (tabAt p).1 (tabAt p).2 s ∧ usc (M10 * 2 ^ (64 - b)) (tabAt p).1 (tabAt p).2 s ≤ 72057594037927936 ∧ rnd (half (usc (M10 * 2 ^ (64 - b)) (tabAt p).1 (tabAt p).2 s)) = mant)) := by
  obtain ⟨hk, hs1, hs2⟩ := parse_core h M10 b p e e0 hb hb1 hb2 hb64 hp1 hp2 hn he0 he
  obtain ⟨s, hs⟩ : ∃ s : Nat, (s : Int) = 61 - b - lp p - e := ⟨(61 - b - lp p - e).toNat, by omega⟩
  have e64 : 2 ^ b * 2 ^ (64 - b) = 2 ^ 64 := by rw [← Nat.pow_add]; congr 1; omega
  have e63 : 2 ^ (b - 1) * 2 ^ (64 - b) = 2 ^ 63 := by rw [← Nat.pow_add]; congr 1; omega
  have hx : M10 * 2 ^ (64 - b) < 2 ^ 64 := by
    rw [← e64]; exact Nat.mul_lt_mul_of_pos_right hb2 (Nat.pow_pos (by decide))
  have hx2 : 2 ^ 63 ≤ M10 * 2 ^ (64 - b) := by
    rw [← e63]; exact Nat.mul_le_mul_right _ hb1
  refine ⟨s, hs, by omega, hx, hx2, ?_⟩
  have hu := usc_eq p hp1 hp2 (M10 * 2 ^ (64 - b)) s hx (by omega) hg (by omega)
  have hD : 0 < den p * 2 ^ (128 + s) := Nat.mul_pos (den_pos _) (Nat.pow_pos (by decide))
  have ev := unr_even (M10 * 2 ^ (64 - b) * num p) _ hD
  rw [← hu] at ev
  generalize usc (M10 * 2 ^ (64 - b)) (tabAt p).1 (tabAt p).2 s = u at *
  have ev' : ∀ j : Nat, (((2 * j : Nat) : Rat) ≤ M10 * 10 ^ p * 2 ^ (e + 2) ↔ 2 * j ≤ u) ∧ (((2 * j : Nat) : Rat) < M10 * 10 ^ p * 2 ^ (e + 2) ↔ 2 * j < u) := by
    intro j
    obtain ⟨a, b⟩ := parse_unr M10 b s p e hb64 hs j
    exact ⟨a.symm.trans (ev j).1, b.symm.trans (ev j).2⟩
  have hml := h.mant_lt
  obtain ⟨t, _, _, _, _, _, _, hm1⟩ := h.parts
  -- the interval in quarters
  have sc : (2 : Rat) ^ (E - 2) * 2 ^ (e + 2) = 2 ^ (E + e) := by rw [← Rat.zpow_add two0]; congr 1; omega
  have pe := p2 (e + 2)
  obtain ⟨w1, w2⟩ := hn.weak
  have w1' := (rle pe).2 w1
  have w2' := (rle pe).2 w2
  have sc2 : ∀ c : Rat, c * 2 ^ (E - 2) * 2 ^ (e + 2) = c * 2 ^ (E + e) := fun c => by rw [Rat.mul_assoc, sc]
  rw [sc2] at w1' w2'
  have st : mant % 2 = 1 → ((4 * mant - below4 mant E : Nat) : Rat) * 2 ^ (E + e) < M10 * 10 ^ p * 2 ^ (e + 2) ∧ (M10 * 10 ^ p * 2 ^ (e + 2) : Rat) < ((4 * mant + 2 : Nat) : Rat) * 2 ^ (E + e) := by
    intro ho
    obtain ⟨a, b⟩ := hn.2 ho
    have a' := (rlt pe).2 a
    have b' := (rlt pe).2 b
    rw [sc2] at a' b'
    exact ⟨a', b'⟩
  generalize (M10 : Rat) * 10 ^ p * 2 ^ (e + 2) = V at *
  rcases hk with hk | hk
  · left
    rw [hk] at w1' w2' st
    have one : (2 : Rat) ^ (0 : Int) = 1 := rfl
    rw [one, Rat.mul_one] at w1' w2'
    rw [one, Rat.mul_one, Rat.mul_one] at st
    have lo := (ev' (2 * mant - 1)).1
    have hi := (ev' (2 * mant + 1)).2
    rw [show 2 * (2 * mant - 1) = 4 * mant - 2 by omega] at lo
    rw [show 2 * (2 * mant + 1) = 4 * mant + 2 by omega] at hi
    have lo2 : 4 * mant - 2 ≤ u := lo.1 (Rat.le_trans (Rat.natCast_le_natCast.2 (by unfold below4; split <;> omega)) w1')
    have hi2 : ¬ 4 * mant + 2 < u := fun hh => Rat.not_lt.2 w2' (hi.2 hh)
    have stu : mant % 2 = 1 → 4 * mant - 2 < u ∧ u < 4 * mant + 2 := by
      intro ho
      obtain ⟨a, b⟩ := st ho
      have lo3 := (ev' (2 * mant - 1)).2
      have hi3 := (ev' (2 * mant + 1)).1
      rw [show 2 * (2 * mant - 1) = 4 * mant - 2 by omega] at lo3
      rw [show 2 * (2 * mant + 1) = 4 * mant + 2 by omega] at hi3
      refine ⟨lo3.1 (rlt_of_le_of_lt (Rat.natCast_le_natCast.2 (by unfold below4; split <;> omega)) a), ?_⟩
      refine Nat.lt_of_not_le fun hh => ?_
      exact Rat.not_le.2 b (hi3.2 hh)
    refine ⟨by omega, ?_, ?_⟩
    · by_cases ho : mant % 2 = 1
      · have := stu ho; omega
      · omega
    · unfold rnd
      by_cases ho : mant % 2 = 1
      · have := stu ho; omega
      · omega
  · right
    have hE : -1074 < E := by omega
    have hge := h.mant_ge hE
    rw [hk] at w1' w2' st
    have two : (2 : Rat) ^ (1 : Int) = ((2 : Nat) : Rat) := by decide
    rw [two, ← Rat.natCast_mul] at w1' w2'
    rw [two, ← Rat.natCast_mul, ← Rat.natCast_mul] at st
    have lo2 : 8 * mant - 4 ≤ u := by
      have lo := (ev' (4 * mant - 2)).1
      rw [show 2 * (4 * mant - 2) = 8 * mant - 4 by omega] at lo
      exact lo.1 (Rat.le_trans (Rat.natCast_le_natCast.2 (by unfold below4; split <;> omega)) w1')
    have hi2 : ¬ 8 * mant + 4 < u := by
      have hi := (ev' (4 * mant + 2)).2
      rw [show 2 * (4 * mant + 2) = 8 * mant + 4 by omega] at hi
      exact fun hh => Rat.not_lt.2 (Rat.le_trans w2' (Rat.natCast_le_natCast.2 (by omega))) (hi.2 hh)
    have lo52 : mant = 2 ^ 52 → 8 * mant - 2 ≤ u := by
      intro h52
      have lo := (ev' (4 * mant - 1)).1
      rw [show 2 * (4 * mant - 1) = 8 * mant - 2 by omega] at lo
      exact lo.1 (Rat.le_trans (Rat.natCast_le_natCast.2 (by unfold below4; rw [if_pos ⟨h52, hE⟩]; omega)) w1')
    have stu : mant % 2 = 1 → 8 * mant - 4 < u ∧ u < 8 * mant + 4 := by
      intro ho
      obtain ⟨a, b⟩ := st ho
      have lo3 := (ev' (4 * mant - 2)).2
      have hi3 := (ev' (4 * mant + 2)).1
      rw [show 2 * (4 * mant - 2) = 8 * mant - 4 by omega] at lo3
      rw [show 2 * (4 * mant + 2) = 8 * mant + 4 by omega] at hi3
      refine ⟨lo3.1 (rlt_of_le_of_lt (Rat.natCast_le_natCast.2 (by unfold below4; split <;> omega)) a), ?_⟩
      refine Nat.lt_of_not_le fun hh => ?_
      exact Rat.not_le.2 (rlt_of_lt_of_le b (Rat.natCast_le_natCast.2 (by omega))) (hi3.2 hh)
    have hge' : 36028797018963966 ≤ u := by
      by_cases h52 : mant = 2 ^ 52
      · have := lo52 h52; omega
      · omega
    refine ⟨by omega, hge', by omega, ?_⟩
    rw [half_eq]
    unfold rnd
    by_cases ho : mant % 2 = 1
    · have := stu ho
      split <;> omega
    · split <;> omega

end Go.Proofs.YtdjjgnplpjoabaaGreatDoor.FB
