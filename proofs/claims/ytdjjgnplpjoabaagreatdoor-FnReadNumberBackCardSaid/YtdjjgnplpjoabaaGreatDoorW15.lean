/- A decimal in a float's interval is parsed as that float, by scaling, by one division or as a whole number; its conditions: the tables are as the program's text lays them. -/
import Derived.Test.YtdjjgnplpjoabaaGreatDoorW14
namespace Go.Proofs.YtdjjgnplpjoabaaGreatDoor
open Go.RowKit

theorem and_top (r : Nat) (h : r < 2 ^ 53) : bits .and .u64 (r : Int) 4503599627370496 = if 2 ^ 52 ≤ r then 4503599627370496 else 0 := by
  have := and_u64 r (2 ^ 52) (by omega) (by decide)
  rw [show ((2 ^ 52 : Nat) : Int) = 4503599627370496 from rfl] at this
  rw [this]
  have key : r &&& 2 ^ 52 = if 2 ^ 52 ≤ r then 2 ^ 52 else 0 := by
    apply Nat.eq_of_testBit_eq
    intro i
    rw [Nat.testBit_and, Nat.testBit_two_pow]
    by_cases hi : 52 = i
    · subst hi
      by_cases h52 : 2 ^ 52 ≤ r
      · rw [if_pos h52, Nat.testBit_eq_decide_div_mod_eq, show r / 2 ^ 52 % 2 = 1 by omega]; decide
      · rw [if_neg h52, Nat.testBit_lt_two_pow (by omega)]; simp
    · by_cases h52 : 2 ^ 52 ≤ r
      · rw [if_pos h52, Nat.testBit_two_pow]; simp [hi]
      · rw [if_neg h52]; simp [hi]
  rw [key]
  by_cases h52 : 2 ^ 52 ≤ r
  · rw [if_pos h52, if_pos h52]; rfl
  · rw [if_neg h52, if_neg h52]; rfl

theorem andNot_top (c : Nat) (h : c < 2 ^ 52) : bits .andNot .u64 ((2 ^ 52 + c : Nat) : Int) 4503599627370496 = (c : Int) := by
  show IntKind.u64.wrap ((BitVec.ofInt 64 ((2 ^ 52 + c : Nat) : Int) &&& ~~~(BitVec.ofInt 64 4503599627370496)).toNat : Int) = _
  have e1 : BitVec.ofInt 64 4503599627370496 = BitVec.ofNat 64 (2 ^ 52) := ofInt_nat 64 (2 ^ 52)
  have e2 : 2 ^ 52 + c = 2 ^ 52 ||| c := by
    have := Nat.two_pow_add_eq_or_of_lt h 1
    simpa using this
  have e : BitVec.ofNat 64 (2 ^ 52 ||| c) &&& ~~~(BitVec.ofNat 64 (2 ^ 52)) = BitVec.ofNat 64 c := by
    apply BitVec.eq_of_getLsbD_eq
    intro i hi
    rw [BitVec.getLsbD_and, BitVec.getLsbD_not, BitVec.getLsbD_ofNat, BitVec.getLsbD_ofNat, BitVec.getLsbD_ofNat, Nat.testBit_or, Nat.testBit_two_pow]
    by_cases h52 : 52 = i
    · subst h52
      rw [Nat.testBit_lt_two_pow h]
      simp
    · simp [h52, hi]
  rw [e1, ofInt_nat, e2, e, BitVec.toNat_ofNat, Nat.mod_eq_of_lt (by omega)]
  exact wrap_u64_nat c (by omega)

theorem pack_any {mant : Nat} {E : Int} {z : Nat} (h : FB.Fin mant E z) (w : World) :
    Calls Tryz.prog 133 #[.int .u64 mant, .int .i64 E] w fun e' w' => e' = .returned (.tuple #[.float .f64 (FB.fw mant E), .nilIface]) ∧ w = w' := by
  have hml := h.mant_lt
  have ha := and_top mant hml
  have h1 := h.E1
  have h2 := h.E2
  by_cases h52 : 2 ^ 52 ≤ mant
  · rw [if_pos h52] at ha
    obtain ⟨c, rfl⟩ : ∃ c, mant = 2 ^ 52 + c := ⟨mant - 2 ^ 52, by omega⟩
    refine pack_norm (2 ^ 52 + c) (FB.fw (2 ^ 52 + c) E) E w ha h1 (by omega) ?_
    rw [andNot_top c (by omega)]
    have e : (1075 + E) * 4503599627370496 = ((2 ^ 52 * (E + 1075).toNat : Nat) : Int) := by omega
    rw [e, or_u64 c _ (by omega) (by omega), Nat.or_comm, ← Nat.two_pow_add_eq_or_of_lt (by omega : c < 2 ^ 52)]
    unfold FB.fw
    omega
  · rw [if_neg h52] at ha
    have hE : E = -1074 := by
      by_cases hh : -1074 < E
      · exact absurd (h.mant_ge hh) h52
      · omega
    have : FB.fw mant E = mant := by unfold FB.fw; rw [hE]; simp
    rw [this]
    exact pack_sub mant E w ha

theorem or_one (U : Nat) (h : U < 2 ^ 64) : bits .or .u64 (U : Int) (bits .and .u64 (U : Int) 1) = (U : Int) := by
  have h1 := and_u64 U 1 h (by decide)
  rw [show ((1 : Nat) : Int) = 1 from rfl] at h1
  rw [h1, or_u64 U _ h (Nat.lt_of_le_of_lt Nat.and_le_left h)]
  congr 1
  apply Nat.eq_of_testBit_eq
  intro i
  rw [Nat.testBit_or, Nat.testBit_and]
  cases U.testBit i <;> simp

theorem or_half (U : Nat) (h : U < 2 ^ 64) : bits .or .u64 ((U : Int) / 2) (bits .and .u64 (U : Int) 1) = (FB.half U : Int) := by
  rw [and_one_u64 _ (by omega) (by omega)]
  have e1 : (U : Int) / 2 = ((U / 2 : Nat) : Int) := by omega
  have e2 : (U : Int) % 2 = ((U % 2 : Nat) : Int) := by omega
  rw [e1, e2, or_u64 _ _ (by omega) (by omega)]
  rfl

theorem zero_or (R : Nat) (h : R < 2 ^ 64) : bits .or .u64 0 (R : Int) = (R : Int) := by
  have := or_u64 0 R (by decide) h
  rw [Nat.zero_or] at this
  exact this

/-- THE PARSING BY SCALING. -/
theorem parse64_any {mant : Nat} {E : Int} {z : Nat} (h : FB.Fin mant E z) (d : Nat) (p : Int) (w : World) (hd1 : 1 ≤ d) (hd2 : d < 2 ^ 64) (hp1 : -330 ≤ p) (hp2 : p < 330) (hn : FB.Near mant E (d * 10 ^ p))
    (hg : ∀ k, 2 ^ 63 ≤ d * 2 ^ k → d * 2 ^ k < 2 ^ 64 → FB.Gap p (d * 2 ^ k)) (hw : 7 < w.heap.size) (hT : Tab w) :
    Calls Tryz.prog 121 #[.int .u64 d, .int .i64 p, .int .u64 0] w (Parsed (FB.fw mant E) w) := by
  have hb := bitLen_eq d hd1 hd2
  have l1 : 2 ^ d.log2 ≤ d := Nat.log2_self_le (by omega)
  have l2 : d < 2 ^ (d.log2 + 1) := Nat.lt_log2_self
  have hb64 : d.log2 + 1 ≤ 64 := by
    have := (Nat.log2_lt (by omega)).2 hd2
    omega
  obtain ⟨b, hbb⟩ : ∃ b, b = d.log2 + 1 := ⟨_, rfl⟩
  rw [← hbb] at hb hb64 l2
  have hlp : FB.lp p = p * 108853 / 32768 := rfl
  obtain ⟨e0, he0⟩ : ∃ e0, e0 = 53 - (b : Int) - FB.lp p := ⟨_, rfl⟩
  obtain ⟨e, he⟩ : ∃ e, e = min 1074 e0 := ⟨_, rfl⟩
  have e63 : 2 ^ (b - 1) * 2 ^ (64 - b) = 2 ^ 63 := by rw [← Nat.pow_add]; congr 1; omega
  have e64 : 2 ^ b * 2 ^ (64 - b) = 2 ^ 64 := by rw [← Nat.pow_add]; congr 1; omega
  have hb1 : 2 ^ (b - 1) ≤ d := by rw [show b - 1 = d.log2 by omega]; exact l1
  have g1 : 2 ^ 63 ≤ d * 2 ^ (64 - b) := by rw [← e63]; exact Nat.mul_le_mul_right _ hb1
  have g2 : d * 2 ^ (64 - b) < 2 ^ 64 := by rw [← e64]; exact Nat.mul_lt_mul_of_pos_right l2 (Nat.pow_pos (by decide))
  obtain ⟨s, hs, hs63, hx1, hx2, hc⟩ := FB.parse_ok h d b p e e0 (by omega) hb1 l2 hb64 hp1 hp2 hn he0 he (hg _ g1 g2)
  obtain ⟨T1, T2, T3⟩ := tab_parts p hp1 hp2
  obtain ⟨t0, t1⟩ := hT p hp1 hp2
  have hl := FB.lp p
  have hml := h.mant_lt
  have hxw : IntKind.u64.wrap ((d : Int) * 2 ^ (64 - b)) = ((d * 2 ^ (64 - b) : Nat) : Int) := by
    rw [← wrap_u64_nat (d * 2 ^ (64 - b)) g2]
    congr 1
  have hR0 := zero_or mant (by omega)
  have lpb : -2000 ≤ p * 108853 / 32768 ∧ p * 108853 / 32768 ≤ 2000 := by omega
  rcases hc with ⟨c1, c2, c3⟩ | ⟨c1, c2, c2', c3⟩
  · exact parse_A d b p (FB.lp p) e E w (by omega) hb hb64 (by omega) (by omega) hlp.symm (by omega) (by omega) (by omega) (by omega) (by omega) (64 - b) (by omega) (by omega) hw _ _ _ s _ _ _ mant _ hxw
      (show Hid (p + 348 = ((p + 348).toNat : Int)) by show p + 348 = _; omega) (by omega) T1 T2 T3 (by show -(e - ((64 - b : Nat) : Int) + FB.lp p + 3) = (s : Int); omega) hs63 (by omega) (by omega) rfl c2
      (or_one _ (by omega)) (by omega) (by have := c3; unfold FB.rnd at this; show _ = _; omega) hR0 (by omega) (fun w => pack_any h w) t0 t1
  · have hh : FB.half (FB.usc (d * 2 ^ (64 - b)) (FB.tabAt p).1 (FB.tabAt p).2 s) ≤ 72057594037927936 := by
      rw [FB.half_eq]; split <;> omega
    exact parse_B d b p (FB.lp p) e E w (by omega) hb hb64 (by omega) (by omega) hlp.symm (by omega) (by omega) (by omega) (by omega) (by omega) (64 - b) (by omega) (by omega) hw _ _ _ s _ _ _ mant _ hxw
      (show Hid (p + 348 = ((p + 348).toNat : Int)) by show p + 348 = _; omega) (by omega) T1 T2 T3 (by show -(e - ((64 - b : Nat) : Int) + FB.lp p + 3) = (s : Int); omega) hs63 (by omega) (by omega) rfl c2 c2'
      (or_half _ (by omega)) hh (by have := c3; unfold FB.rnd at this; show _ = _; omega) hR0 (by omega) (fun w => pack_any h w) t0 t1

end Go.Proofs.YtdjjgnplpjoabaaGreatDoor
