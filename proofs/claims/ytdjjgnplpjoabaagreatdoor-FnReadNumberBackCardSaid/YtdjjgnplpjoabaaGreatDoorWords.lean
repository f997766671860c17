/- Words of floats: each finite one that is not zero has a whole number and a place; whole numbers below 2^53, powers of ten and the sign; its conditions: the bounds that stand in each statement. -/
import Derived.Test.YtdjjgnplpjoabaaGreatDoorFloat
set_option maxRecDepth 100000
namespace Go.Proofs.YtdjjgnplpjoabaaGreatDoor.FB
variable {mant : Nat} {E : Int} {z : Nat}

theorem near_self (h : Fin mant E z) : Near mant E (mant * 2 ^ E) := by
  have e : (mant : Rat) * 2 ^ E = ((4 * mant : Nat) : Rat) * 2 ^ (E - 2) := by
    have : (2 : Rat) ^ E = 4 * 2 ^ (E - 2) := by
      have : (4 : Rat) = 2 ^ (2 : Int) := by decide
      rw [this, ← Rat.zpow_add two0]; congr 1; omega
    rw [this, Rat.natCast_mul]
    have f : ((4 : Nat) : Rat) = 4 := rfl
    rw [f]; grind
  have pE := p2 (E - 2)
  obtain ⟨t, _, _, _, _, _, _, hm1⟩ := h.parts
  have hb : below4 mant E = 1 ∨ below4 mant E = 2 := by unfold below4; split <;> simp
  rw [e]
  unfold Near
  refine ⟨fun _ => ⟨(rle pE).2 (Rat.natCast_le_natCast.2 (by omega)), (rle pE).2 (Rat.natCast_le_natCast.2 (by omega))⟩, fun _ => ⟨(rlt pE).2 (Rat.natCast_lt_natCast.2 (by omega)), (rlt pE).2 (Rat.natCast_lt_natCast.2 (by omega))⟩⟩

/-- The whole number of a rung, its place. -/
def mantOf (r : Nat) : Nat := if r / 2 ^ 52 = 0 then r % 2 ^ 52 else 2 ^ 52 + r % 2 ^ 52
def placeOf (r : Nat) : Int := (if r / 2 ^ 52 = 0 then 1 else ((r / 2 ^ 52 : Nat) : Int)) - 1075

theorem shift_to_top (m : Nat) (h0 : 1 ≤ m) (h : m < 2 ^ 64) (z : Nat) (hz : z + (m.log2 + 1) = 64) : 2 ^ 63 ≤ m * 2 ^ z ∧ m * 2 ^ z < 2 ^ 64 := by
  have l1 : 2 ^ m.log2 ≤ m := Nat.log2_self_le (by omega)
  have l2 : m < 2 ^ (m.log2 + 1) := Nat.lt_log2_self
  have e1 : 2 ^ m.log2 * 2 ^ z = 2 ^ 63 := by rw [← Nat.pow_add]; congr 1; omega
  have e2 : 2 ^ (m.log2 + 1) * 2 ^ z = 2 ^ 64 := by rw [← Nat.pow_add]; congr 1; omega
  constructor
  · rw [← e1]; exact Nat.mul_le_mul_right _ l1
  · rw [← e2]; exact Nat.mul_lt_mul_of_pos_right l2 (Nat.pow_pos (by decide))

theorem of_rung (r : Nat) (h0 : 0 < r) (h : r < 2047 * 2 ^ 52) (z : Nat) (hz : z + ((mantOf r).log2 + 1) = 64) : Fin (mantOf r) (placeOf r) z ∧ fw (mantOf r) (placeOf r) = r := by
  have hm : 1 ≤ mantOf r ∧ mantOf r < 2 ^ 53 := by unfold mantOf; split <;> omega
  obtain ⟨a, b⟩ := shift_to_top (mantOf r) hm.1 (by omega) z hz
  have hl : (mantOf r).log2 ≤ 52 := by
    have : mantOf r < 2 ^ 53 := hm.2
    have := (Nat.log2_lt (by omega)).2 this
    omega
  refine ⟨⟨by omega, by omega, a, b, by unfold placeOf; split <;> omega, by unfold placeOf; split <;> omega, ?_⟩, ?_⟩
  · by_cases hs : r / 2 ^ 52 = 0
    · right; unfold placeOf; rw [if_pos hs]; decide
    · left
      have : 2 ^ 52 ≤ mantOf r := by unfold mantOf; rw [if_neg hs]; omega
      have : 52 ≤ (mantOf r).log2 := (Nat.le_log2 (by omega)).2 this
      omega
  · unfold fw mantOf placeOf
    split <;> omega

/-- A whole number below 2^53 is a float. -/
theorem whole_fin (M : Nat) (h0 : 1 ≤ M) (h : M < 2 ^ 53) : ∃ (m : Nat) (e : Int), Fin m e 11 ∧ (m : Rat) * 2 ^ e = M := by
  have hl : M.log2 ≤ 52 := by
    have := (Nat.log2_lt (by omega)).2 h
    omega
  have l1 : 2 ^ M.log2 ≤ M := Nat.log2_self_le (by omega)
  have l2 : M < 2 ^ (M.log2 + 1) := Nat.lt_log2_self
  refine ⟨M * 2 ^ (52 - M.log2), (M.log2 : Int) - 52, ⟨by decide, by decide, ?_, ?_, by omega, by omega, Or.inl rfl⟩, ?_⟩
  · have e1 : 2 ^ M.log2 * 2 ^ (52 - M.log2) = 2 ^ 52 := by rw [← Nat.pow_add]; congr 1; omega
    have : 2 ^ M.log2 * 2 ^ (52 - M.log2) ≤ M * 2 ^ (52 - M.log2) := Nat.mul_le_mul_right _ l1
    omega
  · have e1 : 2 ^ (M.log2 + 1) * 2 ^ (52 - M.log2) = 2 ^ 53 := by rw [← Nat.pow_add]; congr 1; omega
    have : M * 2 ^ (52 - M.log2) < 2 ^ (M.log2 + 1) * 2 ^ (52 - M.log2) := Nat.mul_lt_mul_of_pos_right l2 (Nat.pow_pos (by decide))
    omega
  · have e : (2 : Rat) ^ ((52 - M.log2 : Nat) : Int) * 2 ^ ((M.log2 : Int) - 52) = 1 := by
      rw [← Rat.zpow_add two0, show ((52 - M.log2 : Nat) : Int) + ((M.log2 : Int) - 52) = 0 by omega]; rfl
    rw [Rat.natCast_mul, Rat.natCast_pow, two_cast, ← Rat.zpow_natCast, Rat.mul_assoc, e, Rat.mul_one]

theorem whole_read (M : Nat) (h0 : 1 ≤ M) (h : M < 2 ^ 53) : ∃ (m : Nat) (e : Int), Ieee.double.read (Ieee.double.nearest false M 0) = .number false m e ∧ (m : Rat) * 2 ^ e = M ∧ m ≠ 0 := by
  obtain ⟨m, e, hf, he⟩ := whole_fin M h0 h
  have hn := nearest_near hf M 0 (by omega) (by
    have : (M : Rat) * 2 ^ (0 : Int) = m * 2 ^ e := by rw [he]; exact Rat.mul_one _
    rw [this]; exact near_self hf) false
  obtain ⟨t, _, _, _, _, _, _, hm1⟩ := hf.parts
  refine ⟨m, e, ?_, he, by omega⟩
  rw [hn]
  exact read_fw hf

def tenBits : List Nat := [4607182418800017408, 4621819117588971520, 4636737291354636288, 4652007308841189376, 4666723172467343360, 4681608360884174848, 4696837146684686336, 4711630319722168320, 4726483295884279808, 4741671816366391296, 4756540486875873280, 4771362005757984768, 4786511204640096256, 4801453603149578240, 4816244402031689728, 4831355200913801216, 4846369599423283200, 4861130398305394688, 4876203697187506176, 4891288408196988160, 4906019910204099648, 4921056587992461136, 4936209963552724370]

def tenOk (k : Nat) : Bool :=
  match Ieee.double.read (tenBits.getD k 0) with
  | .number false n j => Nat.beq (n * 2 ^ j.toNat) (10 ^ k * 2 ^ (-j).toNat) && !(Nat.beq n 0)
  | _ => false
theorem ten_all : (List.range 23).all tenOk = true := by kernel_rfl

theorem ten_read (k : Nat) (hk : k < 23) : ∃ (n : Nat) (j : Int), Ieee.double.read (tenBits.getD k 0) = .number false n j ∧ (n : Rat) * 2 ^ j = 10 ^ (k : Int) ∧ n ≠ 0 := by
  have h := List.all_eq_true.1 ten_all k (List.mem_range.2 hk)
  unfold tenOk at h
  split at h
  · rename_i n j hr
    simp only [Bool.and_eq_true, Nat.beq_eq, Bool.not_eq_true', Bool.eq_false_iff, ne_eq] at h
    refine ⟨n, j, hr, ?_, h.2⟩
    have e1 := zpow_split 2 two0 j
    have h1 : ((n * 2 ^ j.toNat : Nat) : Rat) = ((10 ^ k * 2 ^ (-j).toNat : Nat) : Rat) := by rw [h.1]
    have f : ((10 : Nat) : Rat) = 10 := rfl
    rw [Rat.natCast_mul, Rat.natCast_mul, Rat.natCast_pow, Rat.natCast_pow, Rat.natCast_pow, two_cast, f, e1] at h1
    rw [Rat.zpow_natCast]
    have hp : (0 : Rat) < 2 ^ (-j).toNat := by rw [← Rat.zpow_natCast]; exact p2 _
    generalize (2 : Rat) ^ (-j).toNat = t at *
    generalize (2 : Rat) ^ j = u at *
    have ht : t ≠ 0 := by grind
    grind
  · cases h

/-- The negative of a float by a product with -1. -/
theorem mul_neg_one (h : Fin mant E z) : Ieee.double.mul (fw mant E) 13830554455654793216 = some (2 ^ 63 + fw mant E) := by
  unfold Ieee.Format.mul
  have r1 : Ieee.double.read 13830554455654793216 = .number true 4503599627370496 (-52) := by decide +kernel
  rw [read_fw h, r1]
  show some (Ieee.double.nearest (false ^^ true) (mant * 4503599627370496) (E + -52)) = _
  obtain ⟨t, _, _, _, _, _, _, hm1⟩ := h.parts
  rw [nearest_near h (mant * 4503599627370496) (E + -52) (by omega) (by
    have e : ((mant * 4503599627370496 : Nat) : Rat) * 2 ^ (E + -52) = mant * 2 ^ E := by
      have : ((4503599627370496 : Nat) : Rat) = 2 ^ (52 : Int) := by decide +kernel
      have e2 : (2 : Rat) ^ E = 2 ^ (52 : Int) * 2 ^ (E + -52) := by rw [← Rat.zpow_add two0]; congr 1; omega
      rw [Rat.natCast_mul, this, e2]; grind
    rw [e]; exact near_self h)]
  rfl

theorem mul_neg_zero : Ieee.double.mul 0 13830554455654793216 = some (2 ^ 63) := by decide +kernel

end Go.Proofs.YtdjjgnplpjoabaaGreatDoor.FB
