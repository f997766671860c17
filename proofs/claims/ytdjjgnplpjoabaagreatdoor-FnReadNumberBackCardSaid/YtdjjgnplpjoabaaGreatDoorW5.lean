/- The shortest decimal of a finite float that is not zero lies in the interval of what is rounded to it; its conditions: the table of powers of ten is as the text lays it. -/
import Derived.Test.YtdjjgnplpjoabaaGreatDoorW4
import Derived.Test.YtdjjgnplpjoabaaGreatDoorShort
namespace Go.Proofs.YtdjjgnplpjoabaaGreatDoor
open Go.RowKit

theorem ten_one (P : Int) (d : Nat) : ((10 * d : Nat) : Rat) * 10 ^ (-P) = d * 10 ^ (1 - P) := by
  rw [show 1 - P = 1 + -P by omega, Rat.zpow_add FB.ten0, Rat.natCast_mul]
  have : (10 : Rat) ^ (1 : Int) = 10 := by decide
  have f : ((10 : Nat) : Rat) = 10 := rfl
  rw [this, f]
  grind

theorem SEnd.nat {U1 U2 U3 odd : Nat} {P d q : Int} (h : SEnd U1 U2 U3 odd P d q) (ho : odd ≤ U2) :
    ∃ dn n : Nat, d = dn ∧ ((n : Rat) * 10 ^ (-P) = dn * 10 ^ q) ∧ (q = 1 - P ∨ q = -P) ∧
     (((U1 + odd + 3) / 4 ≤ (U2 - odd) / 4 / 10 * 10 ∧ dn = (U2 - odd) / 4 / 10 ∧ n = 10 * dn) ∨
      ((U2 - odd) / 4 / 10 * 10 < (U1 + odd + 3) / 4 ∧ (U1 + odd + 3) / 4 < (U2 - odd) / 4 ∧ dn = (U3 + 1 + U3 / 4 % 2) / 4 ∧ n = dn) ∨
      ((U2 - odd) / 4 / 10 * 10 < (U1 + odd + 3) / 4 ∧ (U2 - odd) / 4 ≤ (U1 + odd + 3) / 4 ∧ dn = (U1 + odd + 3) / 4 ∧ n = dn)) := by
  rcases h with ⟨h1, h2, h3⟩ | ⟨h1, h2, h3, h4⟩ | ⟨h1, h2, h3, h4⟩
  · refine ⟨(U2 - odd) / 4 / 10, 10 * ((U2 - odd) / 4 / 10), by omega, ?_, Or.inl h3, Or.inl ⟨by omega, rfl, rfl⟩⟩
    rw [h3]; exact ten_one _ _
  · refine ⟨(U3 + 1 + U3 / 4 % 2) / 4, (U3 + 1 + U3 / 4 % 2) / 4, by omega, by rw [h4], Or.inr h4, Or.inr (Or.inl ⟨by omega, by omega, rfl, rfl⟩)⟩
  · refine ⟨(U1 + odd + 3) / 4, (U1 + odd + 3) / 4, by omega, by rw [h4], Or.inr h4, Or.inr (Or.inr ⟨by omega, by omega, rfl, rfl⟩)⟩

/-- What a float's shortest decimal is good for. -/
def Shortest (mant : Nat) (E : Int) (w : World) (e : Ending) (w' : World) : Prop :=
  ∃ (d : Nat) (q : Int), e = .returned (.tuple #[.int .u64 d, .int .i64 q]) ∧ 1 ≤ d ∧ d < 100000000000000000 ∧ FB.Near mant E (d * 10 ^ q) ∧ -330 ≤ q ∧ q ≤ 301 ∧ Below w.heap.size w w'

theorem shortest_of {mant : Nat} {E : Int} {z : Nat} (h : FB.Fin mant E z) (U1 U2 U3 odd : Nat) (w : World)
    (hU1 : FB.uOf mant E z (FB.mnOf mant E z) = U1) (hU2 : FB.uOf mant E z (FB.mxOf mant z) = U2) (hU3 : FB.uOf mant E z (mant * 2 ^ z) = U3) (hodd : odd = mant % 2) (b4 : 1 ≤ U2)
    (e : Ending) (w' : World) (hs : SPost U1 U2 U3 odd (FB.pOf mant E) w e w') : Shortest mant E w e w' := by
  obtain ⟨d, q, he, hS, hB⟩ := hs
  obtain ⟨dn, n, hd, hr, hq, hc⟩ := hS.nat (by omega)
  obtain ⟨c1, c2, c3⟩ := h.short U1 U2 U3 odd dn n hU1 hU2 hU3 hodd hc
  obtain ⟨P1, P2, _, _⟩ := h.P
  rw [hr] at c3
  subst hd
  exact ⟨dn, q, he, c1, by omega, c3, by omega, by omega, hB⟩

theorem tab_parts (p : Int) (h1 : -330 ≤ p) (h2 : p < 330) : 9223372036854775808 ≤ (FB.tabAt p).1 ∧ (FB.tabAt p).1 ≤ 18446744073709551615 ∧ (FB.tabAt p).2 ≤ 18446744073709551615 := by
  have := FB.tab_fits p h1 h2
  simp only [FB.tabFits, Bool.and_eq_true, Nat.ble_eq] at this
  omega

theorem odd_bit (mant z : Nat) (h : mant * 2 ^ z < 2 ^ 64) (hz1 : 11 ≤ z) : bits .and .i64 (((mant * 2 ^ z : Nat) : Int) / 2 ^ z) 1 = ((mant % 2 : Nat) : Int) := by
  have e : ((mant * 2 ^ z : Nat) : Int) / 2 ^ z = mant := by
    rw [div_pow_nat, Nat.mul_div_cancel _ (Nat.pow_pos (by decide))]
  have hm : mant < 2 ^ 53 := by
    have : 2 ^ 11 ≤ 2 ^ z := Nat.pow_le_pow_right (by decide) hz1
    refine Nat.lt_of_not_le fun hc => ?_
    have : 2 ^ 53 * 2 ^ 11 ≤ mant * 2 ^ z := Nat.mul_le_mul hc this
    omega
  rw [e, and_one_i64 _ (by omega) (by omega)]
  omega

theorem shortFloat_any {mant : Nat} {E : Int} {z : Nat} (h : FB.Fin mant E z) (w : World) (hw : 7 < w.heap.size) (hT : Tab w) :
    Calls Tryz.prog 43 #[.int .u64 ((mant * 2 ^ z : Nat) : Int), .int .i64 (E - z)] w (Shortest mant E w) := by
  obtain ⟨P1, P2, P3, P4⟩ := h.P
  obtain ⟨s1, s2, s3⟩ := h.s
  obtain ⟨bn1, bn2, bx⟩ := h.bounds
  obtain ⟨t, pa, pb, pc, t0, en, ex, hm⟩ := h.parts
  have lo := h.lo; have hi := h.hi; have z1 := h.z1; have z2 := h.z2; have E1 := h.E1; have E2 := h.E2
  have em : mant * 2 ^ z = (4 * mant) * 2 ^ (z - 2) := by rw [pa, pc]; grind
  have bx2 : 2 ≤ FB.mxOf mant z := by unfold FB.mxOf; omega
  obtain ⟨c1, c2⟩ := h.small _ _ en (by omega) bn2 (by omega)
  obtain ⟨c3, c4⟩ := h.small _ _ ex bx2 bx (by omega)
  obtain ⟨c5, c6⟩ := h.small _ _ em (by omega) hi (by omega)
  obtain ⟨T1, T2, T3⟩ := tab_parts (FB.pOf mant E) (by omega) P2
  obtain ⟨t0, t1⟩ := hT (FB.pOf mant E) (by omega) P2
  have hob := odd_bit mant z hi z1
  have ho1 : ((mant % 2 : Nat) : Int) ≤ 1 := by omega
  have ho0 : 0 ≤ ((mant % 2 : Nat) : Int) := by omega
  have hl : (FB.pOf mant E) * 108853 / 32768 = FB.lp (FB.pOf mant E) := rfl
  have hu : ∀ x, FB.usc x (FB.tabAt (FB.pOf mant E)).1 (FB.tabAt (FB.pOf mant E)).2 (FB.sOf mant E z) = FB.uOf mant E z x := fun _ => rfl
  have hi1 : (FB.pOf mant E + 348).toNat < 696 := by omega
  have hiI : FB.pOf mant E + 348 = ((FB.pOf mant E + 348).toNat : Int) := by omega
  have hLb : FB.pOf mant E = -(-FB.pOf mant E) := by omega
  have hsI : -(E - z + FB.lp (FB.pOf mant E) + 3) = ((FB.sOf mant E z : Nat) : Int) := by omega
  have hz63 : (2 : Nat) ^ z ≤ 2 ^ 63 := Nat.pow_le_pow_right (by decide) z2
  have fin : ∀ e w', SPost (FB.uOf mant E z (FB.mnOf mant E z)) (FB.uOf mant E z (FB.mxOf mant z)) (FB.uOf mant E z (mant * 2 ^ z)) ((mant % 2 : Nat) : Int) (-(-FB.pOf mant E)) w e w' → Shortest mant E w e w' := fun e w' hs =>
    shortest_of h _ _ _ _ w rfl rfl rfl rfl c3 e w' (by rw [← hLb] at hs; exact hs)
  by_cases hz : z = 11
  · subst hz
    have emx : ((mant * 2 ^ 11 : Nat) : Int) + 1024 = (FB.mxOf mant 11 : Nat) := by unfold FB.mxOf; omega
    rw [show (2 : Int) ^ 11 = 2048 from rfl] at hob
    have e11 : E - ((11 : Nat) : Int) + 11 = E := by omega
    have hm' : mant * 2 ^ 11 ≤ 18446744073709549568 := by omega
    by_cases hsk : FB.isSkew mant E
    · have hL : ((E - ((11 : Nat) : Int) + 11) * 631305 - 261663) / 2097152 = -FB.pOf mant E := by
        rw [e11]; unfold FB.pOf; rw [if_pos hsk]; unfold FB.sk; omega
      have hmn : ((mant * 2 ^ 11 : Nat) : Int) - 512 = (FB.mnOf mant E 11 : Nat) := by unfold FB.mnOf; rw [if_pos hsk]; omega
      have hsk1 := hsk.1; have hsk2 := hsk.2
      exact (short_skew (mant * 2 ^ 11) (E - ((11 : Nat) : Int)) w (by omega) hm' (by omega) (by omega) (by omega) (by rw [hsk1]; rfl) _ hob ho0 ho1 hw (-FB.pOf mant E) (FB.lp (FB.pOf mant E)) _ _ _ _ _ _ _ _ _
        hL (by rw [Int.neg_neg]; exact hl) (by omega) (by omega) (by omega) (by omega) (by rw [Int.neg_neg]; exact hiI) hi1 T1 T2 T3 hsI s3 hmn emx (by omega) (by omega) (by omega) (by omega) (by omega) (by omega) (hu _) (hu _) (hu _) c2 c4 c6 c3 t0 t1).mono fin
    · have hL : (E - ((11 : Nat) : Int) + 11) * 78913 / 262144 = -FB.pOf mant E := by
        rw [e11]; unfold FB.pOf; rw [if_neg hsk]; unfold FB.lg; omega
      have hmn : ((mant * 2 ^ 11 : Nat) : Int) - 1024 = (FB.mnOf mant E 11 : Nat) := by unfold FB.mnOf; rw [if_neg hsk]; omega
      by_cases h52 : mant = 2 ^ 52
      · have hE : E = -1074 := by
          have : ¬ -1074 < E := fun hh => hsk ⟨h52, hh⟩
          omega
        exact (short_least (mant * 2 ^ 11) (E - ((11 : Nat) : Int)) w (by omega) hm' (by omega) (by omega) (by omega) (by rw [h52]; rfl) _ hob ho0 ho1 hw (-FB.pOf mant E) (FB.lp (FB.pOf mant E)) _ _ _ _ _ _ _ _ _
          hL (by rw [Int.neg_neg]; exact hl) (by omega) (by omega) (by omega) (by omega) (by rw [Int.neg_neg]; exact hiI) hi1 T1 T2 T3 hsI s3 hmn emx (by omega) (by omega) (by omega) (by omega) (by omega) (by omega) (hu _) (hu _) (hu _) c2 c4 c6 c3 t0 t1).mono fin
      · exact (short_normal (mant * 2 ^ 11) (E - ((11 : Nat) : Int)) w (by omega) hm' (by omega) (by omega) (by rw [beq_eq_false_iff_ne]; omega) _ hob ho0 ho1 hw (-FB.pOf mant E) (FB.lp (FB.pOf mant E)) _ _ _ _ _ _ _ _ _
          hL (by rw [Int.neg_neg]; exact hl) (by omega) (by omega) (by omega) (by omega) (by rw [Int.neg_neg]; exact hiI) hi1 T1 T2 T3 hsI s3 hmn emx (by omega) (by omega) (by omega) (by omega) (by omega) (by omega) (hu _) (hu _) (hu _) c2 c4 c6 c3 t0 t1).mono fin
  · have hE : E = -1074 := by rcases h.sub with h3 | h3; exact absurd h3 hz; exact h3
    have hsk : ¬ FB.isSkew mant E := by unfold FB.isSkew; omega
    have hL : (E - (z : Int) + z) * 78913 / 262144 = -FB.pOf mant E := by
      rw [show E - (z : Int) + z = E by omega]; unfold FB.pOf; rw [if_neg hsk]; unfold FB.lg; omega
    have hp : IntKind.u64.wrap ((2 : Int) ^ (z - 1)) = ((2 ^ (z - 1) : Nat) : Int) := by
      rw [← wrap_u64_nat (2 ^ (z - 1)) (by omega)]; congr 1
    have hmn : IntKind.u64.wrap (((mant * 2 ^ z : Nat) : Int) - IntKind.u64.wrap (2 ^ (z - 1))) = (FB.mnOf mant E z : Nat) := by
      rw [hp, IntWalk.u64_in _ (by omega)]
      unfold FB.mnOf; rw [if_neg hsk]; omega
    have hmx : IntKind.u64.wrap (((mant * 2 ^ z : Nat) : Int) + IntKind.u64.wrap (2 ^ (z - 1))) = (FB.mxOf mant z : Nat) := by
      have := bx
      unfold FB.mxOf at this
      rw [hp, IntWalk.u64_in _ (by omega)]
      unfold FB.mxOf; omega
    have hob' : bits .and .i64 (wrap64 (((mant * 2 ^ z : Nat) : Int) / 2 ^ z)) 1 = ((mant % 2 : Nat) : Int) := by
      rw [← hob]; congr 1
      rw [div_pow_nat, Nat.mul_div_cancel _ (Nat.pow_pos (by decide))]
      have hm : mant < 2 ^ 53 := by
        have : 2 ^ 11 ≤ 2 ^ z := Nat.pow_le_pow_right (by decide) z1
        refine Nat.lt_of_not_le fun hc => ?_
        have : 2 ^ 53 * 2 ^ 11 ≤ mant * 2 ^ z := Nat.mul_le_mul hc this
        omega
      unfold wrap64; omega
    have hez : 11 + (-1085 - (E - (z : Int))) = (z : Int) := by omega
    by_cases h63 : mant * 2 ^ z = 9223372036854775808
    · exact (short_sub1 (mant * 2 ^ z) (E - (z : Int)) w z (by omega) z2 hez (by rw [beq_iff_eq]; omega) _ hob' ho0 ho1 hw (-FB.pOf mant E) (FB.lp (FB.pOf mant E)) _ _ _ _ _ _ _ _ _
          hL (by rw [Int.neg_neg]; exact hl) (by omega) (by omega) (by omega) (by omega) (by rw [Int.neg_neg]; exact hiI) hi1 T1 T2 T3 hsI s3 hmn hmx (by omega) (by omega) (by omega) (by omega) (by omega) (by omega) (hu _) (hu _) (hu _) c2 c4 c6 c3 t0 t1).mono fin
    · exact (short_sub (mant * 2 ^ z) (E - (z : Int)) w z (by omega) z2 hez (by rw [beq_eq_false_iff_ne]; omega) _ hob' ho0 ho1 hw (-FB.pOf mant E) (FB.lp (FB.pOf mant E)) _ _ _ _ _ _ _ _ _
          hL (by rw [Int.neg_neg]; exact hl) (by omega) (by omega) (by omega) (by omega) (by rw [Int.neg_neg]; exact hiI) hi1 T1 T2 T3 hsI s3 hmn hmx (by omega) (by omega) (by omega) (by omega) (by omega) (by omega) (hu _) (hu _) (hu _) c2 c4 c6 c3 t0 t1).mono fin

end Go.Proofs.YtdjjgnplpjoabaaGreatDoor
