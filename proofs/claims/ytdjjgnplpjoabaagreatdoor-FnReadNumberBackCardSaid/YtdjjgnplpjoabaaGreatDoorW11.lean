/- A finite float is written as a text that stands for a decimal in the float's interval; its conditions: the tables are as the program's text lays them. -/
import Derived.Test.YtdjjgnplpjoabaaGreatDoorW10
import Derived.Laws.BytesArg
namespace Go.Proofs.YtdjjgnplpjoabaaGreatDoor
open Go.RowKit

abbrev row24 : Array Value := #[.int .u8 0, .int .u8 0, .int .u8 0, .int .u8 0, .int .u8 0, .int .u8 0, .int .u8 0, .int .u8 0, .int .u8 0, .int .u8 0, .int .u8 0, .int .u8 0, .int .u8 0, .int .u8 0, .int .u8 0, .int .u8 0, .int .u8 0, .int .u8 0, .int .u8 0, .int .u8 0, .int .u8 0, .int .u8 0, .int .u8 0, .int .u8 0]
theorem run_make24 (w : World) : (Instr.makeSlice 43 (.int .i64 0) (.int .i64 (max 3 24))).run Tryz.prog w = .ok (.slice (some ⟨w.heap.size, 0, none⟩) 0 24) (w.alloc (.cells row24 5)) := by kernel_rfl

/-- The text of a finite float. -/
def TextOf (bs : Nat) (l : List Int) : Prop :=
  (bs % 2 ^ 63 = 0 ∧ l = sgn (decide (2 ^ 63 ≤ bs)) ++ [48]) ∨
  (∃ (mant : Nat) (E : Int) (z d nd nd' : Nat) (q : Int), FB.Fin mant E z ∧ FB.fw mant E = bs % 2 ^ 63 ∧ l = sgn (decide (2 ^ 63 ≤ bs)) ++ body (fun j => ((48 + digAt d nd j : Nat) : Int)) nd' (nd + q) ∧
    Lib.nDigits d = nd ∧ 1 ≤ d ∧ d < 100000000000000000 ∧ 1 ≤ nd' ∧ nd' ≤ nd ∧ nd ≤ 17 ∧ d % 10 ^ (nd - nd') = 0 ∧ FB.Near mant E (d * 10 ^ q) ∧ -330 ≤ q ∧ q ≤ 301)

/-- Behind the formatting into a slice. -/
def Wrote64 (B bs : Nat) (w : World) (e : Ending) (w' : World) : Prop := ∃ v l, e = .returned v ∧ w'.ownsRow B 5 1 v l.length (cellsOf l) ∧ Below B w w' ∧ TextOf bs l ∧ 1 ≤ l.length

theorem body_pos (D : Nat → Int) (nd : Nat) (dp : Int) (h : 1 ≤ nd) : 1 ≤ (body D nd dp).length := by
  unfold body
  split
  · simp
  · split
    · simp; omega
    · simp [digs_length]; omega

theorem bitLen_log2 : ∀ (f m : Nat), 1 ≤ m → m < 2 ^ f → Lib.bitLenAux f m = m.log2 + 1
  | 0, m, h1, h2 => by simp at h2; omega
  | f + 1, m, h1, h2 => by
    rw [Lib.bitLenAux, if_neg (by omega)]
    by_cases hm : m = 1
    · subst hm
      cases f with
      | zero => rfl
      | succ f => rw [show 1 / 2 = 0 from rfl, Lib.bitLenAux, if_pos rfl]; rfl
    · rw [bitLen_log2 f (m / 2) (by omega) (by rw [Nat.pow_succ] at h2; omega), Nat.log2_def m, if_pos (by omega)]
      omega

theorem bitLen_eq (m : Nat) (h1 : 1 ≤ m) (h2 : m < 2 ^ 64) : Lib.bitLen m = m.log2 + 1 := bitLen_log2 64 m h1 h2

theorem ftoa_any (B bs : Nat) (v0 : Value) (w : World) (hb : bs < 2 ^ 64) (hfin : bs % 2 ^ 63 < 2047 * 2 ^ 52) (hT : Tabs w) (hown : w.ownsRow B 5 1 v0 0 []) (hB : B ≤ w.heap.size) :
    Calls Tryz.prog 21 #[v0, .float .f64 bs, .int .u8 102, .int .i64 (-1)] w (Wrote64 B bs w) := by
  have hneg : ((bs : Int) / 9223372036854775808 != 0) = decide (2 ^ 63 ≤ bs) := by
    rw [Bool.eq_iff_iff, bne_iff_ne, decide_eq_true_eq]
    omega
  have hG : bits .and .u64 (bs : Int) 4503599627370495 = ((bs % 2 ^ 52 : Nat) : Int) := and_low_u64 bs 52 hb (by decide)
  have hF : bits .and .i64 ((bs : Int) / 4503599627370496) 2047 = ((bs / 2 ^ 52 % 2 ^ 11 : Nat) : Int) := by
    have e : ((bs : Int) / 4503599627370496) = ((bs / 2 ^ 52 : Nat) : Int) := by omega
    rw [e]
    exact and_low_i64 (bs / 2 ^ 52) 11 (by omega) (by decide)
  obtain ⟨r, hr⟩ : ∃ r, r = bs % 2 ^ 63 := ⟨_, rfl⟩
  have e1 : bs / 2 ^ 52 % 2 ^ 11 = r / 2 ^ 52 := by omega
  have e2 : bs % 2 ^ 52 = r % 2 ^ 52 := by omega
  rw [e1] at hF
  rw [e2] at hG
  rw [← hr] at hfin
  by_cases h0 : r = 0
  · subst h0
    refine (ftoa_zero B (decide (2 ^ 63 ≤ bs)) bs v0 w (by omega) hneg hF hG hB hown).mono fun e w' ⟨v, he, h1, h2⟩ => ⟨v, _, he, h1, h2, Or.inl ⟨hr.symm, rfl⟩, by simp⟩
  · have hm : 1 ≤ FB.mantOf r ∧ FB.mantOf r < 2 ^ 53 := by unfold FB.mantOf; split <;> omega
    have hl : (FB.mantOf r).log2 ≤ 52 := by
      have := (Nat.log2_lt (by omega)).2 hm.2
      omega
    obtain ⟨z, hz⟩ : ∃ z, z + ((FB.mantOf r).log2 + 1) = 64 := ⟨64 - ((FB.mantOf r).log2 + 1), by omega⟩
    obtain ⟨hFin, hfw⟩ := FB.of_rung r (by omega) hfin z hz
    have hL := bitLen_eq (FB.mantOf r) hm.1 (by omega)
    have hsh : IntKind.u64.wrap ((FB.mantOf r : Int) * 2 ^ z) = ((FB.mantOf r * 2 ^ z : Nat) : Int) := by
      rw [← wrap_u64_nat (FB.mantOf r * 2 ^ z) hFin.hi]
      congr 1
    have fin : ∀ e w', Ftoa B (decide (2 ^ 63 ≤ bs)) (FB.mantOf r) (FB.placeOf r) w e w' → Wrote64 B bs w e w' := by
      rintro e w' ⟨d, nd, nd', q, v, he, h1, h2, h3, h4, h5, h6, h7, h8, h9, h10, h11, h12⟩
      refine ⟨v, _, he, h1, h2, Or.inr ⟨_, _, z, d, nd, nd', q, hFin, by rw [hfw, hr], rfl, h3, h4, h5, h6, h7, h8, h9, h10, h11, h12⟩, ?_⟩
      have := body_pos (fun j => ((48 + digAt d nd j : Nat) : Int)) nd' (nd + q) h6
      rw [List.length_append]
      omega
    by_cases hs : r / 2 ^ 52 = 0
    · have em : FB.mantOf r = r % 2 ^ 52 := by unfold FB.mantOf; rw [if_pos hs]
      have eE : FB.placeOf r = -1074 := by unfold FB.placeOf; rw [if_pos hs]; rfl
      rw [hs] at hF
      rw [← em] at hG
      exact (ftoa_sub B (decide (2 ^ 63 ≤ bs)) bs (FB.mantOf r) _ z (FB.placeOf r) v0 w (by omega) hneg hF hG hm.1 (by omega) hL (by omega) hFin.z2 hsh hFin eE hT hown hB).mono fin
    · have hor : bits .or .u64 ((r % 2 ^ 52 : Nat) : Int) 4503599627370496 = (FB.mantOf r : Int) := by
        have := or_u64 (r % 2 ^ 52) (2 ^ 52) (by omega) (by decide)
        have e : r % 2 ^ 52 ||| 2 ^ 52 = FB.mantOf r := by
          unfold FB.mantOf
          rw [if_neg hs, Nat.or_comm, ← Nat.two_pow_add_eq_or_of_lt (by omega : r % 2 ^ 52 < 2 ^ 52) 1]
        rw [e] at this
        exact this
      have eE : FB.placeOf r = ((r / 2 ^ 52 : Nat) : Int) - 1075 := by unfold FB.placeOf; rw [if_neg hs]
      exact (ftoa_norm B (decide (2 ^ 63 ≤ bs)) bs (r / 2 ^ 52) (r % 2 ^ 52) (FB.mantOf r) _ z (FB.placeOf r) v0 w (by omega) hneg hF hG (by omega) (by omega) hor hm.1 (by omega) hL (by omega) hFin.z2 hsh hFin eE hT hown hB).mono fin

/-- 'string(b)' of what the call itself has written. -/
theorem conv_own {B : Nat} {w : World} {v : Value} {l : List Int} (h : w.ownsRow B 5 1 v l.length (cellsOf l)) (h1 : 1 ≤ l.length) : (convert 43 9 v).run Tryz.prog w = .ok (.string (strOfNums l)) w := by
  rcases h.2 with ⟨_, h0⟩ | ⟨g, cap, cur, hv, _, hh, _, _, _, hx⟩
  · omega
  · subst hv
    refine run_convert_bytes_arg w 43 5 Tryz.underlying43 Tryz.underlying5 g 0 l.length cap l rfl (fun i hi => ?_) 9 Tryz.underlying9
    rw [Nat.zero_add, cell_of_row w g i cur 5 (0, 0) hh]
    have e : (cur.toList.take (l.length * 1))[i]? = (cellsOf l)[i]? := by rw [hx]
    rw [Nat.mul_one, List.getElem?_take, if_pos hi] at e
    simp only [cellsOf, List.getElem?_map] at e
    rw [Array.getElem?_toList] at e
    rw [e, List.getD_eq_getElem?_getD, List.getElem?_eq_getElem hi]
    rfl

def Said (bs : Nat) (w : World) (e : Ending) (w' : World) : Prop := ∃ l, e = .returned (.string (strOfNums l)) ∧ Below w.heap.size w w' ∧ TextOf bs l

set_option maxRecDepth 100000 in
set_option maxHeartbeats 1000000 in
theorem format15 (bs : Nat) (w : World) (hb : bs < 2 ^ 64) (hfin : bs % 2 ^ 63 < 2047 * 2 ^ 52) (hT : Tabs w) :
    Calls Tryz.prog 15 #[.float .f64 bs, .int .u8 102, .int .i64 (-1), .int .i64 64] w (Said bs w) := by
  have hmk := run_make24 w
  have h0 : Hid (Calls Tryz.prog 21 #[.slice (some ⟨w.heap.size, 0, none⟩) 0 24, .float .f64 bs, .int .u8 102, .int .i64 (-1)] (w.alloc (.cells row24 5)) (Wrote64 w.heap.size bs (w.alloc (.cells row24 5)))) := by
    refine ftoa_any w.heap.size bs _ _ hb hfin (hT.below ((Below.refl _ _).alloc (Nat.le_refl _) _) hT.size) ⟨rfl, Or.inr ⟨w.heap.size, 24, row24, rfl, Nat.le_refl _, heap_alloc_new _ _, by decide, by decide, rfl, rfl⟩⟩ (by simp)
  clear hT hfin hb
  go_enter Tryz.func15, Tryz.ntmps15
  go_wp2_with (go_at_call 21; go_must (refine h0.out.mono ?_); rintro _ w1 ⟨v, l, rfl, hown, hB, hX, hl⟩; have HC := conv_own hown hl; have HB := Lib.hid hB; have HX := Lib.hid hX; clear hown hB hX hl h0 hmk)
  go_ret
  exact ⟨l, rfl, ((Below.refl _ _).alloc (Nat.le_refl _) _).trans HB.out, HX.out⟩

set_option maxHeartbeats 400000 in
theorem format11 (bs : Nat) (w : World) (hb : bs < 2 ^ 64) (hfin : bs % 2 ^ 63 < 2047 * 2 ^ 52) (hT : Tabs w) :
    Calls Tryz.prog 11 #[.float .f64 bs, .int .u8 102, .int .i64 (-1), .int .i64 64] w (Said bs w) := by
  have h0 := Lib.hid (format15 bs w hb hfin hT)
  clear hb hfin hT
  go_enter Tryz.func11, Tryz.ntmps11
  go_wp2_with (go_at_call 15; go_must (refine h0.out.mono ?_); rintro _ w1 ⟨l, rfl, hB, hX⟩; have HB := Lib.hid hB; have HX := Lib.hid hX; clear hB hX h0)
  go_ret
  exact ⟨l, rfl, HB.out, HX.out⟩

set_option maxHeartbeats 400000 in
theorem writeNumber (bs : Nat) (w : World) (hb : bs < 2 ^ 64) (hfin : bs % 2 ^ 63 < 2047 * 2 ^ 52) (hT : Tabs w) :
    Calls Tryz.prog 6 #[.float .f64 bs] w (Said bs w) := by
  have h0 := Lib.hid (format11 bs w hb hfin hT)
  clear hb hfin hT
  go_enter Tryz.func6, Tryz.ntmps6
  go_wp2_with (go_at_call 11; go_must (refine h0.out.mono ?_); rintro _ w1 ⟨l, rfl, hB, hX⟩; have HB := Lib.hid hB; have HX := Lib.hid hX; clear hB hX h0)
  go_ret
  exact ⟨l, rfl, HB.out, HX.out⟩

end Go.Proofs.YtdjjgnplpjoabaaGreatDoor
