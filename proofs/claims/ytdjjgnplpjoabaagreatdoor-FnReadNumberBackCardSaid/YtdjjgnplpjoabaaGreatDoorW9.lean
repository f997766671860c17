/- A float is formatted as the shortest decimal without an exponent; its conditions: it is finite, and the tables are as the text lays them. -/
import Derived.Test.YtdjjgnplpjoabaaGreatDoorW8
namespace Go.Proofs.YtdjjgnplpjoabaaGreatDoor
open Go.RowKit

/-- The buffer of 32 bytes, new. -/
abbrev buf32 : Array Value := #[.int .u8 0, .int .u8 0, .int .u8 0, .int .u8 0, .int .u8 0, .int .u8 0, .int .u8 0, .int .u8 0, .int .u8 0, .int .u8 0, .int .u8 0, .int .u8 0, .int .u8 0, .int .u8 0, .int .u8 0, .int .u8 0, .int .u8 0, .int .u8 0, .int .u8 0, .int .u8 0, .int .u8 0, .int .u8 0, .int .u8 0, .int .u8 0, .int .u8 0, .int .u8 0, .int .u8 0, .int .u8 0, .int .u8 0, .int .u8 0, .int .u8 0, .int .u8 0]

theorem buf32_at (j : Nat) (hj : j < 32) : buf32[j]? = some (.int .u8 0) := by
  have e : buf32 = Array.replicate 32 (.int .u8 0) := rfl
  rw [e, Array.getElem?_replicate, if_pos hj]

theorem short_here (X Y : Int) {mant : Nat} {E : Int} {z : Nat} (h : Hid (FB.Fin mant E z)) (hX : X = ((mant * 2 ^ z : Nat) : Int)) (hY : Y = E - z) (w : World) (n : Nat) (hT : Hid (Tabs w)) :
    Calls Tryz.prog 43 #[.int .u64 X, .int .i64 Y] ((w.drewN n).alloc (.cells buf32 81)) fun e w' => ∃ (d : Nat) (q : Int), e = .returned (.tuple #[.int .u64 d, .int .i64 q]) ∧ 1 ≤ d ∧ d < 100000000000000000 ∧ -330 ≤ q ∧ q ≤ 301 ∧ FB.Near mant E (d * 10 ^ q) ∧ Below (w.heap.size + 1) ((w.drewN n).alloc (.cells buf32 81)) w' := by
  have hb : Below w.heap.size w ((w.drewN n).alloc (.cells buf32 81)) := (below_drewN (Below.refl _ _) n).alloc (Nat.le_refl _) _
  have ht := hT.out.below hb hT.out.size
  refine (shortFloat_at X Y h hX hY _ (by have := ht.size; omega) ht.tab).mono fun e w' ⟨d, q, he, h1, h2, h3, h4, h5, h6⟩ => ⟨d, q, he, h1, h2, h4, h5, h3, ?_⟩
  refine h6.mono ?_
  simp

/-- What the digits' buffer holds behind setDigits. -/
def HasDigits (b d nd nd' : Nat) (w0 w : World) : Prop :=
  1 ≤ nd' ∧ nd' ≤ nd ∧ d % 10 ^ (nd - nd') = 0 ∧ (∃ cs, w.heap[b]? = some (.cells cs 81 (0, 0)) ∧ ∀ j, j < nd' → cs[j]? = some (.int .u8 ((48 + digAt d nd j : Nat) : Int))) ∧ Below b w0 w ∧ b < w.heap.size

theorem digits_here (b d nd : Nat) (X q : Int) (w w1 w2 : World) (n m : Nat) (hX : X = d) (hd1 : 1 ≤ d) (hd2 : d < 100000000000000000) (hnd : Hid (Lib.nDigits d = nd)) (hq1 : -330 ≤ q) (hq2 : q ≤ 301)
    (hb : b = w.heap.size) (HB : Hid (Below (w.heap.size + 1) ((w.drewN n).alloc (.cells buf32 81)) w1)) (hw2 : w2 = w1.drewN m) :
    Calls Tryz.prog 36 #[.slice (some ⟨b, 0, none⟩) 32 32, .int .u64 X, .int .i64 q, .int .i64 nd] w2 fun e w' => ∃ nd' : Nat, e = .returned (.tuple #[.int .i64 (nd + q), .int .i64 nd']) ∧ nd' ≤ 17 ∧ 1 ≤ nd' ∧ HasDigits b d nd nd' w w' := by
  subst hX; subst hw2
  have hblk : (w1.drewN m).heap[b]? = some (.cells buf32 81 (0, 0)) := by
    show w1.heap[b]? = _
    rw [HB.out.block b (by omega), hb]
    exact heap_alloc_new (w.drewN n) _
  have hcell : ∀ j, j < 32 → (w1.drewN m).cell? ⟨b, j, none⟩ = some (.int .u8 0) ∧ (w1.drewN m).frozen? ⟨b, j, none⟩ = false := fun j hj => by
    rw [cell_of_row _ b j _ 81 (0, 0) hblk, frozen_of_row _ b j _ 81 hblk]
    exact ⟨buf32_at j hj, rfl⟩
  refine (setDigits_any b d nd q _ hd1 hd2 hnd.out.symm (by omega) (by omega) buf32 hblk hcell).mono fun e w' ⟨nd', he, h1, h2, h3, h4, ⟨cs, h5⟩, h6, h7⟩ => ?_
  have hn17 : nd ≤ 17 := by rw [← hnd.out]; exact nDigits_le 17 d (by decide) (by omega)
  refine ⟨nd', he, by omega, h1, h1, h2, h3, ⟨cs, h5, fun j hj => ?_⟩, ?_, ?_⟩
  · rw [← cell_of_row w' b j cs 81 (0, 0) h5]; exact h4 j hj
  · have a : Below b w ((w.drewN n).alloc (.cells buf32 81)) := (below_drewN (Below.refl _ _) n).alloc (by show b ≤ w.heap.size; omega) _
    exact (a.trans (HB.out.mono (by omega))).trans ((below_drewN (Below.refl b w1) m).trans h6)
  · refine Nat.lt_of_not_le fun hc => ?_
    rw [Array.getElem?_eq_none hc] at h5
    cases h5

theorem tabs_here (w w1 : World) (n : Nat) (hT : Hid (Tabs w)) (HB : Hid (Below (w.heap.size + 1) ((w.drewN n).alloc (.cells buf32 81)) w1)) : Tabs w1.drew := by
  have hb : Below w.heap.size w ((w.drewN n).alloc (.cells buf32 81)) := (below_drewN (Below.refl _ _) n).alloc (Nat.le_refl _) _
  exact hT.out.below (hb.trans (HB.out.mono (by omega))).drew hT.out.size

theorem ownsRow_below {w w' : World} {B E size n : Nat} {v : Value} {xs : List Value} (h : w.ownsRow B E size v n xs) (hb : Below w.heap.size w w') : w'.ownsRow B E size v n xs := by
  obtain ⟨h1, h2⟩ := h
  refine ⟨h1, ?_⟩
  rcases h2 with h2 | ⟨g, cap, cur, hv, hg, hh, r⟩
  · exact Or.inl h2
  · refine Or.inr ⟨g, cap, cur, hv, hg, ?_, r⟩
    rw [hb.block g]
    · exact hh
    · refine Nat.lt_of_not_le fun hc => ?_
      rw [Array.getElem?_eq_none hc] at hh
      cases hh

theorem dst_here {B d nd nd' : Nat} {w wc : World} {v0 : Value} (h : HasDigits w.heap.size d nd nd' w wc) (hown : w.ownsRow B 5 1 v0 0 []) (hs : B ≤ w.heap.size) :
    ∃ cs, (∀ j, j < nd' → cs[j]? = some (.int .u8 ((48 + digAt d nd j : Nat) : Int))) ∧ Dst B w.heap.size cs w wc v0 [] := by
  obtain ⟨_, _, _, ⟨cs, h1, h2⟩, h3, h4⟩ := h
  exact ⟨cs, h2, ownsRow_below hown h3, h1, h3.mono hs, by omega⟩

/-- What the formatting of a float is good for: the bytes of a decimal in the float's interval. -/
def Ftoa (B : Nat) (neg : Bool) (mant : Nat) (E : Int) (w : World) (e : Ending) (w' : World) : Prop :=
  ∃ (d nd nd' : Nat) (q : Int) (v : Value), e = .returned v ∧
    w'.ownsRow B 5 1 v (sgn neg ++ body (fun j => ((48 + digAt d nd j : Nat) : Int)) nd' (nd + q)).length (cellsOf (sgn neg ++ body (fun j => ((48 + digAt d nd j : Nat) : Int)) nd' (nd + q))) ∧ Below B w w' ∧
    Lib.nDigits d = nd ∧ 1 ≤ d ∧ d < 100000000000000000 ∧ 1 ≤ nd' ∧ nd' ≤ nd ∧ nd ≤ 17 ∧ d % 10 ^ (nd - nd') = 0 ∧ FB.Near mant E (d * 10 ^ q) ∧ -330 ≤ q ∧ q ≤ 301

set_option maxRecDepth 100000 in
set_option maxHeartbeats 4000000 in
theorem ftoa_norm (B : Nat) (neg : Bool) (bs F G mant L z : Nat) (E : Int) (v0 : Value) (w : World) (hb : bs ≤ 18446744073709551615)
    (hneg : ((bs : Int) / 9223372036854775808 != 0) = neg) (hF : bits .and .i64 ((bs : Int) / 4503599627370496) 2047 = F) (hG : bits .and .u64 (bs : Int) 4503599627370495 = G)
    (hF1 : 1 ≤ F) (hF2 : F ≤ 2046) (hor : bits .or .u64 (G : Int) 4503599627370496 = mant) (hm1 : 1 ≤ mant) (hm2 : mant ≤ 9007199254740991)
    (hL : Hid (Lib.bitLen mant = L)) (hz : (64 : Int) - L = z) (hz63 : z ≤ 63) (hsh : IntKind.u64.wrap ((mant : Int) * 2 ^ z) = ((mant * 2 ^ z : Nat) : Int)) (hFin : Hid (FB.Fin mant E z)) (hE : Hid (E = F - 1075))
    (hT : Hid (Tabs w)) (hown : Hid (w.ownsRow B 5 1 v0 0 [])) (hB : Hid (B ≤ w.heap.size)) :
    Calls Tryz.prog 21 #[v0, .float .f64 bs, .int .u8 102, .int .i64 (-1)] w (Ftoa B neg mant E w) := by
  have hd := run_bits30
  have hF0 : ((F : Int) == 0) = false := by rw [beq_eq_false_iff_ne]; omega
  have hF3 : ((F : Int) == 2047) = false := by rw [beq_eq_false_iff_ne]; omega
  have hm0 : ((mant : Int) == 0) = false := by rw [beq_eq_false_iff_ne]; omega
  go_enter Tryz.func21, Tryz.ntmps21
  go_wp2_with (fail)
  go_quiet (fail)
  go_upto_region 38 with (first
    | (go_at_call 34; (with_reducible refine (len64_at _ L _ (by omega) (by omega) (by simpa using hL)).mono ?_); rintro _ _ ⟨rfl, rfl⟩)
    | (go_at_call 43; go_must ((with_reducible refine (short_here ((mant : Int) * 2 ^ z) ((F : Int) + -1023 - z - 52) hFin (by push_cast; rfl) (by have := hE.out; omega) w nq hT).mono ?_); rintro _ w1 ⟨d, q, rfl, hd1, hd2, hq1, hq2, hN, hB⟩; have HN := Lib.hid hN; have HB := Lib.hid hB; clear hN hB))
    | fail)
  obtain ⟨nd, hnd⟩ : ∃ nd, Hid (Lib.nDigits d = nd) := ⟨_, rfl⟩
  go_cut [22, 23] (fun s22 s23 wx => ∃ nd' : Nat, s22 = .int .i64 (nd + q) ∧ s23 = .int .i64 nd' ∧ nd' ≤ 17 ∧ 1 ≤ nd' ∧ Hid (HasDigits w.heap.size d nd nd' w wx))
  case first =>
    have htabs := tabs_here w w1 nq hT HB
    go_region_with (first
      | (go_at_call 37; (with_reducible refine (numDigits_at _ d nd _ rfl hd1 hd2 htabs hnd).mono ?_); rintro _ _ ⟨rfl, rfl⟩)
      | (go_at_call 36; go_must (refine (digits_here _ d nd _ q w w1 w1.drew nq 1 rfl hd1 hd2 hnd hq1 hq2 rfl HB rfl).mono ?_); rintro _ w2 ⟨nd', rfl, h17, h11, hD⟩; have HD := Lib.hid hD; clear hD))
    all_goals (go_wp2_with fail; go_meet; exact ⟨nd', rfl, rfl, h17, h11, HD⟩)
  case rest =>
    obtain ⟨nd', rfl, rfl, h17, h11, HD⟩ := hcut
    obtain ⟨cs, hcs, hdst⟩ := dst_here HD.out hown.out hB.out
    have HC := Lib.hid hcs
    have HS := Lib.hid hdst
    clear hcs hdst
    have hn17 : nd ≤ 17 := by rw [← hnd.out]; exact nDigits_le 17 d (by decide) (by omega)
    go_wp2_with (go_at_call 33; go_must (refine (fmt_any neg B w.heap.size nd' ((nd : Int) + q) _ cs (fun j => ((48 + digAt d nd j : Nat) : Int)) v0 w _ h11 h17 (by omega) (by omega) rfl HC.out HS.out).mono ?_); rintro _ w3 ⟨v, rfl, hw⟩; have HW := Lib.hid hw; clear hw)
    go_ret
    exact ⟨d, nd, nd', q, v, rfl, HW.out.own, HW.out.below, hnd.out, hd1, hd2, h11, HD.out.2.1, hn17, HD.out.2.2.1, HN.out, hq1, hq2⟩

end Go.Proofs.YtdjjgnplpjoabaaGreatDoor
