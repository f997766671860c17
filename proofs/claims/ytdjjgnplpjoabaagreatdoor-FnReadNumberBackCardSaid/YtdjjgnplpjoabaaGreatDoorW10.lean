/- A subnormal float and a zero are formatted without an exponent; its conditions: the tables are as the text lays them. -/
import Derived.Test.YtdjjgnplpjoabaaGreatDoorW9
namespace Go.Proofs.YtdjjgnplpjoabaaGreatDoor
open Go.RowKit

set_option maxRecDepth 100000 in
set_option maxHeartbeats 4000000 in
theorem ftoa_sub (B : Nat) (neg : Bool) (bs mant L z : Nat) (E : Int) (v0 : Value) (w : World) (hb : bs ≤ 18446744073709551615)
    (hneg : ((bs : Int) / 9223372036854775808 != 0) = neg) (hF : bits .and .i64 ((bs : Int) / 4503599627370496) 2047 = 0) (hG : bits .and .u64 (bs : Int) 4503599627370495 = mant)
    (hm1 : 1 ≤ mant) (hm2 : mant ≤ 9007199254740991)
    (hL : Hid (Lib.bitLen mant = L)) (hz : (64 : Int) - L = z) (hz63 : z ≤ 63) (hsh : IntKind.u64.wrap ((mant : Int) * 2 ^ z) = ((mant * 2 ^ z : Nat) : Int)) (hFin : Hid (FB.Fin mant E z)) (hE : Hid (E = -1074))
    (hT : Hid (Tabs w)) (hown : Hid (w.ownsRow B 5 1 v0 0 [])) (hB : Hid (B ≤ w.heap.size)) :
    Calls Tryz.prog 21 #[v0, .float .f64 bs, .int .u8 102, .int .i64 (-1)] w (Ftoa B neg mant E w) := by
  have hd := run_bits30
  have hm0 : ((mant : Int) == 0) = false := by rw [beq_eq_false_iff_ne]; omega
  go_enter Tryz.func21, Tryz.ntmps21
  go_wp2_with (fail)
  go_quiet (fail)
  go_upto_region 38 with (first
    | (go_at_call 34; (with_reducible refine (len64_at _ L _ (by omega) (by omega) (by simpa using hL)).mono ?_); rintro _ _ ⟨rfl, rfl⟩)
    | (go_at_call 43; go_must ((with_reducible refine (short_here ((mant : Int) * 2 ^ z) ((-1022 : Int) - z - 52) hFin (by push_cast; rfl) (by have := hE.out; omega) w nq hT).mono ?_); rintro _ w1 ⟨d, q, rfl, hd1, hd2, hq1, hq2, hN, hB⟩; have HN := Lib.hid hN; have HB := Lib.hid hB; clear hN hB))
    | fail)
  obtain ⟨nd, hnd⟩ : ∃ nd, Hid (Lib.nDigits d = nd) := ⟨_, rfl⟩
  go_cut [22, 23] (fun s22 s23 wx => ∃ nd' : Nat, s22 = .int .i64 (nd + q) ∧ s23 = .int .i64 nd' ∧ nd' ≤ 17 ∧ 1 ≤ nd' ∧ Hid (HasDigits w.heap.size d nd nd' w wx))
  case first =>
    have htabs := tabs_here w w1 nq hT HB
    go_region_with (first
      | (go_at_call 37; (with_reducible refine (numDigits_at _ d nd _ rfl hd1 hd2 htabs hnd).mono ?_); rintro _ _ ⟨rfl, rfl⟩)
      | (go_at_call 36; go_must (refine (digits_here _ d nd _ q w w1 w1.drew nq 1 rfl hd1 hd2 hnd hq1 hq2 rfl HB rfl).mono ?_); rintro _ w2 ⟨nd', rfl, h17, h11, hD⟩; have HD := Lib.hid hD; clear hD))
    all_goals (go_wp2_with fail; go_meet; exact ⟨nd', rfl, rfl, h17, h11, HD⟩)
  case rest =>
    obtain ⟨nd', rfl, rfl, h17, h11, HD⟩ := hcut
    obtain ⟨cs, hcs, hdst⟩ := dst_here HD.out hown.out hB.out
    have HC := Lib.hid hcs
    have HS := Lib.hid hdst
    clear hcs hdst
    have hn17 : nd ≤ 17 := by rw [← hnd.out]; exact nDigits_le 17 d (by decide) (by omega)
    go_wp2_with (go_at_call 33; go_must (refine (fmt_any neg B w.heap.size nd' ((nd : Int) + q) _ cs (fun j => ((48 + digAt d nd j : Nat) : Int)) v0 w _ h11 h17 (by omega) (by omega) rfl HC.out HS.out).mono ?_); rintro _ w3 ⟨v, rfl, hw⟩; have HW := Lib.hid hw; clear hw)
    go_ret
    exact ⟨d, nd, nd', q, v, rfl, HW.out.own, HW.out.below, hnd.out, hd1, hd2, h11, HD.out.2.1, hn17, HD.out.2.2.1, HN.out, hq1, hq2⟩


/-- What has been written so far, with no buffer beside it. -/
structure Dst0 (B : Nat) (w0 w : World) (v : Value) (l : List Int) : Prop where
  own : w.ownsRow B 5 1 v l.length (cellsOf l)
  below : Below B w0 w
  size : B ≤ w.heap.size

theorem wpList_append_dst0 {ops : Array Oper} {rest : List Oper} {o : Oper} {a : Act} {Q : Exit → Act → World → Prop} (hgd : o.guard = none) (s x : Operand)
    (ho : o.op = .call { callee := .builtin .append, args := #[s, x], argTypes := #[43, 43] })
    {B : Nat} {w0 wr : World} {v : Value} {l : List Int} (c : Int) (h : Dst0 B w0 wr v l) (hs : a.eval s = v) (hx : a.eval x = .slice (some ⟨wr.heap.size, 0, none⟩) 1 1) (hlen : l.length ≤ 100000)
    (K : ∀ v' w', Dst0 B w0 w' v' (l ++ [c]) → wpList Tryz.prog ops Q rest (a.put o.dst v') w') : wpList Tryz.prog ops Q (o :: rest) a (wr.alloc (.cells #[.int .u8 c] 5)) := by
  obtain ⟨i0, hi, hz0, hz1, hz2⟩ := info_parts Tryz.info5
  refine wpList_append_own _ hgd s x 43 ho B 5 i0 (.int .u8 0) 1 1 Tryz.underlying43 hi hz0 hz1 hz2 rfl (by decide) v l.length (cellsOf l) hs (h.own.alloc _) ⟨wr.heap.size, 0, none⟩ 1 1 [.int .u8 c] hx rfl ?_ ?_ ?_ ?_ ?_ ?_
  · exact cell_one_new _ _ _
  · intro u hu
    simp only [List.mem_singleton] at hu
    subst hu
    rfl
  · unfold maxLen; omega
  · omega
  · have := h.size
    simp
    omega
  · intro v' w' h1 h2 _
    refine K v' w' ⟨by simpa [cellsOf] using h1, (h.below.alloc h.size _).grown h2 (by simp; have := h.size; omega) (fun k hk => (h.own.lt k hk).1), ?_⟩
    have := h2.size
    have := h.size
    simp at *
    omega

/-- The text of a zero. -/
def Ftoa0 (B : Nat) (neg : Bool) (w : World) (e : Ending) (w' : World) : Prop :=
  ∃ v, e = .returned v ∧ w'.ownsRow B 5 1 v (sgn neg ++ [48]).length (cellsOf (sgn neg ++ [48])) ∧ Below B w w'

set_option maxRecDepth 100000 in
set_option maxHeartbeats 4000000 in
theorem fmt_Z (B : Nat) (v0 : Value) (w0 w : World) (h : Dst0 B w0 w v0 []) :
    Calls Tryz.prog 33 #[v0, .bool false, .slice none 0 0, .int .i64 0, .int .i64 0, .int .i64 (-1), .int .u8 102, .bool true] w fun e w' => ∃ v, e = .returned v ∧ Dst0 B w0 w' v [48] := by
  have HH := Lib.hid h
  clear h
  go_enter Tryz.func33, Tryz.ntmps33
  go_wp2_with (at_builtin; (refine wpList_append_dst0 rfl _ _ rfl 48 HH.out rfl rfl (by decide) ?_; intro v' w1 HN0; have HT := Lib.hid HN0; clear HN0 HH))
  go_ret
  exact ⟨_, rfl, HT⟩

set_option maxRecDepth 100000 in
set_option maxHeartbeats 4000000 in
theorem fmt_Z_neg (B : Nat) (v0 : Value) (w0 w : World) (h : Dst0 B w0 w v0 []) :
    Calls Tryz.prog 33 #[v0, .bool true, .slice none 0 0, .int .i64 0, .int .i64 0, .int .i64 (-1), .int .u8 102, .bool true] w fun e w' => ∃ v, e = .returned v ∧ Dst0 B w0 w' v [45, 48] := by
  have HH := Lib.hid h
  clear h
  go_enter Tryz.func33, Tryz.ntmps33
  go_wp2_with (at_builtin; first
    | (refine wpList_append_dst0 rfl _ _ rfl 45 HH.out rfl rfl (by decide) ?_; intro v' w1 HN0; have HS := Lib.hid HN0; clear HN0 HH)
    | (refine wpList_append_dst0 rfl _ _ rfl 48 HS.out rfl rfl (by decide) ?_; intro v'' w2 HN0; have HT := Lib.hid HN0; clear HN0 HS))
  go_ret
  exact ⟨_, rfl, HT⟩

theorem fmt_zero (B : Nat) (neg : Bool) (w : World) (n : Nat) (v0 : Value) (hs : B ≤ w.heap.size) (hown : w.ownsRow B 5 1 v0 0 []) :
    Calls Tryz.prog 33 #[v0, .bool neg, .slice none 0 0, .int .i64 0, .int .i64 0, .int .i64 (-1), .int .u8 102, .bool true] (w.drewN n) (Ftoa0 B neg w) := by
  have h0 : Dst0 B w (w.drewN n) v0 [] := ⟨hown, below_drewN (Below.refl _ _) n, hs⟩
  cases neg
  · exact (fmt_Z B v0 w _ h0).mono fun e w' ⟨v, he, hd⟩ => ⟨v, he, hd.own, hd.below⟩
  · exact (fmt_Z_neg B v0 w _ h0).mono fun e w' ⟨v, he, hd⟩ => ⟨v, he, hd.own, hd.below⟩

set_option maxRecDepth 100000 in
set_option maxHeartbeats 4000000 in
theorem ftoa_zero (B : Nat) (neg : Bool) (bs : Nat) (v0 : Value) (w : World) (hb : bs ≤ 18446744073709551615)
    (hneg : ((bs : Int) / 9223372036854775808 != 0) = neg) (hF : bits .and .i64 ((bs : Int) / 4503599627370496) 2047 = 0) (hG : bits .and .u64 (bs : Int) 4503599627370495 = 0)
    (hT : Hid (B ≤ w.heap.size)) (hown : Hid (w.ownsRow B 5 1 v0 0 [])) :
    Calls Tryz.prog 21 #[v0, .float .f64 bs, .int .u8 102, .int .i64 (-1)] w (Ftoa0 B neg w) := by
  have hd := run_bits30
  go_enter Tryz.func21, Tryz.ntmps21
  go_wp2_with (fail)
  go_quiet (fail)
  go_wp2_with (go_at_call 33; go_must (refine (fmt_zero B neg w nq v0 hT.out hown.out).mono ?_); rintro _ w3 ⟨v, rfl, hw⟩; have HW := Lib.hid hw; clear hw)
  go_ret
  exact ⟨v, rfl, HW.out⟩

end Go.Proofs.YtdjjgnplpjoabaaGreatDoor
