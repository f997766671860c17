/- The parser's signed number; its conditions: the text is a float's, the tables are as the program lays them. -/
import Derived.Test.YtdjjgnplpjoabaaGreatDoorW34
namespace Go.Proofs.YtdjjgnplpjoabaaGreatDoor
open Go.RowKit

theorem minus_no {t : List Int} (ht : Tok t) : ((strOfNums t).toList == [45]) = false := by
  rw [beq_eq_false_iff_ne]
  intro h
  have h1 := ht.dec.size1
  have hh := ht.dec.head (by omega)
  rw [Lib.toList_data] at h
  have e : (strOfNums t).data.toList[0]? = some 45 := by rw [h]; rfl
  have e2 : (strOfNums t).data.toList[0]? = some ((strOfNums t)[0]'(by omega)) := by
    rw [Array.getElem?_toList, Array.getElem?_eq_getElem (show 0 < (strOfNums t).data.size from h1)]; rfl
  rw [e2] at e
  have := Option.some.inj e
  rw [this] at hh
  exact absurd hh (by decide)
theorem minus_yes : ((strOfNums [45]).toList == [45]) = true := by
  rw [beq_iff_eq, Lib.toList_data]; rfl

set_option maxRecDepth 100000 in
set_option maxHeartbeats 1000000 in
theorem signed_plus {b r : Nat} {ea : Addr} {t : List Int} {C : Array Value} {w0 w : World} (v : Nat) (ht : Tok t) (hL : Laid C r) (hr : Rdr r (strOfNums t) 0 w) (hb : w.heap[b]? = some (.cells C 59 (0, 0))) (hBr : w0.heap.size ≤ r) (hrb : r < b) (hB : Base w0.heap.size ea w) (h0 : Below w0.heap.size w0 w) (hR : RTabs w0) (hv : v < 2047 * 2 ^ 52)
    (hp : ∀ w : World, RTabs w → Calls Tryz.prog 19 #[.string (strOfNums t), .int .i64 64] w (Parsed v w)) :
    Calls Tryz.prog 14 #[.pointer (some ⟨b, 0, none⟩)] w fun e w' => e = .returned (.tuple #[.float .f64 v, .nilIface]) ∧ Below w0.heap.size w0 w' := by
  have hlex := Lib.hid (lex_plain ht hL hr hb hBr hrb hB)
  have HP := Lib.hid hp
  have HR := Lib.hid hR
  have H0 := Lib.hid h0
  have hno := minus_no ht
  have h8 := Lib.hid (isNaN_of v false (order_self v (by omega)))
  have h9 := Lib.hid (isInf_of v v false (by omega) (show v % 2 ^ 63 = v by omega) (order_max _ (by omega)))
  clear hp hR h0 hL hr hb hB ht
  go_enter Tryz.func14, Tryz.ntmps14
  go_wp2_with fail
  refine hlex.out.mono ?_
  rintro e w1 ⟨rfl, hb1⟩
  have HB1 := Lib.hid (H0.out.trans hb1)
  clear hb1 hlex
  go_wp2_with fail
  refine (HP.out w1 (by exact HR.out.below HB1.out)).mono ?_
  rintro e w2 ⟨rfl, hb2⟩
  have HB2 := Lib.hid (HB1.out.trans (hb2.mono HB1.out.size))
  clear hb2 HB1 HP HR
  go_wp2_with (first | (go_at_call 8; go_must (refine (h8.out _).mono ?_); rintro e w' ⟨rfl, rfl⟩) | (go_at_call 9; go_must (refine (h9.out _).mono ?_); rintro e w' ⟨rfl, rfl⟩))
  go_ret2
  exact ⟨rfl, HB2.out⟩

set_option maxRecDepth 100000 in
set_option maxHeartbeats 1000000 in
theorem signed_minus {b r : Nat} {ea : Addr} {t : List Int} {C : Array Value} {w0 w : World} (v : Nat) (ht : Tok t) (hL : Laid C r) (hr : Rdr r (strOfNums (sgn true ++ t)) 0 w) (hb : w.heap[b]? = some (.cells C 59 (0, 0))) (hBr : w0.heap.size ≤ r) (hrb : r < b) (hB : Base w0.heap.size ea w) (h0 : Below w0.heap.size w0 w) (hR : RTabs w0) (hv : v < 2047 * 2 ^ 52)
    (hp : ∀ w : World, RTabs w → Calls Tryz.prog 19 #[.string (strOfNums t), .int .i64 64] w (Parsed v w)) (u : Nat) (hu : Hid (Ieee.double.mul v 13830554455654793216 = some u)) :
    Calls Tryz.prog 14 #[.pointer (some ⟨b, 0, none⟩)] w fun e w' => e = .returned (.tuple #[.float .f64 u, .nilIface]) ∧ Below w0.heap.size w0 w' := by
  have hlex := Lib.hid (lex_first ht hL hr hb hBr hrb hB)
  have hlex2 := Lib.hid (fun e1 w1 (h : AfterMinus 59 w0.heap.size b r (strOfNums (sgn true ++ t)) w e1 w1) => lex_second ht h (show b ≠ r by omega) (hB.below h.2.choose_spec.1.below))
  have hyes := minus_yes
  have hmul : ∀ w, (binOp .mul 22 (.float .f64 v) (.float .f64 13830554455654793216)).run Tryz.prog w = .ok (.float .f64 u) w := fun w => run_float_arith w .mul 22 .f64 _ _ u hu.out
  have HP := Lib.hid hp
  have HR := Lib.hid hR
  have H0 := Lib.hid h0
  have hno := minus_no ht
  have h8 := Lib.hid (isNaN_of v false (order_self v (by omega)))
  have h9 := Lib.hid (isInf_of v v false (by omega) (show v % 2 ^ 63 = v by omega) (order_max _ (by omega)))
  clear hp hR h0 hL hr hb hB ht
  go_enter Tryz.func14, Tryz.ntmps14
  go_wp2_with fail
  refine hlex.out.mono ?_
  intro e w1 hA
  have HA := Lib.hid hA
  have h2 := Lib.hid (hlex2.out e w1 hA)
  have HB1 := Lib.hid (H0.out.trans hA.2.choose_spec.1.below)
  obtain ⟨rfl, -⟩ := hA
  clear hlex hlex2
  go_wp2_with fail
  refine h2.out.mono ?_
  rintro e w2 ⟨rfl, hb2⟩
  have HB2 := Lib.hid (HB1.out.trans hb2)
  clear hb2 HB1 h2 HA
  go_wp2_with fail
  refine (HP.out w2 (by exact HR.out.below HB2.out)).mono ?_
  rintro e w3 ⟨rfl, hb3⟩
  have HB3 := Lib.hid (HB2.out.trans (hb3.mono HB2.out.size))
  clear hb3 HB2 HP HR
  go_wp2_with (first | (go_at_call 8; go_must (refine (h8.out _).mono ?_); rintro e w' ⟨rfl, rfl⟩) | (go_at_call 9; go_must (refine (h9.out _).mono ?_); rintro e w' ⟨rfl, rfl⟩))
  go_ret2
  exact ⟨rfl, HB3.out⟩

end Go.Proofs.YtdjjgnplpjoabaaGreatDoor
