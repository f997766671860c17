/- The law's own function answers true at every float; its conditions: the tables and the end's value are as the program lays them. -/
import Derived.Test.YtdjjgnplpjoabaaGreatDoorW35
namespace Go.Proofs.YtdjjgnplpjoabaaGreatDoor
open Go.RowKit

/-- What the whole road leans on. -/
structure Ground (ea : Addr) (w : World) : Prop where
  tabs : Tabs w
  rtabs : RTabs w
  eof : w.cell? ⟨4, 0, none⟩ = some (.iface 188 (.pointer (some ea)))
  utf : ∀ c : Int, 45 ≤ c → c ≤ 57 → w.cell? ⟨9, c.toNat, none⟩ = some (.int .u8 240)

theorem Ground.below {ea : Addr} {w w' : World} (h : Ground ea w) (hb : Below w.heap.size w w') : Ground ea w' := by
  have hs := h.rtabs.size
  exact ⟨h.tabs.below hb hs, h.rtabs.below hb, (hb.cell (p := ⟨4, 0, none⟩) (show 4 < w.heap.size by omega)).trans h.eof, fun c h1 h2 => (hb.cell (p := ⟨9, c.toNat, none⟩) (show 9 < w.heap.size by omega)).trans (h.utf c h1 h2)⟩
theorem Ground.base {ea : Addr} {w w' : World} (h : Ground ea w) (hb : Below w.heap.size w w') : Base w.heap.size ea w' := by
  have hs := h.rtabs.size
  exact ⟨hb.size, hs, (h.below hb).eof, (h.below hb).utf⟩

set_option maxRecDepth 100000 in
set_option maxHeartbeats 1000000 in
theorem signed_any {b r bs : Nat} {ea : Addr} {l : List Int} {C : Array Value} {w0 w : World} (hT : TextOf bs l) (hbs : bs < 2 ^ 64) (hfin : bs % 2 ^ 63 < 2047 * 2 ^ 52) (hL : Laid C r) (hr : Rdr r (strOfNums l) 0 w) (hb : w.heap[b]? = some (.cells C 59 (0, 0))) (hBr : w0.heap.size ≤ r) (hrb : r < b) (hG : Ground ea w0) (h0 : Below w0.heap.size w0 w) :
    Calls Tryz.prog 14 #[.pointer (some ⟨b, 0, none⟩)] w fun e w' => e = .returned (.tuple #[.float .f64 bs, .nilIface]) ∧ Below w0.heap.size w0 w' := by
  obtain ⟨t, rfl, ht, hp, hv⟩ := parse_text hT
  by_cases hneg : 2 ^ 63 ≤ bs
  · have hd : decide (2 ^ 63 ≤ bs) = true := decide_eq_true hneg
    rw [hd] at hr
    refine signed_minus (bs % 2 ^ 63) ht hL hr hb hBr hrb (hG.base h0) h0 hG.rtabs hfin hp bs ?_
    rcases hv with hz | ⟨mant, E, z, hf, hfw⟩
    · have e : bs = 2 ^ 63 := by omega
      rw [hz, e]
      exact FB.mul_neg_zero
    · have := FB.mul_neg_one hf
      rw [hfw] at this
      have e : 2 ^ 63 + bs % 2 ^ 63 = bs := by omega
      rw [e] at this
      exact this
  · have hd : decide (2 ^ 63 ≤ bs) = false := decide_eq_false hneg
    have e : bs % 2 ^ 63 = bs := Nat.mod_eq_of_lt (by omega)
    rw [hd] at hr
    rw [e] at hp hfin
    exact signed_plus bs ht hL hr hb hBr hrb (hG.base h0) h0 hG.rtabs hfin hp

set_option maxRecDepth 100000 in
set_option maxHeartbeats 1000000 in
theorem door_any {bs : Nat} {ea : Addr} {l : List Int} {w : World} (hT : TextOf bs l) (hbs : bs < 2 ^ 64) (hfin : bs % 2 ^ 63 < 2047 * 2 ^ 52) (hG : Ground ea w) :
    Calls Tryz.prog 10 #[.string (strOfNums l)] w fun e w' => e = .returned (.tuple #[.float .f64 bs, .nilIface]) ∧ Below w.heap.size w w' := by
  have h13 := Lib.hid (newParser (strOfNums l) w)
  have HT := Lib.hid hT
  have HG := Lib.hid hG
  have HB := Lib.hid hbs
  have HF := Lib.hid hfin
  clear hT hG hbs hfin
  go_enter Tryz.func10, Tryz.ntmps10
  go_wp2_with fail
  refine h13.out.mono ?_
  rintro e w1 ⟨C, r, b, rfl, hL, hr, hBr, hrb, hb, h0⟩
  have hs := Lib.hid (signed_any HT.out HB.out HF.out hL hr hb hBr hrb HG.out h0)
  clear hL hr hBr hrb hb h0 h13
  go_wp2_with fail
  refine hs.out.mono ?_
  rintro e w2 ⟨rfl, hb2⟩
  have HB2 := Lib.hid hb2
  clear hb2 hs
  go_wp2_with fail
  go_ret2
  exact ⟨rfl, HB2.out⟩

set_option maxRecDepth 100000 in
set_option maxHeartbeats 1000000 in
theorem readNumber {bs : Nat} {ea : Addr} {l : List Int} {w : World} (hT : TextOf bs l) (hbs : bs < 2 ^ 64) (hfin : bs % 2 ^ 63 < 2047 * 2 ^ 52) (hG : Ground ea w) :
    Calls Tryz.prog 5 #[.string (strOfNums l)] w fun e w' => e = .returned (.tuple #[.float .f64 bs, .bool true]) ∧ Below w.heap.size w w' := by
  have h10 := Lib.hid (door_any hT hbs hfin hG)
  clear hT hG hbs hfin
  go_enter Tryz.func5, Tryz.ntmps5
  go_wp2_with fail
  refine h10.out.mono ?_
  rintro e w2 ⟨rfl, hb2⟩
  have HB2 := Lib.hid hb2
  clear hb2 h10
  go_wp2_with fail
  go_quiet (fail)
  go_wp2_with fail
  go_ret2
  exact ⟨rfl, HB2.out.trans ⟨rfl, rfl, rfl, Nat.le_refl _, fun _ _ => rfl⟩⟩

set_option maxRecDepth 100000 in
set_option maxHeartbeats 1000000 in
theorem law_any (bs : Nat) (ea : Addr) (w : World) (hbs : bs < 2 ^ 64) (hG : Ground ea w) :
    Calls Tryz.prog 3 #[.float .f64 bs] w fun e w' => e = .returned (.bool true) ∧ Below w.heap.size w w' := by
  by_cases hfin : bs % 2 ^ 63 < 2047 * 2 ^ 52
  · have h4 := Lib.hid (finite_yes bs hbs hfin)
    have h6 := Lib.hid (writeNumber bs w hbs hfin hG.tabs)
    have HG := Lib.hid hG
    have HB := Lib.hid hbs
    have HF := Lib.hid hfin
    have h7 := run_bits7
    clear hG hbs hfin
    go_enter Tryz.func3, Tryz.ntmps3
    go_wp2_with fail
    refine (h4.out w).mono ?_
    rintro e _ ⟨rfl, rfl⟩
    go_wp2_with fail
    refine h6.out.mono ?_
    rintro e w1 ⟨l, rfl, hb1, hT⟩
    have h5 := Lib.hid (readNumber hT HB.out HF.out (HG.out.below hb1))
    have HB1 := Lib.hid hb1
    clear hb1 hT h6 h4
    go_wp2_with fail
    refine h5.out.mono ?_
    rintro e w2 ⟨rfl, hb2⟩
    have HB2 := Lib.hid (HB1.out.trans (hb2.mono HB1.out.size))
    clear hb2 h5 HB1
    go_wp2_with fail
    go_ret
    exact ⟨rfl, HB2.out⟩
  · have h4 := Lib.hid (finite_no bs hbs hfin)
    clear hG hbs hfin
    go_enter Tryz.func3, Tryz.ntmps3
    go_wp2_with fail
    refine (h4.out w).mono ?_
    rintro e _ ⟨rfl, rfl⟩
    go_wp2_with fail
    go_ret
    exact ⟨rfl, Below.refl _ _⟩

end Go.Proofs.YtdjjgnplpjoabaaGreatDoor
