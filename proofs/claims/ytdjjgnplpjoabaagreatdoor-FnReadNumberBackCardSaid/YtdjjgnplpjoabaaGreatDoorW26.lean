/- The scanner reads a number to the text's end; its conditions: the text is digits, or digits, a dot and digits, with no 0 ahead of another digit. -/
import Derived.Test.YtdjjgnplpjoabaaGreatDoorW25
namespace Go.Proofs.YtdjjgnplpjoabaaGreatDoor
open Go.RowKit

section
variable {T : TypeId} {B b r : Nat} {s : ByteArray} {ea : Addr} {tp : Nat} {R0 : Nat → Option Value} {w0 : World} {q : Nat} {w : World}

theorem Sw.alloc {bs : List Value} {R : Nat → Option Value} (h : Sw T B b r bs w0 R w) (hB : B ≤ w0.heap.size) (o : Obj) : Sw T B b r bs w0 R (w.alloc o) := by
  refine ⟨LibA.IsBuffer.alloc h.blk o, h.below.alloc (Nat.le_trans hB h.fr.size) o, ⟨h.fr.os, h.fr.tape, h.fr.output, ?_, fun k c t h1 h2 h3 h4 => ?_⟩⟩
  · have := h.fr.size
    show w0.heap.size ≤ (w.heap.push o).size
    rw [Array.size_push]; omega
  · have hk := h.fr.block k c t h1 h2 h3 h4
    have : k < w.heap.size := Lib.lt_of_heap hk
    rw [Below.heap_alloc _ _ _ this]; exact hk
theorem Rdr.lt {i : Int} (h : Rdr r s i w) : r < w.heap.size := by obtain ⟨x, h⟩ := h; exact Lib.lt_of_heap h
theorem Rdr.alloc {i : Int} (h : Rdr r s i w) (o : Obj) : Rdr r s i (w.alloc o) := h.of_heap (Below.heap_alloc _ _ _ h.lt)

theorem Cur.alloc (h : Cur T B b r s tp R0 w0 q w) (hB : B ≤ w0.heap.size) (o : Obj) : Cur T B b r s tp R0 w0 q (w.alloc o) := by
  rcases h with ⟨a, R, b1, b2, b3⟩ | ⟨a, R, b1, b2, b3⟩
  · exact Or.inl ⟨a, R, b1.alloc hB o, b2.alloc o, b3⟩
  · exact Or.inr ⟨a, R, b1.alloc hB o, b2.alloc o, b3⟩
theorem Cur.lts (h : Cur T B b r s tp R0 w0 q w) : b < w.heap.size ∧ r < w.heap.size ∧ w0.heap.size ≤ w.heap.size := by
  rcases h with ⟨a, R, b1, b2, b3⟩ | ⟨a, R, b1, b2, b3⟩ <;> exact ⟨LibA.IsBuffer.lt b1.blk, b2.lt, b1.fr.size⟩
theorem Cur.field (h : Cur T B b r s tp R0 w0 q w) (k : Nat) (hk : 1037 ≤ k) {v : Value} (hv : R0 k = some v) : w.cell? ⟨b, k, none⟩ = some v := by
  rcases h with ⟨_, R, b1, _, _, _, _, b3⟩ | ⟨_, R, b1, _, _, _, _, _, b3⟩ <;> exact b1.blk.cell k (by omega) ((b3 k (by omega) (by omega)).trans hv)

theorem next_at (E : Env B b r s ea R0 w0) (q : Nat) (c : Int) (w : World) (h : Cur T B b r s tp R0 w0 q w) (hq : q < s.size) (htp : tp ≤ q) (hc : chAt s (q + 1) = c) :
    Calls Tryz.prog 45 #[.pointer (some ⟨b, 0, none⟩)] w fun e w' => e = .returned (.int .i32 c) ∧ Cur T B b r s tp R0 w0 (q + 1) w' ∧ Fr b r w w' := by
  subst hc
  exact next_cur E q w h hq htp

theorem digits_some (E : Env B b r s ea R0 w0) (base v0 : Int) (hb8 : 8 ≤ base) (hb10 : base ≤ 10) (q q' iv : Nat) (c c' : Int) (w : World)
    (hC : Cur T B b r s tp R0 w0 q w) (hI : Inv iv v0 w) (hc : chAt s q = c) (hc' : chAt s q' = c') (htp : tp ≤ q) (hq : q < q') (hq' : q' ≤ s.size) (hd : ∀ i, q ≤ i → i < q' → 48 ≤ chAt s i ∧ chAt s i ≤ 57) (hs : c' < 48) (h1 : iv ≠ b) (h2 : iv ≠ r) (h3 : w0.heap.size ≤ iv) :
    Calls Tryz.prog 88 #[.pointer (some ⟨b, 0, none⟩), .int .i32 c, .int .i64 base, .pointer (some ⟨iv, 0, none⟩)] w fun e w' => e = .returned (.tuple #[.int .i32 c', .int .i64 1]) ∧ Cur T B b r s tp R0 w0 q' w' ∧ ∃ v, Inv iv v w' ∧ (base = 10 → v = v0) := by
  subst hc hc'
  refine (digits_any E base v0 hb8 hb10 q q' iv w ⟨hC, v0, hI, fun _ => rfl⟩ htp (by omega) hq' hd hs h1 h2 h3).mono ?_
  rintro e w' ⟨d, rfl, hdd, hC', v, hI', hv⟩
  obtain rfl : d = 1 := by omega
  exact ⟨rfl, hC', v, hI', fun h => hv (Or.inl h)⟩

theorem digits_none (E : Env B b r s ea R0 w0) (base v0 : Int) (hb8 : 8 ≤ base) (hb10 : base ≤ 10) (q iv : Nat) (c : Int) (w : World)
    (hC : Cur T B b r s tp R0 w0 q w) (hI : Inv iv v0 w) (hc : chAt s q = c) (htp : tp ≤ q) (hq' : q ≤ s.size) (hs : c < 48) (h1 : iv ≠ b) (h2 : iv ≠ r) (h3 : w0.heap.size ≤ iv) :
    Calls Tryz.prog 88 #[.pointer (some ⟨b, 0, none⟩), .int .i32 c, .int .i64 base, .pointer (some ⟨iv, 0, none⟩)] w fun e w' => e = .returned (.tuple #[.int .i32 c, .int .i64 0]) ∧ Cur T B b r s tp R0 w0 q w' ∧ Inv iv v0 w' := by
  subst hc
  refine (digits_any E base v0 hb8 hb10 q q iv w ⟨hC, v0, hI, fun _ => rfl⟩ htp (Nat.le_refl _) hq' (fun i h h' => by omega) hs h1 h2 h3).mono ?_
  rintro e w' ⟨d, rfl, hdd, hC', v, hI', hv⟩
  obtain rfl : d = 0 := by omega
  obtain rfl : v = v0 := hv (Or.inr rfl)
  exact ⟨rfl, hC', hI'⟩

theorem bits2816 : bits .and .u64 28 16 = 16 := by decide
theorem bitsA11 : bits .and .i64 1 1 = 1 := by decide
theorem bitsA12 : bits .and .i64 1 2 = 0 := by decide
theorem bits10 : bits .or .i64 1 0 = 1 := by decide

/-- Behind the reading of a number. -/
def Num (T : TypeId) (B b r : Nat) (s : ByteArray) (tp : Nat) (R0 : Nat → Option Value) (w0 : World) (tok : Int) (e : Ending) (w : World) : Prop :=
  e = .returned (.tuple #[.int .i32 tok, .int .i32 (-1)]) ∧ Cur T B b r s tp R0 w0 s.size w

set_option maxRecDepth 100000 in
set_option maxHeartbeats 4000000 in
theorem num_A1 (E : Env B b r s ea R0 w0) (w : World) (hC : Hid (Cur T B b r s tp R0 w0 tp w)) (_hm : Hid (R0 1041 = some (.int .u64 28))) (c : Int) (hc : Hid (chAt s tp = c)) (htp : tp < s.size) (hd : Hid (∀ i, tp ≤ i → i < s.size → 48 ≤ chAt s i ∧ chAt s i ≤ 57)) (hne : (c == 48) = false) :
    Calls Tryz.prog 50 #[.pointer (some ⟨b, 0, none⟩), .int .i32 c, .bool false] w (Num T B b r s tp R0 w0 (-3)) := by
  have hE := Lib.hid E
  obtain ⟨lb, lr, lw⟩ := hC.out.lts
  have hBw := E.size
  have e0 := bits2816
  have e1 := bitsA11
  have e2 := bitsA12
  have e3 := bits01
  have e4 := bits11
  have e5 := bits10
  have HA := Lib.hid (hC.out.alloc hBw (.cells #[.int .i32 0] 21 (0, 0)))
  have HI : Hid (Inv w.heap.size 0 (w.alloc (.cells #[.int .i32 0] 21 (0, 0)))) := heap_alloc_new _ _
  obtain ⟨d1, d2⟩ := hd.out tp (Nat.le_refl _) htp
  rw [hc.out] at d1 d2
  clear E hC
  go_enter Tryz.func50, Tryz.ntmps50
  go_wp2_with fail
  refine (digits_some hE.out 10 0 (by decide) (by decide) tp s.size w.heap.size c (-1) _ (by exact HA.out) (by exact HI.out) hc.out chAt_out (Nat.le_refl _) htp (Nat.le_refl _) hd.out (by decide) (by omega) (by omega) lw).mono ?_
  rintro e w1 ⟨rfl, hC1, v, hI1, hv⟩
  obtain rfl : v = 0 := hv rfl
  have ci := hI1.cell
  have HC1 := Lib.hid hC1
  clear hC1 hI1 hv HA HI
  go_wp2_with fail
  refine (lower_same (-1) _ (by omega)).mono ?_
  rintro _ _ ⟨rfl, rfl⟩
  go_wp2_with fail
  go_ret2
  exact ⟨rfl, HC1.out⟩

set_option maxRecDepth 100000 in
set_option maxHeartbeats 4000000 in
theorem num_A2s (E : Env B b r s ea R0 w0) (w : World) (hC : Hid (Cur T B b r s tp R0 w0 tp w)) (hm : Hid (R0 1041 = some (.int .u64 28))) (c : Int) (m : Nat) (hc : Hid (chAt s tp = c)) (htm : tp < m) (hms : m < s.size) (hd : Hid (∀ i, tp ≤ i → i < m → 48 ≤ chAt s i ∧ chAt s i ≤ 57)) (hne : (c == 48) = false) (hdot : Hid (chAt s m = 46)) (c2 : Int) (hc2 : Hid (chAt s (m + 1) = c2)) (hm1 : m + 1 < s.size) (hd2 : Hid (∀ i, m + 1 ≤ i → i < s.size → 48 ≤ chAt s i ∧ chAt s i ≤ 57)) :
    Calls Tryz.prog 50 #[.pointer (some ⟨b, 0, none⟩), .int .i32 c, .bool false] w (Num T B b r s tp R0 w0 (-4)) := by
  have hE := Lib.hid E
  obtain ⟨lb, lr, lw⟩ := hC.out.lts
  have hBw := E.size
  have e0 := bits2816
  have e1 := bitsA11
  have e2 := bitsA12
  have e3 := bits01
  have e4 := bits11
  have e5 := bits10
  have HA := Lib.hid (hC.out.alloc hBw (.cells #[.int .i32 0] 21 (0, 0)))
  have HI : Hid (Inv w.heap.size 0 (w.alloc (.cells #[.int .i32 0] 21 (0, 0)))) := heap_alloc_new _ _
  obtain ⟨d1, d2⟩ := hd.out tp (Nat.le_refl _) htm
  rw [hc.out] at d1 d2
  obtain ⟨d3, d4⟩ := hd2.out (m + 1) (Nat.le_refl _) hm1
  rw [hc2.out] at d3 d4
  clear E hC
  go_enter Tryz.func50, Tryz.ntmps50
  go_wp2_with fail
  refine (digits_some hE.out 10 0 (by decide) (by decide) tp m w.heap.size c 46 _ (by exact HA.out) (by exact HI.out) hc.out hdot.out (Nat.le_refl _) htm (by omega) hd.out (by decide) (by omega) (by omega) lw).mono ?_
  rintro e w1 ⟨rfl, hC1, v, hI1, hv⟩
  obtain rfl : v = 0 := hv rfl
  have cm := hC1.field 1041 (by decide) hm.out
  have HC1 := Lib.hid hC1
  have HI1 := Lib.hid hI1
  clear hC1 hI1 hv HA HI
  go_wp2_with fail
  refine (next_at hE.out m c2 _ (by exact HC1.out) hms (by omega) hc2.out).mono ?_
  rintro e w2 ⟨rfl, hC2, hF⟩
  have HC2 := Lib.hid hC2
  have HI2 := Lib.hid (HI1.out.of_fr hF (by omega) (by omega))
  clear hC2 hF HC1 HI1 cm
  go_wp2_with fail
  refine (digits_some hE.out 10 0 (by decide) (by decide) (m + 1) s.size w.heap.size c2 (-1) _ (by exact HC2.out) (by exact HI2.out) hc2.out chAt_out (by omega) hm1 (Nat.le_refl _) hd2.out (by decide) (by omega) (by omega) lw).mono ?_
  rintro e w3 ⟨rfl, hC3, v, hI3, hv⟩
  have HC3 := Lib.hid hC3
  have ci := hI3.cell
  clear hC3 hI3 HC2 HI2
  go_wp2_with fail
  refine (lower_same (-1) _ (by omega)).mono ?_
  rintro _ _ ⟨rfl, rfl⟩
  go_wp2_with fail
  go_ret2
  exact ⟨rfl, HC3.out⟩

set_option maxRecDepth 100000 in
set_option maxHeartbeats 4000000 in
theorem num_A2n (E : Env B b r s ea R0 w0) (w : World) (hC : Hid (Cur T B b r s tp R0 w0 tp w)) (hm : Hid (R0 1041 = some (.int .u64 28))) (c : Int) (m : Nat) (hc : Hid (chAt s tp = c)) (htm : tp < m) (hms : m < s.size) (hd : Hid (∀ i, tp ≤ i → i < m → 48 ≤ chAt s i ∧ chAt s i ≤ 57)) (hne : (c == 48) = false) (hdot : Hid (chAt s m = 46)) (hm1 : Hid (m + 1 = s.size)) :
    Calls Tryz.prog 50 #[.pointer (some ⟨b, 0, none⟩), .int .i32 c, .bool false] w (Num T B b r s tp R0 w0 (-4)) := by
  have hE := Lib.hid E
  obtain ⟨lb, lr, lw⟩ := hC.out.lts
  have hBw := E.size
  have e0 := bits2816
  have e1 := bitsA11
  have e2 := bitsA12
  have e3 := bits01
  have e4 := bits11
  have e5 := bits10
  have HA := Lib.hid (hC.out.alloc hBw (.cells #[.int .i32 0] 21 (0, 0)))
  have HI : Hid (Inv w.heap.size 0 (w.alloc (.cells #[.int .i32 0] 21 (0, 0)))) := heap_alloc_new _ _
  obtain ⟨d1, d2⟩ := hd.out tp (Nat.le_refl _) htm
  rw [hc.out] at d1 d2
  clear E hC
  go_enter Tryz.func50, Tryz.ntmps50
  go_wp2_with fail
  refine (digits_some hE.out 10 0 (by decide) (by decide) tp m w.heap.size c 46 _ (by exact HA.out) (by exact HI.out) hc.out hdot.out (Nat.le_refl _) htm (by omega) hd.out (by decide) (by omega) (by omega) lw).mono ?_
  rintro e w1 ⟨rfl, hC1, v, hI1, hv⟩
  obtain rfl : v = 0 := hv rfl
  have cm := hC1.field 1041 (by decide) hm.out
  have HC1 := Lib.hid hC1
  have HI1 := Lib.hid hI1
  clear hC1 hI1 hv HA HI
  go_wp2_with fail
  refine (next_at hE.out m (-1) _ (by exact HC1.out) hms (by omega) (by rw [hm1.out]; exact chAt_out)).mono ?_
  rintro e w2 ⟨rfl, hC2, hF⟩
  have HC2 := Lib.hid hC2
  have HI2 := Lib.hid (HI1.out.of_fr hF (by omega) (by omega))
  clear hC2 hF HC1 HI1 cm
  go_wp2_with fail
  refine (digits_none hE.out 10 0 (by decide) (by decide) (m + 1) w.heap.size (-1) _ (by exact HC2.out) (by exact HI2.out) (by rw [hm1.out]; exact chAt_out) (by omega) (by have := hm1.out; omega) (by decide) (by omega) (by omega) lw).mono ?_
  rintro e w3 ⟨rfl, hC3, hI3⟩
  have HC3 := Lib.hid hC3
  have ci := hI3.cell
  clear hC3 hI3 HC2 HI2
  go_wp2_with fail
  refine (lower_same (-1) _ (by omega)).mono ?_
  rintro _ _ ⟨rfl, rfl⟩
  go_wp2_with fail
  go_ret2
  exact ⟨rfl, by rw [← hm1.out]; exact HC3.out⟩

set_option maxRecDepth 100000 in
set_option maxHeartbeats 4000000 in
theorem num_B1 (E : Env B b r s ea R0 w0) (w : World) (hC : Hid (Cur T B b r s tp R0 w0 tp w)) (_hm : Hid (R0 1041 = some (.int .u64 28))) (_hc : Hid (chAt s tp = 48)) (h1s : Hid (tp + 1 = s.size)) :
    Calls Tryz.prog 50 #[.pointer (some ⟨b, 0, none⟩), .int .i32 48, .bool false] w (Num T B b r s tp R0 w0 (-3)) := by
  have hE := Lib.hid E
  obtain ⟨lb, lr, lw⟩ := hC.out.lts
  have hBw := E.size
  have e0 := bits2816
  have e1 := bitsA11
  have e2 := bitsA12
  have e3 := bits01
  have e4 := bits11
  have e5 := bits10
  have HA := Lib.hid (hC.out.alloc hBw (.cells #[.int .i32 0] 21 (0, 0)))
  have HI : Hid (Inv w.heap.size 0 (w.alloc (.cells #[.int .i32 0] 21 (0, 0)))) := heap_alloc_new _ _
  clear E
  go_enter Tryz.func50, Tryz.ntmps50
  go_wp2_with fail
  refine (next_at hE.out tp (-1) _ (by exact HA.out) (by have := h1s.out; omega) (Nat.le_refl _) (by rw [h1s.out]; exact chAt_out)).mono ?_
  rintro e w1 ⟨rfl, hC1, hF⟩
  have HC1 := Lib.hid hC1
  have HI1 := Lib.hid (HI.out.of_fr hF (by omega) (by omega))
  clear hC1 hF HA HI hC
  go_wp2_with fail
  refine (lower_same (-1) _ (by omega)).mono ?_
  rintro _ _ ⟨rfl, rfl⟩
  go_wp2_with fail
  refine (digits_none hE.out 8 0 (by decide) (by decide) (tp + 1) w.heap.size (-1) _ (by exact HC1.out) (by exact HI1.out) (by rw [h1s.out]; exact chAt_out) (by omega) (by have := h1s.out; omega) (by decide) (by omega) (by omega) lw).mono ?_
  rintro e w2 ⟨rfl, hC2, hI2⟩
  have HC2 := Lib.hid hC2
  have ci := hI2.cell
  clear hC2 hI2 HC1 HI1
  go_wp2_with fail
  refine (lower_same (-1) _ (by omega)).mono ?_
  rintro _ _ ⟨rfl, rfl⟩
  go_wp2_with fail
  go_ret2
  exact ⟨rfl, by rw [← h1s.out]; exact HC2.out⟩

set_option maxRecDepth 100000 in
set_option maxHeartbeats 4000000 in
theorem num_B2s (E : Env B b r s ea R0 w0) (w : World) (hC : Hid (Cur T B b r s tp R0 w0 tp w)) (hm : Hid (R0 1041 = some (.int .u64 28))) (_hc : Hid (chAt s tp = 48)) (h1s : tp + 1 < s.size) (hdot : Hid (chAt s (tp + 1) = 46)) (c2 : Int) (hc2 : Hid (chAt s (tp + 1 + 1) = c2)) (hm1 : tp + 1 + 1 < s.size) (hd2 : Hid (∀ i, tp + 1 + 1 ≤ i → i < s.size → 48 ≤ chAt s i ∧ chAt s i ≤ 57)) :
    Calls Tryz.prog 50 #[.pointer (some ⟨b, 0, none⟩), .int .i32 48, .bool false] w (Num T B b r s tp R0 w0 (-4)) := by
  have hE := Lib.hid E
  obtain ⟨lb, lr, lw⟩ := hC.out.lts
  have hBw := E.size
  have e0 := bits2816
  have e1 := bitsA11
  have e2 := bitsA12
  have e3 := bits01
  have e4 := bits11
  have e5 := bits10
  have HA := Lib.hid (hC.out.alloc hBw (.cells #[.int .i32 0] 21 (0, 0)))
  have HI : Hid (Inv w.heap.size 0 (w.alloc (.cells #[.int .i32 0] 21 (0, 0)))) := heap_alloc_new _ _
  obtain ⟨d3, d4⟩ := hd2.out (tp + 1 + 1) (Nat.le_refl _) hm1
  rw [hc2.out] at d3 d4
  clear E
  go_enter Tryz.func50, Tryz.ntmps50
  go_wp2_with fail
  refine (next_at hE.out tp 46 _ (by exact HA.out) (by omega) (Nat.le_refl _) hdot.out).mono ?_
  rintro e w1 ⟨rfl, hC1, hF⟩
  have HC1 := Lib.hid hC1
  have HI1 := Lib.hid (HI.out.of_fr hF (by omega) (by omega))
  clear hC1 hF HA HI hC
  go_wp2_with fail
  refine (lower_same 46 _ (by omega)).mono ?_
  rintro _ _ ⟨rfl, rfl⟩
  go_wp2_with fail
  refine (digits_none hE.out 8 0 (by decide) (by decide) (tp + 1) w.heap.size 46 _ (by exact HC1.out) (by exact HI1.out) hdot.out (by omega) (by omega) (by decide) (by omega) (by omega) lw).mono ?_
  rintro e w2 ⟨rfl, hC2, hI2⟩
  have cm := hC2.field 1041 (by decide) hm.out
  have HC2 := Lib.hid hC2
  have HI2 := Lib.hid hI2
  clear hC2 hI2 HC1 HI1
  go_wp2_with fail
  refine (next_at hE.out (tp + 1) c2 _ (by exact HC2.out) (by omega) (by omega) hc2.out).mono ?_
  rintro e w3 ⟨rfl, hC3, hF⟩
  have HC3 := Lib.hid hC3
  have HI3 := Lib.hid (HI2.out.of_fr hF (by omega) (by omega))
  clear hC3 hF HC2 HI2 cm
  go_wp2_with fail
  refine (digits_some hE.out 8 0 (by decide) (by decide) (tp + 1 + 1) s.size w.heap.size c2 (-1) _ (by exact HC3.out) (by exact HI3.out) hc2.out chAt_out (by omega) hm1 (Nat.le_refl _) hd2.out (by decide) (by omega) (by omega) lw).mono ?_
  rintro e w4 ⟨rfl, hC4, v, hI4, hv⟩
  clear hv
  have HC4 := Lib.hid hC4
  clear hC4 hI4 HC3 HI3
  go_wp2_with fail
  refine (lower_same (-1) _ (by omega)).mono ?_
  rintro _ _ ⟨rfl, rfl⟩
  go_wp2_with fail
  go_ret2
  exact ⟨rfl, HC4.out⟩

set_option maxRecDepth 100000 in
set_option maxHeartbeats 4000000 in
theorem num_B2n (E : Env B b r s ea R0 w0) (w : World) (hC : Hid (Cur T B b r s tp R0 w0 tp w)) (hm : Hid (R0 1041 = some (.int .u64 28))) (_hc : Hid (chAt s tp = 48)) (h1s : tp + 1 < s.size) (hdot : Hid (chAt s (tp + 1) = 46)) (hm1 : Hid (tp + 1 + 1 = s.size)) :
    Calls Tryz.prog 50 #[.pointer (some ⟨b, 0, none⟩), .int .i32 48, .bool false] w (Num T B b r s tp R0 w0 (-4)) := by
  have hE := Lib.hid E
  obtain ⟨lb, lr, lw⟩ := hC.out.lts
  have hBw := E.size
  have e0 := bits2816
  have e1 := bitsA11
  have e2 := bitsA12
  have e3 := bits01
  have e4 := bits11
  have e5 := bits10
  have HA := Lib.hid (hC.out.alloc hBw (.cells #[.int .i32 0] 21 (0, 0)))
  have HI : Hid (Inv w.heap.size 0 (w.alloc (.cells #[.int .i32 0] 21 (0, 0)))) := heap_alloc_new _ _
  clear E
  go_enter Tryz.func50, Tryz.ntmps50
  go_wp2_with fail
  refine (next_at hE.out tp 46 _ (by exact HA.out) (by omega) (Nat.le_refl _) hdot.out).mono ?_
  rintro e w1 ⟨rfl, hC1, hF⟩
  have HC1 := Lib.hid hC1
  have HI1 := Lib.hid (HI.out.of_fr hF (by omega) (by omega))
  clear hC1 hF HA HI hC
  go_wp2_with fail
  refine (lower_same 46 _ (by omega)).mono ?_
  rintro _ _ ⟨rfl, rfl⟩
  go_wp2_with fail
  refine (digits_none hE.out 8 0 (by decide) (by decide) (tp + 1) w.heap.size 46 _ (by exact HC1.out) (by exact HI1.out) hdot.out (by omega) (by omega) (by decide) (by omega) (by omega) lw).mono ?_
  rintro e w2 ⟨rfl, hC2, hI2⟩
  have cm := hC2.field 1041 (by decide) hm.out
  have HC2 := Lib.hid hC2
  have HI2 := Lib.hid hI2
  clear hC2 hI2 HC1 HI1
  go_wp2_with fail
  refine (next_at hE.out (tp + 1) (-1) _ (by exact HC2.out) (by omega) (by omega) (by rw [hm1.out]; exact chAt_out)).mono ?_
  rintro e w3 ⟨rfl, hC3, hF⟩
  have HC3 := Lib.hid hC3
  have HI3 := Lib.hid (HI2.out.of_fr hF (by omega) (by omega))
  clear hC3 hF HC2 HI2 cm
  go_wp2_with fail
  refine (digits_none hE.out 8 0 (by decide) (by decide) (tp + 1 + 1) w.heap.size (-1) _ (by exact HC3.out) (by exact HI3.out) (by rw [hm1.out]; exact chAt_out) (by omega) (by have := hm1.out; omega) (by decide) (by omega) (by omega) lw).mono ?_
  rintro e w4 ⟨rfl, hC4, hI4⟩
  have HC4 := Lib.hid hC4
  clear hC4 hI4 HC3 HI3
  go_wp2_with fail
  refine (lower_same (-1) _ (by omega)).mono ?_
  rintro _ _ ⟨rfl, rfl⟩
  go_wp2_with fail
  go_ret2
  exact ⟨rfl, by rw [← hm1.out]; exact HC4.out⟩

end
end Go.Proofs.YtdjjgnplpjoabaaGreatDoor
