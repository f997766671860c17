/- The scanner reads a row of digits; its conditions: the row's end is known, behind it stands a dot or the text's end. -/
import Derived.Test.YtdjjgnplpjoabaaGreatDoorW24
import Derived.Deep.LoopGhost
namespace Go.Proofs.YtdjjgnplpjoabaaGreatDoor
open Go.RowKit

theorem isDec_yes (c : Int) (w : World) (h1 : 48 ≤ c) (h2 : c ≤ 57) : Calls Tryz.prog 49 #[.int .i32 c] w fun e w' => e = .returned (.bool true) ∧ w = w' := by
  go_enter Tryz.func49, Tryz.ntmps49
  go_wp2
  go_ret
  exact ⟨rfl, rfl⟩

theorem isDec_no (c : Int) (w : World) (h : c < 48) : Calls Tryz.prog 49 #[.int .i32 c] w fun e w' => e = .returned (.bool false) ∧ w = w' := by
  have hd : decide (48 ≤ c) = false := decide_eq_false (by omega)
  go_enter Tryz.func49, Tryz.ntmps49
  go_wp2
  go_ret
  exact ⟨rfl, rfl⟩

theorem or32_same (c : Int) (h : c = -1 ∨ 45 ≤ c ∧ c ≤ 57) : bits .or .i32 32 c = c := by
  have h' : c = -1 ∨ c = 45 ∨ c = 46 ∨ c = 47 ∨ c = 48 ∨ c = 49 ∨ c = 50 ∨ c = 51 ∨ c = 52 ∨ c = 53 ∨ c = 54 ∨ c = 55 ∨ c = 56 ∨ c = 57 := by omega
  rcases h' with rfl | rfl | rfl | rfl | rfl | rfl | rfl | rfl | rfl | rfl | rfl | rfl | rfl | rfl <;> decide

theorem lower_same (c : Int) (w : World) (h : c = -1 ∨ 45 ≤ c ∧ c ≤ 57) : Calls Tryz.prog 87 #[.int .i32 c] w fun e w' => e = .returned (.int .i32 c) ∧ w = w' := by
  have hb := or32_same c h
  have h1 : -1 ≤ c := by omega
  have h2 : c ≤ 57 := by omega
  clear h
  go_enter Tryz.func87, Tryz.ntmps87
  go_wp2
  go_ret
  exact ⟨rfl, rfl⟩

/-- The cell in which an unfit digit is kept. -/
def Inv (iv : Nat) (v : Int) (w : World) : Prop := w.heap[iv]? = some (.cells #[.int .i32 v] 21 (0, 0))
theorem Inv.cell {iv : Nat} {v : Int} {w : World} (h : Inv iv v w) : w.cell? ⟨iv, 0, none⟩ = some (.int .i32 v) := by rw [Lib.cell_of_heap h]; rfl
theorem Inv.free {iv : Nat} {v : Int} {w : World} (h : Inv iv v w) : w.frozen? ⟨iv, 0, none⟩ = false := Lib.frozen_of_heap h 0
theorem Inv.set {iv : Nat} {v : Int} {w : World} (h : Inv iv v w) (u : Int) : Inv iv u (w.setCell ⟨iv, 0, none⟩ (.int .i32 u)) := Lib.heap_setCell_same (i := 0) h _
theorem Inv.of_fr {b r iv : Nat} {v : Int} {w w' : World} (h : Inv iv v w) (hf : Fr b r w w') (h1 : iv ≠ b) (h2 : iv ≠ r) : Inv iv v w' := hf.block iv _ _ h1 h2 (by decide) h

/-- A store into a younger block of another kind leaves the scanner where it stands. -/
theorem Cur.other {T : TypeId} {B b r : Nat} {s : ByteArray} {tp : Nat} {R0 : Nat → Option Value} {w0 : World} {q : Nat} {w : World} (h : Cur T B b r s tp R0 w0 q w) {iv : Nat} {v : Int} (hi : Inv iv v w) (h1 : iv ≠ b) (h2 : iv ≠ r) (h3 : w0.heap.size ≤ iv) (hB : B ≤ iv) (u : Value) :
    Cur T B b r s tp R0 w0 q (w.setCell ⟨iv, 0, none⟩ u) := by
  have hS : ∀ {bs : List Value} {R : Nat → Option Value}, Sw T B b r bs w0 R w → Sw T B b r bs w0 R (w.setCell ⟨iv, 0, none⟩ u) := by
    intro bs R hs
    obtain ⟨⟨hB2, v0, lr, hbk, hown, hne⟩, hbel, hfr⟩ := hs
    refine ⟨⟨hB2, v0, lr, hbk.of_heap (Below.heap_setCell _ _ _ _ (Ne.symm h1)), ?_, hne⟩, hbel.setCell (p := ⟨iv, 0, none⟩) hB _, ?_⟩
    · refine hown.kept (Lib.grownBy_setCell w iv 0 u) ?_
      rcases hown.2 with ⟨rfl, h0⟩ | ⟨g, cap, cur, rfl, hBg, hg, hnc, hcm, hcs, htk⟩
      · right; simp [Value.ownBlock]
      · right
        intro e
        have : g = iv := by simpa [Value.ownBlock] using e
        subst this
        unfold Inv at hi
        rw [hi] at hg
        injection hg with hg
        injection hg with _ h2 _
        exact absurd h2 (by decide)
    · refine ⟨hfr.os, hfr.tape, hfr.output, by simpa [World.setCell] using hfr.size, fun k c t k1 k2 k3 k4 => ?_⟩
      have : k < w0.heap.size := by
        rcases Nat.lt_or_ge k w0.heap.size with h | h
        · exact h
        · rw [Array.getElem?_eq_none h] at k4; cases k4
      rw [Below.heap_setCell _ _ _ _ (show k ≠ iv by omega)]
      exact hfr.block k c t k1 k2 k3 k4
  have hR : ∀ {i : Int}, Rdr r s i w → Rdr r s i (w.setCell ⟨iv, 0, none⟩ u) := fun hr => hr.of_heap (Below.heap_setCell _ _ _ _ (Ne.symm h2))
  rcases h with ⟨a, R, b1, b2, b3⟩ | ⟨a, R, b1, b2, b3⟩
  · exact Or.inl ⟨a, R, hS b1, hR b2, b3⟩
  · exact Or.inr ⟨a, R, hS b1, hR b2, b3⟩

theorem bits01 : bits .or .i64 0 1 = 1 := by decide
theorem bits11 : bits .or .i64 1 1 = 1 := by decide

/-- What holds at the head of a round over digits. -/
def AtDigit (T : TypeId) (B b r : Nat) (s : ByteArray) (tp : Nat) (R0 : Nat → Option Value) (w0 : World) (base v0 : Int) (iv q k : Nat) (w : World) : Prop :=
  Cur T B b r s tp R0 w0 k w ∧ ∃ v, Inv iv v w ∧ (base = 10 ∨ k = q → v = v0)

def DigRel (T : TypeId) (B b r : Nat) (s : ByteArray) (tp : Nat) (R0 : Nat → Option Value) (w0 : World) (base v0 : Int) (iv q q' g : Nat) (ch ds : Value) (w : World) : Prop :=
  ∃ (k : Nat) (d : Int), q ≤ k ∧ k ≤ q' ∧ g = q' - k ∧ ch = .int .i32 (chAt s k) ∧ ds = .int .i64 d ∧ (d = 0 ∧ k = q ∨ d = 1 ∧ k ≠ q) ∧ AtDigit T B b r s tp R0 w0 base v0 iv q k w

def Digs (T : TypeId) (B b r : Nat) (s : ByteArray) (tp : Nat) (R0 : Nat → Option Value) (w0 : World) (base v0 : Int) (iv q q' : Nat) (e : Ending) (w : World) : Prop :=
  ∃ d : Int, e = .returned (.tuple #[.int .i32 (chAt s q'), .int .i64 d]) ∧ (d = 0 ∧ q' = q ∨ d = 1 ∧ q' ≠ q) ∧ AtDigit T B b r s tp R0 w0 base v0 iv q q' w

set_option maxRecDepth 100000 in
set_option maxHeartbeats 4000000 in
theorem digits_any {T : TypeId} {B b r : Nat} {s : ByteArray} {ea : Addr} {tp : Nat} {R0 : Nat → Option Value} {w0 : World} (E : Env B b r s ea R0 w0) (base v0 : Int) (hb8 : 8 ≤ base) (hb10 : base ≤ 10) (q q' iv : Nat) (w : World)
    (hA : Hid (AtDigit T B b r s tp R0 w0 base v0 iv q q w)) (htp : tp ≤ q) (hq : q ≤ q') (hq' : q' ≤ s.size) (hd : Hid (∀ i, q ≤ i → i < q' → 48 ≤ chAt s i ∧ chAt s i ≤ 57)) (hs : chAt s q' < 48) (h1 : iv ≠ b) (h2 : iv ≠ r) (h3 : w0.heap.size ≤ iv) :
    Calls Tryz.prog 88 #[.pointer (some ⟨b, 0, none⟩), .int .i32 (chAt s q), .int .i64 base, .pointer (some ⟨iv, 0, none⟩)] w (Digs T B b r s tp R0 w0 base v0 iv q q') := by
  have hE := Lib.hid E
  have e01 := bits01
  have e11 := bits11
  clear E
  go_enter Tryz.func88, Tryz.ntmps88
  go_wp2_with fail
  go_loopg [8, 9] (q' - q) (fun g ch ds wr => DigRel T B b r s tp R0 w0 base v0 iv q q' g ch ds wr)
  case atStart => exact ⟨q, 0, Nat.le_refl _, hq, rfl, rfl, rfl, Or.inl ⟨rfl, rfl⟩, hA.out⟩
  case round =>
    obtain ⟨k, d, hk1, hk2, hg, rfl, rfl, hdd, hC, v, hI, hv⟩ := hrel
    have HC := Lib.hid hC
    have HI := Lib.hid hI
    have HV := Lib.hid hv
    have HG := Lib.hid hg
    have HD := Lib.hid hdd
    have ci := hI.cell
    have fi := hI.free
    clear hI hC hv hg hA hdd
    by_cases hlt : k < q'
    · obtain ⟨d1, d2⟩ := hd.out k hk1 hlt
      have hdd2 : d = 0 ∨ d = 1 := by rcases HD.out with ⟨h, _⟩ | ⟨h, _⟩ <;> omega
      by_cases hge : 48 + base ≤ chAt s k
      · by_cases hv0 : v = 0
        · obtain rfl : v = 0 := hv0
          rcases hdd2 with rfl | rfl
          · go_wp2_with (first | (go_at_call 49; go_must (refine (isDec_yes _ _ d1 d2).mono ?_); rintro e w' ⟨rfl, rfl⟩) | (go_at_call 45; go_must (refine (next_cur hE.out k _ (by exact (HC.out.other HI.out h1 h2 h3 (Nat.le_trans hE.out.size h3) _)) (by omega) (by omega)).mono ?_); rintro e w' ⟨rfl, hC2, hF⟩; have HC2 := Lib.hid hC2; have HI2 := Lib.hid (Inv.of_fr (HI.out.set _) hF h1 h2); clear hC2 hF ci fi))
            go_roundg (q' - (k + 1))
            case measure => have := HG.out; omega
            case rel => exact ⟨k + 1, 1, by omega, by omega, rfl, rfl, rfl, Or.inr ⟨rfl, by omega⟩, HC2.out, _, HI2.out, fun h => by omega⟩
          · go_wp2_with (first | (go_at_call 49; go_must (refine (isDec_yes _ _ d1 d2).mono ?_); rintro e w' ⟨rfl, rfl⟩) | (go_at_call 45; go_must (refine (next_cur hE.out k _ (by exact (HC.out.other HI.out h1 h2 h3 (Nat.le_trans hE.out.size h3) _)) (by omega) (by omega)).mono ?_); rintro e w' ⟨rfl, hC2, hF⟩; have HC2 := Lib.hid hC2; have HI2 := Lib.hid (Inv.of_fr (HI.out.set _) hF h1 h2); clear hC2 hF ci fi))
            go_roundg (q' - (k + 1))
            case measure => have := HG.out; omega
            case rel => exact ⟨k + 1, 1, by omega, by omega, rfl, rfl, rfl, Or.inr ⟨rfl, by omega⟩, HC2.out, _, HI2.out, fun h => by omega⟩
        · have hvb : (v == 0) = false := by simpa using hv0
          rcases hdd2 with rfl | rfl
          · go_wp2_with (first | (go_at_call 49; go_must (refine (isDec_yes _ _ d1 d2).mono ?_); rintro e w' ⟨rfl, rfl⟩) | (go_at_call 45; go_must (refine (next_cur hE.out k _ (by exact HC.out) (by omega) (by omega)).mono ?_); rintro e w' ⟨rfl, hC2, hF⟩; have HC2 := Lib.hid hC2; have HI2 := Lib.hid (Inv.of_fr HI.out hF h1 h2); clear hC2 hF ci fi))
            go_roundg (q' - (k + 1))
            case measure => have := HG.out; omega
            case rel => exact ⟨k + 1, 1, by omega, by omega, rfl, rfl, rfl, Or.inr ⟨rfl, by omega⟩, HC2.out, _, HI2.out, fun h => by omega⟩
          · go_wp2_with (first | (go_at_call 49; go_must (refine (isDec_yes _ _ d1 d2).mono ?_); rintro e w' ⟨rfl, rfl⟩) | (go_at_call 45; go_must (refine (next_cur hE.out k _ (by exact HC.out) (by omega) (by omega)).mono ?_); rintro e w' ⟨rfl, hC2, hF⟩; have HC2 := Lib.hid hC2; have HI2 := Lib.hid (Inv.of_fr HI.out hF h1 h2); clear hC2 hF ci fi))
            go_roundg (q' - (k + 1))
            case measure => have := HG.out; omega
            case rel => exact ⟨k + 1, 1, by omega, by omega, rfl, rfl, rfl, Or.inr ⟨rfl, by omega⟩, HC2.out, _, HI2.out, fun h => by omega⟩
      · have hgf : decide (48 + base ≤ chAt s k) = false := decide_eq_false hge
        rcases hdd2 with rfl | rfl
        · go_wp2_with (first | (go_at_call 49; go_must (refine (isDec_yes _ _ d1 d2).mono ?_); rintro e w' ⟨rfl, rfl⟩) | (go_at_call 45; go_must (refine (next_cur hE.out k _ (by exact HC.out) (by omega) (by omega)).mono ?_); rintro e w' ⟨rfl, hC2, hF⟩; have HC2 := Lib.hid hC2; have HI2 := Lib.hid (Inv.of_fr HI.out hF h1 h2); clear hC2 hF ci fi))
          go_roundg (q' - (k + 1))
          case measure => have := HG.out; omega
          case rel => exact ⟨k + 1, 1, by omega, by omega, rfl, rfl, rfl, Or.inr ⟨rfl, by omega⟩, HC2.out, _, HI2.out, fun h => HV.out (by omega)⟩
        · go_wp2_with (first | (go_at_call 49; go_must (refine (isDec_yes _ _ d1 d2).mono ?_); rintro e w' ⟨rfl, rfl⟩) | (go_at_call 45; go_must (refine (next_cur hE.out k _ (by exact HC.out) (by omega) (by omega)).mono ?_); rintro e w' ⟨rfl, hC2, hF⟩; have HC2 := Lib.hid hC2; have HI2 := Lib.hid (Inv.of_fr HI.out hF h1 h2); clear hC2 hF ci fi))
          go_roundg (q' - (k + 1))
          case measure => have := HG.out; omega
          case rel => exact ⟨k + 1, 1, by omega, by omega, rfl, rfl, rfl, Or.inr ⟨rfl, by omega⟩, HC2.out, _, HI2.out, fun h => HV.out (by omega)⟩
    · obtain rfl : k = q' := by omega
      go_wp2_with (go_at_call 49; go_must (refine (isDec_no _ _ hs).mono ?_); rintro e w' ⟨rfl, rfl⟩)
      go_ret2
      exact ⟨d, rfl, HD.out, HC.out, v, HI.out, HV.out⟩

end Go.Proofs.YtdjjgnplpjoabaaGreatDoor
