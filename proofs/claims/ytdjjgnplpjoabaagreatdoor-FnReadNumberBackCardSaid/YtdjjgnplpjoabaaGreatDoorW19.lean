/- The scanner's block: its cells beside its buffer; a step over one character. -/
import Derived.Test.YtdjjgnplpjoabaaGreatDoorW18
namespace Go.Proofs.YtdjjgnplpjoabaaGreatDoor
open Go.RowKit

/-- One cell more. -/
def upd (R : Nat → Option Value) (i : Nat) (v : Value) : Nat → Option Value := fun k => if k = i then some v else R k
theorem upd_same (R : Nat → Option Value) (i : Nat) (v : Value) : upd R i v i = some v := if_pos rfl
theorem upd_other (R : Nat → Option Value) (i k : Nat) (v : Value) (h : k ≠ i) : upd R i v k = R k := if_neg h

/-- The scanner's block: its buffer at 1033, all other cells as R says. -/
abbrev Blk (T : TypeId) (R : Nat → Option Value) (B b : Nat) (bs : List Value) (w : World) : Prop := LibA.IsBuffer T R 5 B b 1033 bs w

theorem Blk.cell {T : TypeId} {R : Nat → Option Value} {B b : Nat} {bs : List Value} {w : World} (h : Blk T R B b bs w) (i : Nat) (hi : i < 1033 ∨ 1036 ≤ i) {v : Value} (hv : R i = some v) : w.cell? ⟨b, i, none⟩ = some v := by
  obtain ⟨_, _, _, h3, _⟩ := h
  rw [h3.rest i hi, hv]
theorem Blk.free {T : TypeId} {R : Nat → Option Value} {B b : Nat} {bs : List Value} {w : World} (h : Blk T R B b bs w) (i : Nat) : w.frozen? ⟨b, i, none⟩ = false := by
  obtain ⟨_, _, _, h3, _⟩ := h
  exact h3.f i

theorem three_set {w : World} {b o : Nat} {T : TypeId} {R : Nat → Option Value} {x y z : Value} (h : LibA.Three w b o T R x y z) (i : Nat) (hi : i < o ∨ o + 3 ≤ i) (v : Value) {u : Value} (hu : R i = some u) :
    LibA.Three (w.setCell ⟨b, i, none⟩ v) b o T (upd R i v) x y z := by
  obtain ⟨cs, hb, h0, h1, h2, hr⟩ := h
  have hlt : i < cs.size := (Array.getElem?_eq_some_iff.1 ((hr i hi).trans hu)).1
  refine ⟨_, Lib.heap_setCell_same (i := i) hb v, ?_, ?_, ?_, ?_⟩
  · rw [Array.getElem?_setIfInBounds_ne (by omega)]; exact h0
  · rw [Array.getElem?_setIfInBounds_ne (by omega)]; exact h1
  · rw [Array.getElem?_setIfInBounds_ne (by omega)]; exact h2
  · intro k hk
    unfold upd
    by_cases e : k = i
    · subst e; simp [hlt]
    · rw [if_neg e, Array.getElem?_setIfInBounds_ne (by omega)]; exact hr k hk

theorem Blk.set {T : TypeId} {R : Nat → Option Value} {B b : Nat} {bs : List Value} {w : World} (h : Blk T R B b bs w) (i : Nat) (hi : i < 1033 ∨ 1036 ≤ i) (v : Value) {u : Value} (hu : R i = some u) : Blk T (upd R i v) B b bs (w.setCell ⟨b, i, none⟩ v) := by
  obtain ⟨hB, v0, lr, hbk, hown, hne⟩ := h
  exact ⟨hB, v0, lr, three_set hbk i hi v hu, hown.kept (Lib.grownBy_setCell w b i v) (Or.inr hne), hne⟩

theorem Blk.drew {T : TypeId} {R : Nat → Option Value} {B b : Nat} {bs : List Value} {w : World} (h : Blk T R B b bs w) : Blk T R B b bs w.drew := h

/-- Only blocks b and r have turned; blocks of bytes may have. -/
structure Fr (b r : Nat) (w w' : World) : Prop where
  os : w'.os = w.os
  tape : w'.tape = w.tape
  output : w'.output = w.output
  size : w.heap.size ≤ w'.heap.size
  block : ∀ k c t, k ≠ b → k ≠ r → t ≠ 5 → w.heap[k]? = some (.cells c t (0, 0)) → w'.heap[k]? = some (.cells c t (0, 0))

theorem Fr.refl (b r : Nat) (w : World) : Fr b r w w := ⟨rfl, rfl, rfl, Nat.le_refl _, fun _ _ _ _ _ _ h => h⟩
theorem Fr.trans {b r : Nat} {w1 w2 w3 : World} (h : Fr b r w1 w2) (k : Fr b r w2 w3) : Fr b r w1 w3 :=
  ⟨k.os.trans h.os, k.tape.trans h.tape, k.output.trans h.output, Nat.le_trans h.size k.size, fun x c t h1 h2 h3 h4 => k.block x c t h1 h2 h3 (h.block x c t h1 h2 h3 h4)⟩
theorem Fr.set {b r : Nat} {w1 w2 : World} (h : Fr b r w1 w2) (p : Addr) (v : Value) (hp : p.block = b ∨ p.block = r) : Fr b r w1 (w2.setCell p v) :=
  h.trans ⟨rfl, rfl, rfl, by simp [World.setCell], fun k c t h1 h2 _ h4 => by rw [Below.heap_setCell _ _ _ _ (by rcases hp with h | h <;> omega)]; exact h4⟩
theorem Fr.drew {b r : Nat} {w1 w2 : World} (h : Fr b r w1 w2) : Fr b r w1 w2.drew := ⟨h.os, h.tape, h.output, h.size, h.block⟩

/-- From w0 to w: the scanner's block stands, all below B stands, other blocks stand. -/
structure Sw (T : TypeId) (B b r : Nat) (bs : List Value) (w0 : World) (R : Nat → Option Value) (w : World) : Prop where
  blk : Blk T R B b bs w
  below : Below B w0 w
  fr : Fr b r w0 w

section
variable {T : TypeId} {B b r : Nat} {bs : List Value} {w0 w : World} {R : Nat → Option Value}
theorem Sw.init (h : Blk T R B b bs w) : Sw T B b r bs w R w := ⟨h, Below.refl _ _, Fr.refl _ _ _⟩
theorem Sw.drewN (h : Sw T B b r bs w0 R w) (n : Nat) : Sw T B b r bs w0 R (w.drewN n) :=
  ⟨h.blk, h.below.trans ⟨rfl, rfl, rfl, Nat.le_refl _, fun _ _ => rfl⟩, h.fr.trans ⟨rfl, rfl, rfl, Nat.le_refl _, fun _ _ _ _ _ _ h => h⟩⟩
theorem Sw.drew (h : Sw T B b r bs w0 R w) : Sw T B b r bs w0 R w.drew := h.drewN 1
theorem Sw.set (h : Sw T B b r bs w0 R w) (i : Nat) (hi : i < 1033 ∨ 1036 ≤ i) (v : Value) {u : Value} (hu : R i = some u) : Sw T B b r bs w0 (upd R i v) (w.setCell ⟨b, i, none⟩ v) :=
  ⟨h.blk.set i hi v hu, h.below.setCell (p := ⟨b, i, none⟩) h.blk.1 _, h.fr.set _ _ (Or.inl rfl)⟩
theorem Sw.trans {bs' : List Value} {R' : Nat → Option Value} {w' : World} (h : Sw T B b r bs w0 R w) (k : Sw T B b r bs' w R' w') : Sw T B b r bs' w0 R' w' :=
  ⟨k.blk, h.below.trans k.below, h.fr.trans k.fr⟩
end

/-- Behind a step over one character. -/
def Stepped (T : TypeId) (B b r : Nat) (bs : List Value) (w : World) (R : Nat → Option Value) (p c col : Int) (e : Ending) (w' : World) : Prop :=
  e = .returned (.int .i32 c) ∧ Sw T B b r bs w (upd (upd (upd R 1026 (.int .i64 (p + 1))) 1032 (.int .i64 1)) 1030 (.int .i64 (wrap64 (col + 1)))) w'

set_option maxRecDepth 100000 in
set_option maxHeartbeats 4000000 in
theorem next_char (T : TypeId) (R : Nat → Option Value) (B b r p : Nat) (bs : List Value) (c col : Int) (v1 : Value) (w : World) (hb : Hid (Blk T R B b bs w)) (hc1 : 1 ≤ c) (hc2 : c < 128) (hc3 : c ≠ 10) (hp : p ≤ 1010)
    (r1 : Hid (R 1026 = some (.int .i64 p))) (r2 : Hid (R (1 + p) = some (.int .u8 c))) (r3 : Hid (R 1030 = some (.int .i64 col))) (r4 : Hid (R 1032 = some v1)) :
    Calls Tryz.prog 45 #[.pointer (some ⟨b, 0, none⟩)] w (Stepped T B b r bs w R p c col) := by
  have c1 := hb.out.cell 1026 (by decide) r1.out
  have c2 := hb.out.cell (1 + p) (by omega) r2.out
  have c3 := hb.out.cell 1030 (by decide) r3.out
  have c4 := hb.out.cell 1032 (by decide) r4.out
  have f1 := hb.out.free 1026
  have f3 := hb.out.free 1030
  have f4 := hb.out.free 1032
  go_enter Tryz.func45, Tryz.ntmps45
  go_wp2_with fail
  go_quiet (fail)
  go_wp2_with fail
  go_ret
  exact ⟨rfl, (((Sw.init (r := r) hb.out).drewN nq).set 1026 (by decide) _ r1.out |>.set 1032 (by decide) _ ((upd_other _ _ _ _ (by decide)).trans r4.out)).set 1030 (by decide) _ ((upd_other _ _ _ _ (by decide)).trans ((upd_other _ _ _ _ (by decide)).trans r3.out))⟩

end Go.Proofs.YtdjjgnplpjoabaaGreatDoor
