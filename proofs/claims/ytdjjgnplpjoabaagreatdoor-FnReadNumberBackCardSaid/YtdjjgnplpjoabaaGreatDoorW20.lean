/- Whether a slice's first rune is whole, where it is ASCII; a string's reader; their conditions stand in each. -/
import Derived.Test.YtdjjgnplpjoabaaGreatDoorW19
import Derived.Lib.LazyBuf
namespace Go.Proofs.YtdjjgnplpjoabaaGreatDoor
open Go.RowKit

set_option maxRecDepth 100000 in
set_option maxHeartbeats 1000000 in
theorem fullRune_none (a : Addr) (cp : Nat) (w : World) : Calls Tryz.prog 84 #[.slice (some a) 0 cp] w fun e w' => e = .returned (.bool false) ∧ w = w' := by
  go_enter Tryz.func84, Tryz.ntmps84
  go_wp2
  go_ret
  exact ⟨rfl, rfl⟩

set_option maxRecDepth 100000 in
set_option maxHeartbeats 1000000 in
theorem fullRune_ascii (b o n cp : Nat) (c : Int) (w : World) (hn : 1 ≤ n) (hc : w.cell? ⟨b, o, none⟩ = some (.int .u8 c)) (h1 : 0 ≤ c) (h2 : c < 128) (ht : w.cell? ⟨9, c.toNat, none⟩ = some (.int .u8 240)) :
    Calls Tryz.prog 84 #[.slice (some ⟨b, o, none⟩) n cp] w fun e w' => e = .returned (.bool true) ∧ w = w' := by
  go_enter Tryz.func84, Tryz.ntmps84
  go_wp2
  go_ret
  exact ⟨rfl, rfl⟩

abbrev txt (s : ByteArray) : List Value := s.data.toList.map fun x => Value.int .u8 (x.toNat : Int)

/-- Behind a reader's first reading: the whole string lies in the slice. -/
def ReadAll (r b : Nat) (s : ByteArray) (w : World) (e : Ending) (w' : World) : Prop :=
  e = .returned (.tuple #[.int .i64 s.size, .nilIface]) ∧ ∃ q, w' = (((w.drewN q).setCell ⟨r, 2, none⟩ (.int .i64 (-1))).drew.setCells b 1 (txt s)).setCell ⟨r, 1, none⟩ (.int .i64 s.size)

set_option maxRecDepth 100000 in
set_option maxHeartbeats 1000000 in
theorem read_end (r : Nat) (v1 eof : Value) (s : ByteArray) (w : World) (r0 : w.cell? ⟨r, 0, none⟩ = some (.string s)) (r1 : w.cell? ⟨r, 1, none⟩ = some (.int .i64 s.size)) (he : w.cell? ⟨4, 0, none⟩ = some eof) :
    Calls Tryz.prog 155 #[.pointer (some ⟨r, 0, none⟩), v1] w fun e w' => e = .returned (.tuple #[.int .i64 0, eof]) ∧ ∃ q, w' = w.drewN q := by
  go_enter Tryz.func155, Tryz.ntmps155
  go_wp2_with fail
  go_quiet (fail)
  go_wp2_with fail
  go_quiet (fail)
  go_wp2_with fail
  go_ret2
  exact ⟨rfl, _, World.drewN_drewN _ _ _⟩

set_option maxRecDepth 100000 in
set_option maxHeartbeats 4000000 in
theorem read_some (r b cp : Nat) (s : ByteArray) (w : World) (h1 : 1 ≤ s.size) (hle : s.size ≤ 1010) (r0 : w.cell? ⟨r, 0, none⟩ = some (.string s)) (r1 : w.cell? ⟨r, 1, none⟩ = some (.int .i64 0)) (v2 : Value) (r2 : w.cell? ⟨r, 2, none⟩ = some v2)
    (f1 : w.frozen? ⟨r, 1, none⟩ = false) (f2 : w.frozen? ⟨r, 2, none⟩ = false) (hbr : b ≠ r)
    (hc : ∀ j, j < s.size → (w.cell? ⟨b, 1 + j, none⟩).isSome = true) (hf : ∀ j, j < s.size → w.frozen? ⟨b, 1 + j, none⟩ = false) :
    Calls Tryz.prog 155 #[.pointer (some ⟨r, 0, none⟩), .slice (some ⟨b, 1, none⟩) 1024 cp] w (ReadAll r b s w) := by
  have hne : ¬ s = ByteArray.empty := by rintro rfl; simp at h1
  have hz5 := Tryz.sizeOf5
  have mixed : Tryz.prog.follows Departure.mixedOrders = true := by kernel_rfl
  have hcW : Hid (∀ q j, j < s.size → (((w.drewN q).setCell ⟨r, 2, none⟩ (.int .i64 (-1))).drew.cell? ⟨b, 1 + j, none⟩).isSome = true) := fun q j hj => by
    have e : (⟨r, 2, none⟩ : Addr) ≠ ⟨b, 1 + j, none⟩ := fun e => hbr (congrArg Addr.block e).symm
    show (((w.drewN q).setCell ⟨r, 2, none⟩ (.int .i64 (-1))).cell? ⟨b, 1 + j, none⟩).isSome = true
    rw [World.cell?_setCell_other _ _ _ _ e]
    exact hc j hj
  have hfW : Hid (∀ q j, j < s.size → ((w.drewN q).setCell ⟨r, 2, none⟩ (.int .i64 (-1))).drew.frozen? ⟨b, 1 + j, none⟩ = false) := fun q j hj => by
    show ((w.drewN q).setCell ⟨r, 2, none⟩ (.int .i64 (-1))).frozen? ⟨b, 1 + j, none⟩ = false
    rw [World.frozen?_setCell]
    exact hf j hj
  have hr1W : ∀ q vs, (((w.drewN q).setCell ⟨r, 2, none⟩ (.int .i64 (-1))).drew.setCells b 1 vs).cell? ⟨r, 1, none⟩ = some (.int .i64 0) := fun q vs => by
    rw [World.cell?_setCells_out b vs 1 _ _ (fun e => absurd e.symm hbr)]
    show ((w.drewN q).setCell ⟨r, 2, none⟩ (.int .i64 (-1))).cell? ⟨r, 1, none⟩ = _
    rw [World.cell?_setCell_other _ _ _ _ (by simp)]
    exact r1
  have hg1W : ∀ q vs, (((w.drewN q).setCell ⟨r, 2, none⟩ (.int .i64 (-1))).drew.setCells b 1 vs).frozen? ⟨r, 1, none⟩ = false := fun q vs => by
    rw [World.frozen?_setCells]
    show ((w.drewN q).setCell ⟨r, 2, none⟩ (.int .i64 (-1))).frozen? ⟨r, 1, none⟩ = false
    rw [World.frozen?_setCell]
    exact f1
  clear hc hf
  go_enter Tryz.func155, Tryz.ntmps155
  go_wp2_with fail
  go_quiet (fail)
  go_wp2_with fail
  go_region_law_o (refine step_copy_string rfl (.tmp 20) (.tmp 29) 43 9 rfl 5 Tryz.underlying43 hz5 b 1 1024 cp (by simp [Act.eval, Act.put]) s (by simp [Act.eval, Act.put]) (by omega) (hcW.out nq) (hfW.out nq) ?_)
  all_goals (go_wp2_with fail)
  all_goals go_ret2
  all_goals (exact ⟨rfl, _, rfl⟩)

/-- A string's reader, s read up to i. -/
def Rdr (r : Nat) (s : ByteArray) (i : Int) (w : World) : Prop := ∃ x, w.heap[r]? = some (.cells #[.string s, .int .i64 i, x] 97 (0, 0))

theorem Rdr.c0 {r : Nat} {s : ByteArray} {i : Int} {w : World} (h : Rdr r s i w) : w.cell? ⟨r, 0, none⟩ = some (.string s) := by
  obtain ⟨x, h⟩ := h; rw [Lib.cell_of_heap h]; rfl
theorem Rdr.c1 {r : Nat} {s : ByteArray} {i : Int} {w : World} (h : Rdr r s i w) : w.cell? ⟨r, 1, none⟩ = some (.int .i64 i) := by
  obtain ⟨x, h⟩ := h; rw [Lib.cell_of_heap h]; rfl
theorem Rdr.c2 {r : Nat} {s : ByteArray} {i : Int} {w : World} (h : Rdr r s i w) : ∃ x, w.cell? ⟨r, 2, none⟩ = some x := by
  obtain ⟨x, h⟩ := h; exact ⟨x, by rw [Lib.cell_of_heap h]; rfl⟩
theorem Rdr.free {r : Nat} {s : ByteArray} {i : Int} {w : World} (h : Rdr r s i w) (k : Nat) : w.frozen? ⟨r, k, none⟩ = false := by
  obtain ⟨x, h⟩ := h; exact Lib.frozen_of_heap h k
theorem Rdr.set1 {r : Nat} {s : ByteArray} {i : Int} {w : World} (h : Rdr r s i w) (j : Int) : Rdr r s j (w.setCell ⟨r, 1, none⟩ (.int .i64 j)) := by
  obtain ⟨x, h⟩ := h; exact ⟨x, Lib.heap_setCell_same (i := 1) h _⟩
theorem Rdr.set2 {r : Nat} {s : ByteArray} {i : Int} {w : World} (h : Rdr r s i w) (v : Value) : Rdr r s i (w.setCell ⟨r, 2, none⟩ v) := by
  obtain ⟨x, h⟩ := h; exact ⟨v, Lib.heap_setCell_same (i := 2) h _⟩
theorem Rdr.of_heap {r : Nat} {s : ByteArray} {i : Int} {w w' : World} (h : Rdr r s i w) (e : w'.heap[r]? = w.heap[r]?) : Rdr r s i w' := by
  obtain ⟨x, h⟩ := h; exact ⟨x, e.trans h⟩

theorem heap_setCells_other (b r : Nat) (h : r ≠ b) : ∀ (vs : List Value) (o : Nat) (w : World), (w.setCells b o vs).heap[r]? = w.heap[r]?
  | [], _, _ => rfl
  | v :: vs, o, w => by rw [World.setCells, heap_setCells_other b r h vs, Below.heap_setCell _ _ _ _ h]

/-- A row of cells more. -/
def updN (R : Nat → Option Value) (o : Nat) : List Value → Nat → Option Value
  | [] => R
  | v :: vs => updN (upd R o v) (o + 1) vs
theorem updN_out (k : Nat) : ∀ (vs : List Value) (R : Nat → Option Value) (o : Nat), (k < o ∨ o + vs.length ≤ k) → updN R o vs k = R k
  | [], _, _, _ => rfl
  | v :: vs, R, o, h => by
    rw [updN, updN_out k vs _ _ (by simp at h; omega), upd_other _ _ _ _ (by simp at h; omega)]
theorem updN_in : ∀ (vs : List Value) (R : Nat → Option Value) (o i : Nat) (h : i < vs.length), updN R o vs (o + i) = some vs[i]
  | v :: vs, R, o, 0, _ => by rw [updN, updN_out _ vs _ _ (by omega)]; exact upd_same _ _ _
  | v :: vs, R, o, i + 1, h => by
    rw [updN, show o + (i + 1) = o + 1 + i by omega, updN_in vs _ _ i (by simpa using h)]
    rfl

section
variable {T : TypeId} {B b r : Nat} {bs : List Value} {w0 w : World}
theorem Sw.setCells : ∀ (vs : List Value) {R : Nat → Option Value} {w : World} (_ : Sw T B b r bs w0 R w) (o : Nat) (_ : o + vs.length ≤ 1033) (_ : ∀ k, o ≤ k → k < o + vs.length → ∃ u, R k = some u), Sw T B b r bs w0 (updN R o vs) (w.setCells b o vs)
  | [], _, _, h, _, _, _ => h
  | v :: vs, R, w, h, o, ho, hu => by
    obtain ⟨u, hu0⟩ := hu o (Nat.le_refl _) (by simp)
    have h2 := h.set o (by simp at ho; omega) v hu0
    refine Sw.setCells vs h2 (o + 1) (by simp at ho; omega) fun k h1 h3 => ?_
    rw [upd_other _ _ _ _ (by omega)]
    exact hu k (by omega) (by simp; omega)

theorem Sw.setR {R : Nat → Option Value} (h : Sw T B b r bs w0 R w) {s : ByteArray} {i : Int} (hr : Rdr r s i w) (hbr : b ≠ r) (hBr : B ≤ r) (k : Nat) (v : Value) : Sw T B b r bs w0 R (w.setCell ⟨r, k, none⟩ v) := by
  obtain ⟨⟨hB, v0, lr, hbk, hown, hne⟩, hbel, hfr⟩ := h
  refine ⟨⟨hB, v0, lr, hbk.of_heap (Below.heap_setCell _ _ _ _ hbr), ?_, hne⟩, hbel.setCell (p := ⟨r, k, none⟩) hBr _, hfr.set _ _ (Or.inr rfl)⟩
  refine hown.kept (Lib.grownBy_setCell w r k v) ?_
  rcases hown.2 with ⟨rfl, h0⟩ | ⟨g, cap, cur, rfl, hBg, hg, hnc, hcm, hcs, htk⟩
  · right; simp [Value.ownBlock]
  · right
    intro e
    have : g = r := by simpa [Value.ownBlock] using e
    subst this
    obtain ⟨x, hr⟩ := hr
    rw [hr] at hg
    injection hg with hg
    injection hg with _ h2 _
    exact absurd h2 (by decide)
end

end Go.Proofs.YtdjjgnplpjoabaaGreatDoor
