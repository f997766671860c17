/- A scanner over a text whose characters are minus, dot and digits: where it stands, and its step; its conditions: the text is of at most 1010 characters and lies in the buffer. -/
import Derived.Test.YtdjjgnplpjoabaaGreatDoorW23
namespace Go.Proofs.YtdjjgnplpjoabaaGreatDoor
open Go.RowKit

/-- The i-th character; -1 at the text's end. -/
def chAt (s : ByteArray) (i : Nat) : Int := if h : i < s.data.toList.length then (s.data.toList[i].toNat : Int) else -1

/-- What stays: the blocks, the reader, the library's own end. -/
structure Env (B b r : Nat) (s : ByteArray) (ea : Addr) (R0 : Nat → Option Value) (w0 : World) : Prop where
  br : b ≠ r
  B4 : 4 < B
  size : B ≤ w0.heap.size
  eof : w0.cell? ⟨4, 0, none⟩ = some (.iface 188 (.pointer (some ea)))
  le : s.size ≤ 1010
  chars : ∀ i, i < s.size → 45 ≤ chAt s i ∧ chAt s i ≤ 57
  src : R0 0 = some (.iface 71 (.pointer (some ⟨r, 0, none⟩)))

/-- The buffer holds the text. -/
structure Full (s : ByteArray) (R : Nat → Option Value) : Prop where
  txt : ∀ j (h : j < (txt s).length), R (1 + j) = some (txt s)[j]
  sent : R (1 + s.size) = some (.int .u8 128)
  fin : R 1027 = some (.int .i64 s.size)
  one : R 1032 = some (.int .i64 1)
  off : ∃ x, R 1028 = some (.int .i64 x)
  col : ∃ x, R 1030 = some (.int .i64 x)

/-- The fields that no step turns. -/
def Same (R R0 : Nat → Option Value) : Prop := ∀ k, k = 0 ∨ k = 1029 ∨ k = 1031 ∨ 1033 ≤ k → k ≠ 1036 → R k = R0 k

/-- The character at q is at hand; a token began at tp. -/
def Cur (T : TypeId) (B b r : Nat) (s : ByteArray) (tp : Nat) (R0 : Nat → Option Value) (w0 : World) (q : Nat) (w : World) : Prop :=
  (q < s.size ∧ ∃ R, Sw T B b r [] w0 R w ∧ Rdr r s s.size w ∧ Full s R ∧ R 1026 = some (.int .i64 (q + 1 : Nat)) ∧ R 1036 = some (.int .i64 tp) ∧ Same R R0) ∨
  (q = s.size ∧ ∃ R, Sw T B b r ((txt s).drop tp) w0 R w ∧ Rdr r s s.size w ∧ R 1026 = some (.int .i64 0) ∧ R 1036 = some (.int .i64 0) ∧ R 1032 = some (.int .i64 0) ∧ (∃ x, R 1030 = some (.int .i64 x)) ∧ Same R R0)

theorem chAt_in {s : ByteArray} {i : Nat} (h : i < s.size) : ∃ hh : i < (txt s).length, (txt s)[i] = .int .u8 (chAt s i) := by
  have hl : i < s.data.toList.length := by rw [← Lib.size_eq]; exact h
  refine ⟨by rw [txt_length]; exact h, ?_⟩
  unfold chAt
  rw [dif_pos hl]
  simp [txt]
theorem chAt_out {s : ByteArray} : chAt s s.size = -1 := by
  unfold chAt
  rw [dif_neg (by rw [← Lib.size_eq]; omega)]

theorem Sw.wide {T : TypeId} {B b r : Nat} {bs : List Value} {w0 w : World} {R : Nat → Option Value} (h : Sw T B b b bs w0 R w) : Sw T B b r bs w0 R w :=
  ⟨h.blk, h.below, ⟨h.fr.os, h.fr.tape, h.fr.output, h.fr.size, fun k c t h1 _ h3 h4 => h.fr.block k c t h1 h1 h3 h4⟩⟩
theorem Rdr.of_fr {b r : Nat} {s : ByteArray} {i : Int} {w w' : World} (h : Rdr r s i w) (hf : Fr b b w w') (hbr : b ≠ r) : Rdr r s i w' := by
  obtain ⟨x, hx⟩ := h
  exact ⟨x, hf.block r _ _ (Ne.symm hbr) (Ne.symm hbr) (by decide) hx⟩

theorem next_cur {T : TypeId} {B b r : Nat} {s : ByteArray} {ea : Addr} {tp : Nat} {R0 : Nat → Option Value} {w0 : World} (E : Env B b r s ea R0 w0) (q : Nat) (w : World) (h : Cur T B b r s tp R0 w0 q w) (hq : q < s.size) (htp : tp ≤ q) :
    Calls Tryz.prog 45 #[.pointer (some ⟨b, 0, none⟩)] w fun e w' => e = .returned (.int .i32 (chAt s (q + 1))) ∧ Cur T B b r s tp R0 w0 (q + 1) w' ∧ Fr b r w w' := by
  rcases h with ⟨_, R, hs, hr, hf, hp, ht, hsame⟩ | ⟨he, _⟩
  · obtain ⟨col, hcol⟩ := hf.col
    obtain ⟨off, hoff⟩ := hf.off
    have hle := E.le
    by_cases h1 : q + 1 < s.size
    · obtain ⟨hh, hc⟩ := chAt_in h1
      obtain ⟨c1, c2⟩ := E.chars _ h1
      refine (next_char T R B b b (q + 1) [] (chAt s (q + 1)) col _ w hs.blk (by omega) (by omega) (by omega) (by omega) hp ((hf.txt _ hh).trans (congrArg some hc)) hcol hf.one).mono ?_
      rintro e w' ⟨rfl, hS0⟩
      have hS := hS0.wide (r := r)
      have gR : ∀ k, k ≠ 1026 → k ≠ 1032 → k ≠ 1030 → upd (upd (upd R 1026 (.int .i64 ((q + 1 : Nat) + 1))) 1032 (.int .i64 1)) 1030 (.int .i64 (wrap64 (col + 1))) k = R k := fun k a1 a2 a3 => by
        rw [upd_other _ _ _ _ a3, upd_other _ _ _ _ a2, upd_other _ _ _ _ a1]
      have hl := txt_length s
      refine ⟨rfl, Or.inl ⟨h1, _, hs.trans hS, ?_, ⟨?_, ?_, ?_, ?_, ⟨off, ?_⟩, ⟨_, upd_same _ _ _⟩⟩, ?_, ?_, ?_⟩, hS.fr⟩
      · exact hr.of_fr hS0.fr E.br
      · intro j hj
        rw [gR _ (by omega) (by omega) (by omega)]; exact hf.txt j hj
      · rw [gR _ (by omega) (by omega) (by omega)]; exact hf.sent
      · rw [gR _ (by omega) (by omega) (by omega)]; exact hf.fin
      · rw [upd_other _ _ _ _ (by decide), upd_same]
      · rw [gR _ (by omega) (by omega) (by omega)]; exact hoff
      · rw [upd_other _ _ _ _ (by decide), upd_other _ _ _ _ (by decide), upd_same]; rfl
      · rw [gR _ (by omega) (by omega) (by omega)]; exact ht
      · intro k hk hk2
        rw [gR _ (by omega) (by omega) (by omega)]; exact hsame k hk hk2
    · have hqs : q + 1 = s.size := by omega
      refine (next_end T R B b r tp s off col ea w hs.blk hle (by omega) E.br ?_ E.B4 ((hsame 0 (Or.inl rfl) (by decide)).trans E.src) (by rw [← hqs]; exact hp) hf.sent hf.fin hf.one ht hoff hcol hf.txt hr ?_).mono ?_
      · exact Nat.le_trans E.size hs.fr.size
      · exact (hs.below.cell (p := ⟨4, 0, none⟩) E.B4).trans E.eof
      · rintro e w' ⟨rfl, R', hS, hr', g1, g2, g3, g4, g5⟩
        rw [hqs]
        refine ⟨by rw [chAt_out], Or.inr ⟨rfl, R', hs.trans hS, hr', g1, g2, g3, g4, fun k hk hk2 => (g5 k hk hk2).trans (hsame k hk hk2)⟩, hS.fr⟩
  · omega

end Go.Proofs.YtdjjgnplpjoabaaGreatDoor
