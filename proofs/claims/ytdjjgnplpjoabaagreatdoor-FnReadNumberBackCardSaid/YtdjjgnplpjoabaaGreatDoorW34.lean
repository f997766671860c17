/- The number of a decimal's text is read back by the parser; its conditions: the text is a float's, the tables are as the program lays them. -/
import Derived.Test.YtdjjgnplpjoabaaGreatDoorW33
namespace Go.Proofs.YtdjjgnplpjoabaaGreatDoor
open Go.RowKit

theorem Laid.cell_some {C : Array Value} {r : Nat} (h : Laid C r) (k : Nat) (hk : k < 1049) : ∃ u, C[k]? = some u := ⟨C[k]'(by rw [h.size]; exact hk), Array.getElem?_eq_getElem _⟩

theorem fresh_of {B b r : Nat} {s : ByteArray} {C : Array Value} {w : World} (hL : Laid C r) (hr : Rdr r s 0 w) (hb : w.heap[b]? = some (.cells C 59 (0, 0))) (hBr : B ≤ r) (hrb : r < b) (hB9 : 9 < B) : Fresh 59 B b r s (fun i => C[i]?) w :=
  ⟨LibA.zero_isBuffer (by omega) ⟨C, hb, hL.buf0, hL.buf1, hL.buf2, fun _ _ => rfl⟩, hr, by omega, hBr, hB9, hL.src, hL.sent, hL.pos, hL.fin, hL.off, hL.line, hL.col, hL.last, hL.len, hL.tok, hL.ch, fun k _ h2 => hL.cell_some k (by omega), fun k _ h2 => hL.cell_some k (by omega)⟩

theorem set_of {C : Array Value} {r : Nat} (hL : Laid C r) : Set (fun i => C[i]?) r := ⟨hL.src, hL.mode, hL.white, hL.ident⟩

theorem Fresh.lexed {T : TypeId} {B b r : Nat} {s : ByteArray} {R : Nat → Option Value} {w : World} (h : Fresh T B b r s R w) (hsz : B ≤ w.heap.size) (v : Value) (o : Obj) : Fresh T B b r s (upd R 1039 v) ((w.setCell ⟨b, 1039, none⟩ v).alloc o) := by
  obtain ⟨u, hu⟩ := h.more 1039 (by decide) (by decide)
  have hk : ∀ k, k ≠ 1039 → upd R 1039 v k = R k := fun k hk => upd_other _ _ _ _ hk
  refine ⟨(((Sw.init (r := r) h.blk).set 1039 (by decide) v hu).alloc hsz o).blk, (h.rdr.of_heap (Below.heap_setCell _ _ _ _ (Ne.symm h.br))).alloc o, h.br, h.Br, h.B9, (hk _ (by decide)).trans h.src, (hk _ (by decide)).trans h.sent, (hk _ (by decide)).trans h.pos, (hk _ (by decide)).trans h.fin, (hk _ (by decide)).trans h.off, (hk _ (by decide)).trans h.line, (hk _ (by decide)).trans h.col, (hk _ (by decide)).trans h.last, (hk _ (by decide)).trans h.len, (hk _ (by decide)).trans h.tok, (hk _ (by decide)).trans h.ch, fun k h1 h2 => ?_, fun k h1 h2 => ?_⟩
  · obtain ⟨x, hx⟩ := h.cells k h1 h2
    exact ⟨x, (hk k (by omega)).trans hx⟩
  · by_cases e : k = 1039
    · subst e; exact ⟨v, upd_same _ _ _⟩
    · obtain ⟨x, hx⟩ := h.more k h1 h2
      exact ⟨x, (hk k e).trans hx⟩

/-- What the reading leans on. -/
structure Base (B : Nat) (ea : Addr) (w : World) : Prop where
  size : B ≤ w.heap.size
  B9 : 24 ≤ B
  eof : w.cell? ⟨4, 0, none⟩ = some (.iface 188 (.pointer (some ea)))
  utf : ∀ c : Int, 45 ≤ c → c ≤ 57 → w.cell? ⟨9, c.toNat, none⟩ = some (.int .u8 240)

theorem Base.below {B : Nat} {ea : Addr} {w w' : World} (h : Base B ea w) (hb : Below B w w') : Base B ea w' :=
  ⟨Nat.le_trans h.size hb.size, h.B9, (hb.cell (p := ⟨4, 0, none⟩) (show 4 < B from by have := h.B9; omega)).trans h.eof, fun c h1 h2 => (hb.cell (p := ⟨9, c.toNat, none⟩) (show 9 < B from by have := h.B9; omega)).trans (h.utf c h1 h2)⟩

/-- The lexer's token, where the text bears no minus. -/
theorem lex_plain {B b r : Nat} {ea : Addr} {t : List Int} {C : Array Value} {w : World} (ht : Tok t) (hL : Laid C r) (hr : Rdr r (strOfNums t) 0 w) (hb : w.heap[b]? = some (.cells C 59 (0, 0))) (hBr : B ≤ r) (hrb : r < b) (hB : Base B ea w) :
    Calls Tryz.prog 18 #[.pointer (some ⟨b, 0, none⟩)] w fun e w' => e = .returned (.tuple #[.string (strOfNums t), .nilIface]) ∧ Below B w w' := by
  obtain ⟨c, tok, t1, t2, hc, h1, h2, hnum⟩ := num_any (T := 59) (B := B) (b := b) (r := r) (ea := ea) false ht
  have hch : ∀ i, i < (strOfNums t).size → 45 ≤ chAt (strOfNums t) i ∧ chAt (strOfNums t) i ≤ 57 := fun i hi => by
    rw [strOfNums_size] at hi
    rw [chAt_str _ (fun c hc => by rcases ht.chars c hc with h | h <;> omega) i hi]
    rcases ht.chars t[i] (List.getElem_mem hi) with h | h <;> omega
  have s1 := ht.dec.size1
  have s2 := ht.dec.size2
  have hF := fresh_of hL hr hb hBr hrb (by have := hB.B9; omega)
  have hx : (⟨((strOfNums t).data.toList.drop 0).toArray⟩ : ByteArray) = strOfNums t := by rw [drop_str]; rfl
  have := lex_num (T := 59) (B := B) (b := b) (r := r) (s := strOfNums t) (ea := ea) (R := fun i => C[i]?) 0 c tok h1 h2 t1 t2 s1 hc w hF.br (set_of hL) (by have := hB.B9; omega) hB.size hB.eof (by omega) hch hF.blk hr.lt hL.peeked (hL.cell_some 1039 (by decide)) hnum (fun v => ?_)
  · rw [hx] at this
    exact this
  · have hFl := hF.lexed hB.size v (.cells #[.nilIface] 31 (0, 0))
    have h0 : c = chAt (strOfNums t) 0 := hc.symm
    rw [h0]
    obtain ⟨e1, e2⟩ := hch 0 (by omega)
    refine peek_fresh s1 (by omega) hFl hch ?_
    refine (Below.cell (B := B) ?_ (p := ⟨9, _, none⟩) (show 9 < B from by have := hB.B9; omega)).trans (hB.utf _ e1 e2)
    exact ((Below.refl B w).setCell (p := ⟨b, 1039, none⟩) (show B ≤ b from by omega) v).alloc (by simpa [World.setCell] using hB.size) _

/-- The text with a minus: its characters. -/
theorem minus_chars {t : List Int} (ht : Tok t) : (strOfNums (sgn true ++ t)).size = 1 + t.length ∧ chAt (strOfNums (sgn true ++ t)) 0 = 45 ∧ ∀ i, i < (strOfNums (sgn true ++ t)).size → 45 ≤ chAt (strOfNums (sgn true ++ t)) i ∧ chAt (strOfNums (sgn true ++ t)) i ≤ 57 := by
  have hsz : (strOfNums (sgn true ++ t)).size = 1 + t.length := by rw [strOfNums_size, List.length_append]; rfl
  have hb : ∀ c ∈ sgn true ++ t, 45 ≤ c ∧ c ≤ 57 := fun c hc => by
    rcases List.mem_append.1 hc with h | h
    · have : c = 45 := by simpa [sgn] using h
      omega
    · rcases ht.chars c h with h | h <;> omega
  have hb2 : ∀ c ∈ sgn true ++ t, 0 ≤ c ∧ c < 256 := fun c hc => by have := hb c hc; omega
  refine ⟨hsz, ?_, fun i hi => ?_⟩
  · rw [chAt_str _ hb2 0 (by simp [sgn])]; rfl
  · rw [strOfNums_size] at hi
    rw [chAt_str _ hb2 i hi]
    exact hb _ (List.getElem_mem hi)

theorem lex_first {B b r : Nat} {ea : Addr} {t : List Int} {C : Array Value} {w : World} (ht : Tok t) (hL : Laid C r) (hr : Rdr r (strOfNums (sgn true ++ t)) 0 w) (hb : w.heap[b]? = some (.cells C 59 (0, 0))) (hBr : B ≤ r) (hrb : r < b) (hB : Base B ea w) :
    Calls Tryz.prog 18 #[.pointer (some ⟨b, 0, none⟩)] w (AfterMinus 59 B b r (strOfNums (sgn true ++ t)) w) := by
  obtain ⟨hsz, h0, hch⟩ := minus_chars ht
  have s1 := ht.dec.size1
  have s2 := ht.dec.size2
  rw [strOfNums_size] at s1 s2
  have hF := fresh_of hL hr hb hBr hrb (by have := hB.B9; omega)
  refine lex_minus (T := 59) (ea := ea) (chAt (strOfNums (sgn true ++ t)) (0 + 1)) (by omega) h0 rfl w hF.br (set_of hL) (by have := hB.B9; omega) hB.size hB.eof (by omega) hch hF.blk hr.lt hL.peeked (hL.cell_some 1039 (by decide)) (fun v => ?_)
  have hFl := hF.lexed hB.size v (.cells #[.nilIface] 31 (0, 0))
  have := peek_fresh (by omega) (by omega) hFl hch (?_ : Hid _)
  · rw [h0] at this
    exact this
  · obtain ⟨e1, e2⟩ := hch 0 (by omega)
    refine (Below.cell (B := B) ?_ (p := ⟨9, _, none⟩) (show 9 < B from by have := hB.B9; omega)).trans (hB.utf _ e1 e2)
    exact ((Below.refl B w).setCell (p := ⟨b, 1039, none⟩) (show B ≤ b from by omega) v).alloc (by simpa [World.setCell] using hB.size) _

theorem lex_second {B b r : Nat} {ea : Addr} {t : List Int} {w0 w : World} {e0 : Ending} (ht : Tok t) (h : AfterMinus 59 B b r (strOfNums (sgn true ++ t)) w0 e0 w) (hbr : b ≠ r) (hB : Base B ea w) :
    Calls Tryz.prog 18 #[.pointer (some ⟨b, 0, none⟩)] w fun e w' => e = .returned (.tuple #[.string (strOfNums t), .nilIface]) ∧ Below B w w' := by
  obtain ⟨c, tok, t1, t2, hc, h1, h2, hnum⟩ := num_any (T := 59) (B := B) (b := b) (r := r) (ea := ea) true ht
  obtain ⟨hsz, h0, hch⟩ := minus_chars ht
  obtain ⟨-, R, hS, hr, hF, p26, p38, p29, p31, pm, hSet, p48⟩ := h
  have s1 := ht.dec.size1
  have s2 := ht.dec.size2
  rw [strOfNums_size] at s1 s2
  have hx : (⟨((strOfNums (sgn true ++ t)).data.toList.drop 1).toArray⟩ : ByteArray) = strOfNums t := by rw [drop_str]; rfl
  have hq : (sgn true).length = 1 := rfl
  rw [hq] at hc hnum
  obtain ⟨u39, hu39⟩ := pm 1039 (by decide) (by decide)
  have := lex_num (T := 59) (B := B) (b := b) (r := r) (s := strOfNums (sgn true ++ t)) (ea := ea) (R := R) 1 c tok h1 h2 t1 t2 (by omega) hc w hbr hSet (by have := hB.B9; omega) hB.size hB.eof (by omega) hch hS.blk hr.lt p48 ⟨u39, hu39⟩ hnum (fun v => ?_)
  · rw [hx] at this
    exact this
  · have hl := txt_length (strOfNums (sgn true ++ t))
    have hk : ∀ k, k ≠ 1039 → upd R 1039 v k = R k := fun k hk => upd_other _ _ _ _ hk
    have hSw := ((Sw.init (r := r) hS.blk).set 1039 (by decide) v hu39).alloc hB.size (.cells #[.nilIface] 31 (0, 0))
    have c38 := hSw.blk.cell 1038 (by decide) ((hk _ (by decide)).trans p38)
    rw [hc] at c38
    refine (peek_held b c _ (by omega) h2 c38).mono ?_
    rintro e w' ⟨rfl, rfl⟩
    refine ⟨rfl, _, Sw.init hSw.blk, (hr.of_heap (Below.heap_setCell _ _ _ _ (Ne.symm hbr))).alloc _, ⟨fun j hj => (hk _ (by omega)).trans (hF.txt j hj), (hk _ (by omega)).trans hF.sent, (hk _ (by decide)).trans hF.fin, (hk _ (by decide)).trans hF.one, ?_, ?_⟩, (hk _ (by decide)).trans p26, (hk _ (by decide)).trans p38, ?_, ?_, ?_, fun _ _ => rfl⟩
    · obtain ⟨x, hx⟩ := hF.off; exact ⟨x, (hk _ (by decide)).trans hx⟩
    · obtain ⟨x, hx⟩ := hF.col; exact ⟨x, (hk _ (by decide)).trans hx⟩
    · obtain ⟨x, hx⟩ := p29; exact ⟨x, (hk _ (by decide)).trans hx⟩
    · obtain ⟨x, hx⟩ := p31; exact ⟨x, (hk _ (by decide)).trans hx⟩
    · intro k k1 k2
      by_cases e : k = 1039
      · subst e; exact ⟨v, upd_same _ _ _⟩
      · obtain ⟨x, hx⟩ := pm k k1 k2
        exact ⟨x, (hk k e).trans hx⟩

end Go.Proofs.YtdjjgnplpjoabaaGreatDoor
