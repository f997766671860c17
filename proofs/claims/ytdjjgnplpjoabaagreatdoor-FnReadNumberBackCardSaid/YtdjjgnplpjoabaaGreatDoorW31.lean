/- A scanner is set up over a text, a lexer and a parser round it; no conditions. -/
import Derived.Test.YtdjjgnplpjoabaaGreatDoorW30
import Derived.Laws.Rows

namespace Go.Proofs.YtdjjgnplpjoabaaGreatDoor
open Go.RowKit

set_option maxRecDepth 100000 in
set_option maxHeartbeats 400000 in
theorem newReader_any (s : ByteArray) (w : World) : Calls Tryz.prog 23 #[.string s] w fun e w' => e = .returned (.pointer (some ⟨w.heap.size, 0, none⟩)) ∧ w' = w.alloc (.cells #[.string s, .int .i64 0, .int .i64 (-1)] 97 (0, 0)) := by
  go_enter Tryz.func23, Tryz.ntmps23
  go_wp2
  go_ret
  exact ⟨rfl, rfl⟩

/-- A block of 1048 cells, as R says. -/
def Row54 (S : Nat) (R : Nat → Option Value) (w : World) : Prop := ∃ cs : Array Value, w.heap[S]? = some (.cells cs 54 (0, 0)) ∧ cs.size = 1048 ∧ (∀ v ∈ cs, v.oneCell' = true) ∧ ∀ i, cs[i]? = R i
theorem Row54.there {S : Nat} {R : Nat → Option Value} {w : World} (h : Row54 S R w) (i : Nat) (hi : i < 1048) : ∃ u, w.cell? ⟨S, i, none⟩ = some u := by
  obtain ⟨cs, h1, h2, ho, h3⟩ := h
  exact ⟨cs[i], by rw [Lib.cell_of_heap h1]; exact Array.getElem?_eq_getElem (by omega)⟩
theorem Row54.cell {S : Nat} {R : Nat → Option Value} {w : World} (h : Row54 S R w) (i : Nat) {v : Value} (hv : R i = some v) : w.cell? ⟨S, i, none⟩ = some v := by
  obtain ⟨cs, h1, h2, ho, h3⟩ := h
  rw [Lib.cell_of_heap h1, h3, hv]
theorem Row54.free {S : Nat} {R : Nat → Option Value} {w : World} (h : Row54 S R w) (i : Nat) : w.frozen? ⟨S, i, none⟩ = false := by
  obtain ⟨cs, h1, h2, ho, h3⟩ := h
  exact Lib.frozen_of_heap h1 i
theorem Row54.set {S : Nat} {R : Nat → Option Value} {w : World} (h : Row54 S R w) (i : Nat) (hi : i < 1048) (v : Value) (hv : v.oneCell' = true) : Row54 S (upd R i v) (w.setCell ⟨S, i, none⟩ v) := by
  obtain ⟨cs, h1, h2, ho, h3⟩ := h
  refine ⟨_, Lib.heap_setCell_same (i := i) h1 v, by simpa using h2, fun x hx => ?_, fun k => ?_⟩
  · rcases Array.mem_or_eq_of_mem_setIfInBounds hx with h | h
    · exact ho x h
    · rw [h]; exact hv
  · unfold upd
    by_cases e : k = i
    · subst e; simp [h2, hi]
    · rw [if_neg e, Array.getElem?_setIfInBounds_ne (by omega)]; exact h3 k

/-- Only block S has turned. -/
def OnlyB (S : Nat) (w w' : World) : Prop := w'.os = w.os ∧ w'.tape = w.tape ∧ w'.output = w.output ∧ w'.heap.size = w.heap.size ∧ ∀ k, k ≠ S → w'.heap[k]? = w.heap[k]?
theorem OnlyB.refl (S : Nat) (w : World) : OnlyB S w w := ⟨rfl, rfl, rfl, rfl, fun _ _ => rfl⟩
theorem OnlyB.set {S : Nat} {w w' : World} (h : OnlyB S w w') (i : Nat) (v : Value) : OnlyB S w (w'.setCell ⟨S, i, none⟩ v) :=
  ⟨h.1, h.2.1, h.2.2.1, by simpa [World.setCell] using h.2.2.2.1, fun k hk => (Below.heap_setCell _ _ _ _ (show k ≠ S from hk)).trans (h.2.2.2.2 k hk)⟩

/-- The cells of a scanner that has been set up. -/
def setUp (R : Nat → Option Value) (r : Nat) : Nat → Option Value := (upd (upd (upd (upd (upd (upd (upd (upd (upd (upd (upd (upd (upd (upd (upd (upd R 0 (.iface 71 (.pointer (some ⟨r, 0, none⟩)))) 1 (.int .u8 128)) 1026 (.int .i64 0)) 1027 (.int .i64 0)) 1028 (.int .i64 0)) 1029 (.int .i64 1)) 1030 (.int .i64 0)) 1031 (.int .i64 0)) 1032 (.int .i64 0)) 1036 (.int .i64 (-1))) 1038 (.int .i32 (-2))) 1039 .nilFunc) 1040 (.int .i64 0)) 1041 (.int .u64 1012)) 1042 (.int .u64 4294977024)) 1046 (.int .i64 0))

set_option maxRecDepth 100000 in
set_option maxHeartbeats 4000000 in
theorem init_any (S r : Nat) (R : Nat → Option Value) (w : World) (h : Hid (Row54 S R w)) :
    Calls Tryz.prog 22 #[.pointer (some ⟨S, 0, none⟩), .iface 71 (.pointer (some ⟨r, 0, none⟩))] w fun e w' => e = .returned (.pointer (some ⟨S, 0, none⟩)) ∧ Row54 S (setUp R r) w' ∧ OnlyB S w w' := by
  obtain ⟨u0, c0⟩ := h.out.there 0 (by decide)
  have f0 := h.out.free 0
  obtain ⟨u1, c1⟩ := h.out.there 1 (by decide)
  have f1 := h.out.free 1
  obtain ⟨u1026, c1026⟩ := h.out.there 1026 (by decide)
  have f1026 := h.out.free 1026
  obtain ⟨u1027, c1027⟩ := h.out.there 1027 (by decide)
  have f1027 := h.out.free 1027
  obtain ⟨u1028, c1028⟩ := h.out.there 1028 (by decide)
  have f1028 := h.out.free 1028
  obtain ⟨u1029, c1029⟩ := h.out.there 1029 (by decide)
  have f1029 := h.out.free 1029
  obtain ⟨u1030, c1030⟩ := h.out.there 1030 (by decide)
  have f1030 := h.out.free 1030
  obtain ⟨u1031, c1031⟩ := h.out.there 1031 (by decide)
  have f1031 := h.out.free 1031
  obtain ⟨u1032, c1032⟩ := h.out.there 1032 (by decide)
  have f1032 := h.out.free 1032
  obtain ⟨u1036, c1036⟩ := h.out.there 1036 (by decide)
  have f1036 := h.out.free 1036
  obtain ⟨u1038, c1038⟩ := h.out.there 1038 (by decide)
  have f1038 := h.out.free 1038
  obtain ⟨u1039, c1039⟩ := h.out.there 1039 (by decide)
  have f1039 := h.out.free 1039
  obtain ⟨u1040, c1040⟩ := h.out.there 1040 (by decide)
  have f1040 := h.out.free 1040
  obtain ⟨u1041, c1041⟩ := h.out.there 1041 (by decide)
  have f1041 := h.out.free 1041
  obtain ⟨u1042, c1042⟩ := h.out.there 1042 (by decide)
  have f1042 := h.out.free 1042
  obtain ⟨u1046, c1046⟩ := h.out.there 1046 (by decide)
  have f1046 := h.out.free 1046
  go_enter Tryz.func22, Tryz.ntmps22
  go_wp2_with fail
  go_ret
  exact ⟨rfl, ((((((((((((((((h.out.set 0 (by decide) (.iface 71 (.pointer (some ⟨r, 0, none⟩))) rfl).set 1 (by decide) (.int .u8 128) rfl).set 1026 (by decide) (.int .i64 0) rfl).set 1027 (by decide) (.int .i64 0) rfl).set 1028 (by decide) (.int .i64 0) rfl).set 1029 (by decide) (.int .i64 1) rfl).set 1030 (by decide) (.int .i64 0) rfl).set 1031 (by decide) (.int .i64 0) rfl).set 1032 (by decide) (.int .i64 0) rfl).set 1036 (by decide) (.int .i64 (-1)) rfl).set 1038 (by decide) (.int .i32 (-2)) rfl).set 1039 (by decide) .nilFunc rfl).set 1040 (by decide) (.int .i64 0) rfl).set 1041 (by decide) (.int .u64 1012) rfl).set 1042 (by decide) (.int .u64 4294977024) rfl).set 1046 (by decide) (.int .i64 0) rfl), (((((((((((((((((OnlyB.refl S w).set 0 (.iface 71 (.pointer (some ⟨r, 0, none⟩)))).set 1 (.int .u8 128)).set 1026 (.int .i64 0)).set 1027 (.int .i64 0)).set 1028 (.int .i64 0)).set 1029 (.int .i64 1)).set 1030 (.int .i64 0)).set 1031 (.int .i64 0)).set 1032 (.int .i64 0)).set 1036 (.int .i64 (-1))).set 1038 (.int .i32 (-2))).set 1039 .nilFunc).set 1040 (.int .i64 0)).set 1041 (.int .u64 1012)).set 1042 (.int .u64 4294977024)).set 1046 (.int .i64 0))⟩


/-- Cells laid over the head of a row. -/
theorem fold_list : ∀ (l : List Value) (n : Nat) (cells : Array Value), n + l.length ≤ cells.size →
    ((l.zipIdx n).foldl (fun cs (p : Value × Nat) => cs.setIfInBounds (0 + p.2) p.1) cells).size = cells.size ∧ ∀ i, ((l.zipIdx n).foldl (fun cs (p : Value × Nat) => cs.setIfInBounds (0 + p.2) p.1) cells)[i]? = if n ≤ i ∧ i < n + l.length then l[i - n]? else cells[i]?
  | [], n, cells, h => ⟨rfl, fun i => by rw [if_neg (by simp)]; rfl⟩
  | v :: l, n, cells, h => by
    obtain ⟨h1, h2⟩ := fold_list l (n + 1) (cells.setIfInBounds (0 + n) v) (by simp at h ⊢; omega)
    simp only [List.zipIdx_cons, List.foldl_cons]
    refine ⟨h1.trans (by simp), fun i => ?_⟩
    rw [h2 i]
    simp only [List.length_cons] at h ⊢
    by_cases e : i = n
    · subst e
      rw [if_neg (by omega), if_pos (by omega), Nat.zero_add, Array.getElem?_setIfInBounds_self_of_lt (by omega), Nat.sub_self]
      rfl
    · by_cases e2 : n + 1 ≤ i ∧ i < n + 1 + l.length
      · rw [if_pos e2, if_pos (by omega), show i - n = (i - (n + 1)) + 1 by omega, List.getElem?_cons_succ]
      · rw [if_neg e2, if_neg (by omega), Array.getElem?_setIfInBounds_ne (by omega)]

theorem fold_cells (CS cells : Array Value) (h : CS.size ≤ cells.size) : ∃ C : Array Value, CS.zipIdx.foldl (fun cs (c, j) => cs.setIfInBounds (0 + j) c) cells = C ∧ C.size = cells.size ∧ ∀ i, C[i]? = if i < CS.size then CS[i]? else cells[i]? := by
  obtain ⟨h1, h2⟩ := fold_list CS.toList 0 cells (by simpa using h)
  have e : CS.zipIdx.foldl (fun cs (c, j) => cs.setIfInBounds (0 + j) c) cells = (CS.toList.zipIdx 0).foldl (fun cs (p : Value × Nat) => cs.setIfInBounds (0 + p.2) p.1) cells := by
    rw [← Array.foldl_toList, Array.toList_zipIdx]
  refine ⟨_, rfl, by rw [e]; exact h1, fun i => ?_⟩
  rw [e, h2 i]
  simp

theorem fold_simp (CS cells : Array Value) (h : CS.size ≤ cells.size) : ∃ C : Array Value, Array.foldl (fun cs (x : Value × Nat) => cs.setIfInBounds x.snd x.fst) cells CS.zipIdx 0 CS.size = C ∧ C.size = cells.size ∧ ∀ i, C[i]? = if i < CS.size then CS[i]? else cells[i]? := by
  obtain ⟨C, h1, h2, h3⟩ := fold_cells CS cells h
  refine ⟨C, ?_, h2, h3⟩
  rw [← h1, ← Array.size_zipIdx (xs := CS) (k := 0)]
  simp only [Nat.zero_add]

theorem zero54 : (Tryz.prog.info? 54).map (fun i => (i.zero.map fun v => (match v with | .agg cs => (cs.size, cs[1033]?, cs[1034]?, cs[1035]?, cs[1043]?, cs.toList.all (·.oneCell')) | _ => (0, none, none, none, none, false)))) = some (some (1048, some (.slice none 0 0), some (.int .i64 0), some (.int .i8 0), some .nilFunc, true)) := by kernel_rfl
theorem zero56 : (Tryz.prog.info? 56).map (fun i => (i.zero.map fun v => (match v with | .agg cs => (cs.size, cs[1048]?, cs.toList.all (·.oneCell')) | _ => (0, none, false)))) = some (some (1049, some (.string ⟨#[]⟩), true)) := by kernel_rfl
theorem zero59 : (Tryz.prog.info? 59).map (fun i => (i.zero.map fun v => (match v with | .agg cs => cs.size | _ => 0))) = some (some 1049) := by kernel_rfl

theorem zero_of {P : Program} {t : TypeId} {α : Type} {f : Array Value → α} {d x : α} (hd : d ≠ x) (h : (P.info? t).map (fun i => (i.zero.map fun v => (match v with | .agg cs => f cs | _ => d))) = some (some x)) : ∃ it Z, P.info? t = some it ∧ it.zero = some (.agg Z) ∧ f Z = x ∧ ∀ w, (zeroValue t).run P w = .ok (.agg Z) w := by
  cases hi : P.info? t with
  | none => simp [hi] at h
  | some it =>
    cases hz : it.zero with
    | none => simp [hi, hz] at h
    | some v =>
      cases v <;> simp [hi, hz] at h <;> first | exact absurd h hd | skip
      rename_i Z
      exact ⟨it, Z, rfl, hz, h, fun w => by simp [zeroValue, typeInfo, hi, hz]⟩

/-- The cells of a lexer that has been set up over reader r. -/
structure Laid (C : Array Value) (r : Nat) : Prop where
  size : C.size = 1049
  one : C.toList.all (·.oneCell') = true
  src : C[0]? = some (.iface 71 (.pointer (some ⟨r, 0, none⟩)))
  sent : C[1]? = some (.int .u8 128)
  pos : C[1026]? = some (.int .i64 0)
  fin : C[1027]? = some (.int .i64 0)
  off : C[1028]? = some (.int .i64 0)
  line : C[1029]? = some (.int .i64 1)
  col : C[1030]? = some (.int .i64 0)
  last : C[1031]? = some (.int .i64 0)
  len : C[1032]? = some (.int .i64 0)
  buf0 : C[1033]? = some (.slice none 0 0)
  buf1 : C[1034]? = some (.int .i64 0)
  buf2 : C[1035]? = some (.int .i8 0)
  tok : C[1036]? = some (.int .i64 (-1))
  ch : C[1038]? = some (.int .i32 (-2))
  mode : C[1041]? = some (.int .u64 28)
  white : C[1042]? = some (.int .u64 4294977024)
  ident : C[1043]? = some .nilFunc
  peeked : C[1048]? = some (.string ⟨#[]⟩)

theorem laid_of {Z54 Z56 CS C : Array Value} {r : Nat} (hz : Z54[1033]? = some (.slice none 0 0) ∧ Z54[1034]? = some (.int .i64 0) ∧ Z54[1035]? = some (.int .i8 0) ∧ Z54[1043]? = some .nilFunc) (_hs : CS.size = 1048) (ho : ∀ v ∈ CS, v.oneCell' = true) (hR : ∀ i, CS[i]? = upd (setUp (fun i => Z54[i]?) r) 1041 (.int .u64 28) i)
    (hZ : Z56.size = 1049) (hp : Z56[1048]? = some (.string ⟨#[]⟩)) (hC : C.size = Z56.size) (hg : ∀ i, C[i]? = if i < 1048 then CS[i]? else Z56[i]?) (hz1 : Z56.toList.all (·.oneCell') = true) : Laid C r := by
  obtain ⟨z1, z2, z3, z4⟩ := hz
  have hk : ∀ k, k < 1048 → C[k]? = upd (setUp (fun i => Z54[i]?) r) 1041 (.int .u64 28) k := fun k h => by rw [hg, if_pos h, hR]
  refine ⟨hC.trans hZ, ?_, (hk _ (by decide)).trans ?_, (hk _ (by decide)).trans ?_, (hk _ (by decide)).trans ?_, (hk _ (by decide)).trans ?_, (hk _ (by decide)).trans ?_, (hk _ (by decide)).trans ?_, (hk _ (by decide)).trans ?_, (hk _ (by decide)).trans ?_, (hk _ (by decide)).trans ?_, (hk _ (by decide)).trans ?_, (hk _ (by decide)).trans ?_, (hk _ (by decide)).trans ?_, (hk _ (by decide)).trans ?_, (hk _ (by decide)).trans ?_, (hk _ (by decide)).trans ?_, (hk _ (by decide)).trans ?_, (hk _ (by decide)).trans ?_, ?_⟩
  · rw [List.all_eq_true]
    intro v hv
    obtain ⟨i, hi, rfl⟩ := List.getElem_of_mem hv
    have h1 := hg i
    rw [Array.length_toList] at hi
    rw [Array.getElem?_eq_getElem hi] at h1
    by_cases h : i < 1048
    · rw [if_pos h] at h1
      exact ho _ (Array.mem_of_getElem? h1.symm)
    · rw [if_neg h] at h1
      exact (List.all_eq_true.1 hz1) _ (by have := Array.mem_of_getElem? h1.symm; simpa using this)
  all_goals first
    | (simp only [upd, setUp]; simp; done)
    | (simp only [upd, setUp]; simp [z1, z2, z3, z4]; done)
    | (rw [hg, if_neg (by decide)]; exact hp)

set_option maxRecDepth 100000 in
set_option maxHeartbeats 1000000 in
theorem newLexer (s : ByteArray) (w : World) : Calls Tryz.prog 17 #[.string s] w fun e w' => ∃ (C : Array Value) (r : Nat), e = .returned (.agg C) ∧ Laid C r ∧ Rdr r s 0 w' ∧ w.heap.size ≤ r ∧ Below w.heap.size w w' := by
  obtain ⟨i56, Z56, hi56, hz56, hZ56, hv56⟩ := zero_of (fun e => absurd (congrArg (·.1) e) (by decide)) zero56
  obtain ⟨i54, Z54, hi54, hz54, hZ54, hv54⟩ := zero_of (fun e => absurd (congrArg (·.1) e) (by decide)) zero54
  simp only [Prod.mk.injEq] at hZ56 hZ54
  obtain ⟨a1, a2, a3⟩ := hZ56
  obtain ⟨d1, d2, d3, d4, d5, d6⟩ := hZ54
  have A1 := Lib.hid a1; have A2 := Lib.hid a2; have A3 := Lib.hid a3; have D1 := Lib.hid d1; have D := Lib.hid (And.intro d2 (And.intro d3 (And.intro d4 d5))); have D6 := Lib.hid d6
  have h54 : (Tryz.prog.info? 54).map (·.size) = some 1048 := by kernel_rfl
  have h56 : (Tryz.prog.info? 56).map (·.size) = some 1049 := by kernel_rfl
  have H54 := Lib.hid h54; have H56 := Lib.hid h56
  clear hi56 hz56 hi54 hz54 a1 a2 a3 d1 d2 d3 d4 d5 d6 h54 h56
  go_enter Tryz.func17, Tryz.ntmps17
  go_wp2_with fail
  refine (newReader_any s _).mono ?_
  rintro e w1 ⟨rfl, rfl⟩
  have hrow : Row54 (w.heap.size + 1) (fun i => Z54[i]?) (((w.alloc (.cells Z56 56)).alloc (.cells Z54 54)).alloc (.cells #[.string s, .int .i64 0, .int .i64 (-1)] 97 (0, 0))) := by
    refine ⟨Z54, ?_, D1.out, ?_, fun i => rfl⟩
    · rw [Below.heap_alloc _ _ _ (by simp)]
      have := heap_alloc_new (w.alloc (.cells Z56 56)) (.cells Z54 54)
      simpa using this
    · intro v hv
      exact (List.all_eq_true.1 D6.out) v (by simpa using hv)
  have hL : (((w.alloc (.cells Z56 56)).alloc (.cells Z54 54)).alloc (.cells #[.string s, .int .i64 0, .int .i64 (-1)] 97 (0, 0))).heap[w.heap.size]? = some (.cells Z56 56 (0, 0)) := by
    rw [Below.heap_alloc _ _ _ (by simp; omega), Below.heap_alloc _ _ _ (by simp)]
    exact heap_alloc_new _ _
  have hRd : Rdr (w.heap.size + 2) s 0 (((w.alloc (.cells Z56 56)).alloc (.cells Z54 54)).alloc (.cells #[.string s, .int .i64 0, .int .i64 (-1)] 97 (0, 0))) := by
    refine ⟨.int .i64 (-1), ?_⟩
    have := heap_alloc_new ((w.alloc (.cells Z56 56)).alloc (.cells Z54 54)) (.cells #[.string s, .int .i64 0, .int .i64 (-1)] 97 (0, 0))
    simpa using this
  have hBel : Below w.heap.size w (((w.alloc (.cells Z56 56)).alloc (.cells Z54 54)).alloc (.cells #[.string s, .int .i64 0, .int .i64 (-1)] 97 (0, 0))) :=
    (((Below.refl _ _).alloc (Nat.le_refl _) _).alloc (by simp) _).alloc (by simp; omega) _
  have HROW := Lib.hid hrow; have HL := Lib.hid hL; have HRD := Lib.hid hRd; have HBEL := Lib.hid hBel
  clear hrow hL hRd hBel
  go_wp2_with fail
  refine (init_any (w.heap.size + 1) (w.heap.size + 2) (fun i => Z54[i]?) _ (by exact HROW.out)).mono ?_
  rintro e w2 ⟨rfl, h1, h2⟩
  obtain ⟨u41, c41⟩ := h1.there 1041 (by decide)
  have f41 := h1.free 1041
  have H2 := Lib.hid h2
  obtain ⟨CS, hg, hsz, ho, hR⟩ := h1.set 1041 (by decide) (.int .u64 28) rfl
  obtain ⟨C, hC1, hC2, hC3⟩ := fold_simp CS Z56 (by rw [hsz, A1.out]; decide)
  rw [hsz] at hC1 hC3
  have HLaid := Lib.hid (laid_of D.out hsz ho hR A1.out A2.out hC2 hC3 A3.out)
  have hgL : (w2.setCell ⟨w.heap.size + 1, 1041, none⟩ (.int .u64 28)).heap[w.heap.size]? = some (.cells Z56 56 (0, 0)) := by
    rw [Below.heap_setCell _ _ _ _ (show w.heap.size ≠ w.heap.size + 1 by omega), H2.out.2.2.2.2 _ (by omega)]
    exact HL.out
  have hRd2 : Rdr (w.heap.size + 2) s 0 ((w2.setCell ⟨w.heap.size + 1, 1041, none⟩ (.int .u64 28)).setRow w.heap.size C) := by
    refine HRD.out.of_heap ?_
    rw [setRow_other _ _ _ _ (by omega), Below.heap_setCell _ _ _ _ (show w.heap.size + 2 ≠ w.heap.size + 1 by omega), H2.out.2.2.2.2 _ (by omega)]
  have hBel2 : Below w.heap.size w ((w2.setCell ⟨w.heap.size + 1, 1041, none⟩ (.int .u64 28)).setRow w.heap.size C) := by
    refine HBEL.out.trans ⟨?_, ?_, ?_, ?_, ?_⟩
    · exact H2.out.1
    · exact H2.out.2.1
    · exact H2.out.2.2.1
    · simp [World.setCell]; have := H2.out.2.2.2.1; simp at this; omega
    · intro k hk
      rw [setRow_other _ _ _ _ (by omega), Below.heap_setCell _ _ _ _ (show k ≠ w.heap.size + 1 by omega), H2.out.2.2.2.2 _ (by omega)]
  have HG := Lib.hid hg; have HGL := Lib.hid hgL; have HRD2 := Lib.hid hRd2; have HBEL2 := Lib.hid hBel2; have HS := Lib.hid hsz; have hz6 := A1.out
  clear h1 h2 hg ho hR hC2 hC3 hgL hRd2 hBel2 HROW HL HRD HBEL
  go_wp2_with (first | (refine wpList_load_row rfl 54 _ rfl (w.heap.size + 1) rfl 54 CS (0, 0) _ HG.out Tryz.underlying54 rfl (by rw [HS.out]; exact H54.out) ?_) | (refine wpList_store_row rfl 56 _ _ rfl w.heap.size C rfl rfl 56 Z56 HGL.out (by rw [HLaid.out.size]; exact H56.out) (by rw [HLaid.out.size]; exact A1.out) (by rw [← Array.all_toList]; exact HLaid.out.one) ?_))
  have hgC := setRow_heap (w2.setCell ⟨w.heap.size + 1, 1041, none⟩ (.int .u64 28)) w.heap.size Z56 C 56 (0, 0) HGL.out
  exact bodyPost_ret (v := .agg C) (results_cell_row Tryz.results17 _ _ w.heap.size 56 C (0, 0) _ rfl hgC Tryz.underlying56 rfl (by rw [HLaid.out.size]; exact H56.out)) rfl ⟨C, w.heap.size + 2, rfl, HLaid.out, HRD2.out, by omega, HBEL2.out⟩

set_option maxRecDepth 100000 in
set_option maxHeartbeats 1000000 in
theorem newParser (s : ByteArray) (w : World) : Calls Tryz.prog 13 #[.string s] w fun e w' => ∃ (C : Array Value) (r b : Nat), e = .returned (.pointer (some ⟨b, 0, none⟩)) ∧ Laid C r ∧ Rdr r s 0 w' ∧ w.heap.size ≤ r ∧ r < b ∧ w'.heap[b]? = some (.cells C 59 (0, 0)) ∧ Below w.heap.size w w' := by
  have h0 := Lib.hid (newLexer s w)
  obtain ⟨i59, Z59, hi59, hz59, hZ59, hv59⟩ := zero_of (by decide) zero59
  have A1 := Lib.hid hZ59
  clear hi59 hz59 hZ59
  go_enter Tryz.func13, Tryz.ntmps13
  go_wp2_with fail
  refine h0.out.mono ?_
  rintro e w1 ⟨C, r, rfl, hL, hR, hr, hB⟩
  have hsz := hL.size
  have hz9 := A1.out
  have HL := Lib.hid hL; have HR := Lib.hid hR; have HB := Lib.hid hB
  clear hL hR hB h0
  obtain ⟨C', hC1, hC2, hC3⟩ := fold_simp C Z59 (by rw [hsz, hz9]; decide)
  have hCC : C' = C := by
    refine Array.ext (by rw [hC2, hz9, hsz]) fun i h1 h2 => ?_
    have := hC3 i
    rw [if_pos h2, Array.getElem?_eq_getElem h1, Array.getElem?_eq_getElem h2] at this
    exact Option.some.inj this
  rw [hsz, hCC] at hC1
  clear hC2 hC3 hCC
  go_wp2_with fail
  go_ret
  refine ⟨C, r, w1.heap.size, rfl, HL.out, HR.out.alloc _, hr, HR.out.lt, heap_alloc_new _ _, HB.out.trans ((Below.refl _ _).alloc HB.out.size _)⟩

end Go.Proofs.YtdjjgnplpjoabaaGreatDoor
