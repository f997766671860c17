/- Small steps of the scanner: its token buffer is emptied, a minus and a digit are no identifier and no white space, the first character is looked at; their conditions stand in each. -/
import Derived.Test.YtdjjgnplpjoabaaGreatDoorW26
import Derived.Deep.RegionLaw
namespace Go.Proofs.YtdjjgnplpjoabaaGreatDoor
open Go.RowKit

set_option maxRecDepth 100000 in
set_option maxHeartbeats 1000000 in
theorem reset_at (T : TypeId) (R : Nat → Option Value) (B b : Nat) (w : World) (h : Blk T R B b [] w) :
    Calls Tryz.prog 46 #[.pointer (some ⟨b, 1033, none⟩)] w fun e w' => e = .returned (.tuple #[]) ∧ Blk T R B b [] w' ∧ Below B w w' ∧ Lib.OthersKept 5 (some b) w w' := by
  obtain ⟨hB, lr, hc⟩ := LibA.IsBuffer.cases h
  have hbel : ∀ x, Below B w (((w.setCell ⟨b, 1033, none⟩ x).setCell ⟨b, 1034, none⟩ (.int .i64 0)).setCell ⟨b, 1035, none⟩ (.int .i8 0)) := fun x =>
    (((Below.refl B w).setCell (p := ⟨b, 1033, none⟩) hB _).setCell (p := ⟨b, 1034, none⟩) hB _).setCell (p := ⟨b, 1035, none⟩) hB _
  have hk : ∀ x, Lib.OthersKept 5 (some b) w (((w.setCell ⟨b, 1033, none⟩ x).setCell ⟨b, 1034, none⟩ (.int .i64 0)).setCell ⟨b, 1035, none⟩ (.int .i8 0)) := fun x =>
    (((Lib.OthersKept.refl _ _ w).setCell ⟨b, 1033, none⟩ rfl _).setCell ⟨b, 1034, none⟩ rfl _).setCell ⟨b, 1035, none⟩ rfl _
  have HB := Lib.hid hbel
  have HK := Lib.hid hk
  clear hbel hk h
  rcases hc with ⟨-, hbk⟩ | ⟨g, cap, cur, hbk, hBg, hg, hnc, hcm, hcs, htk, hgb⟩
  · have c0 := hbk.c0
    have c1 : w.cell? ⟨b, 1034, none⟩ = some (.int .i64 0) := hbk.c1
    have c2 : w.cell? ⟨b, 1035, none⟩ = some (.int .i8 lr) := hbk.c2
    have f0 := hbk.f 1033
    have f1 := hbk.f 1034
    have f2 := hbk.f 1035
    have HBK := Lib.hid hbk
    clear hbk
    go_enter Tryz.func46, Tryz.ntmps46
    go_wp2
    go_end0
    exact ⟨rfl, LibA.zero_isBuffer hB (((HBK.out.set0 _).set1 _).set2 _), HB.out _, HK.out _⟩
  · have c0 := hbk.c0
    have c1 : w.cell? ⟨b, 1034, none⟩ = some (.int .i64 0) := hbk.c1
    have c2 : w.cell? ⟨b, 1035, none⟩ = some (.int .i8 lr) := hbk.c2
    have f0 := hbk.f 1033
    have f1 := hbk.f 1034
    have f2 := hbk.f 1035
    have HBK := Lib.hid hbk
    have hcm' := hcm
    unfold maxLen at hcm'
    have HG := Lib.hid hg
    have HCS := Lib.hid hcs
    have HCM := Lib.hid hcm
    clear hbk hg hcs htk hcm
    simp only [List.length_nil] at c0
    go_enter Tryz.func46, Tryz.ntmps46
    go_wp2
    go_end0
    refine ⟨rfl, ?_, HB.out _, HK.out _⟩
    have h3 := ((HBK.out.set0 (.slice (some ⟨g, 0, none⟩) 0 cap)).set1 (.int .i64 0)).set2 (.int .i8 0)
    have h4 := LibA.isBuffer_mk (e := 5) (n := 0) hB h3 hBg (by
      rw [Below.heap_setCell _ _ _ _ (show g ≠ b from hgb), Below.heap_setCell _ _ _ _ (show g ≠ b from hgb), Below.heap_setCell _ _ _ _ (show g ≠ b from hgb)]; exact HG.out) (Nat.zero_le _) HCM.out HCS.out hgb
    simpa using h4

theorem neq_nilFunc (w : World) : (binOp .neq 50 .nilFunc .nilFunc).run Tryz.prog w = .ok (.bool false) w := by kernel_rfl

set_option maxRecDepth 100000 in
set_option maxHeartbeats 1000000 in
/-- A number's or a minus's character begins no identifier. -/
theorem ident_no (b : Nat) (c : Int) (w : World) (h : 45 ≤ c ∧ c ≤ 57) (hf : w.cell? ⟨b, 1043, none⟩ = some .nilFunc) :
    Calls Tryz.prog 47 #[.pointer (some ⟨b, 0, none⟩), .int .i32 c, .int .i64 0] w fun e w' => e = .returned (.bool false) ∧ w = w' := by
  have hl := Lib.hid (lower_same c w (Or.inr h))
  have hnf := neq_nilFunc
  obtain ⟨h1, h2⟩ := h
  have h95 : (c == 95) = false := beq_eq_false_iff_ne.2 (by omega)
  by_cases hd : 48 ≤ c
  · go_enter Tryz.func47, Tryz.ntmps47
    go_wp2_with (first | (go_at_call 87; go_must (refine hl.out.mono ?_); rintro e w' ⟨rfl, rfl⟩) | (go_at_call 49; go_must (refine (isDec_yes _ _ hd h2).mono ?_); rintro e w' ⟨rfl, rfl⟩))
    go_ret
    exact ⟨rfl, rfl⟩
  · go_enter Tryz.func47, Tryz.ntmps47
    go_wp2_with (first | (go_at_call 87; go_must (refine hl.out.mono ?_); rintro e w' ⟨rfl, rfl⟩) | (go_at_call 49; go_must (refine (isDec_no _ _ (by omega)).mono ?_); rintro e w' ⟨rfl, rfl⟩))
    go_ret
    exact ⟨rfl, rfl⟩

/-- The fields that hold from token to token: the source, the mode, the white space, the functions, the lexer's own word. -/
def Kept (R R0 : Nat → Option Value) : Prop := ∀ k, k = 0 ∨ 1039 ≤ k ∧ k ≤ 1043 ∨ k = 1048 → R k = R0 k

/-- Between two tokens: the character at q is at hand. -/
def Held (T : TypeId) (B b r : Nat) (s : ByteArray) (R0 : Nat → Option Value) (w0 : World) (q : Nat) (w : World) : Prop :=
  ∃ R, Sw T B b r [] w0 R w ∧ Rdr r s s.size w ∧ Full s R ∧ R 1026 = some (.int .i64 (q + 1 : Nat)) ∧ R 1038 = some (.int .i32 (chAt s q)) ∧ (∃ x, R 1029 = some (.int .i64 x)) ∧ (∃ x, R 1031 = some (.int .i64 x)) ∧ (∀ k, 1036 ≤ k → k ≤ 1048 → ∃ u, R k = some u) ∧ Kept R R0

set_option maxRecDepth 100000 in
set_option maxHeartbeats 1000000 in
theorem peek_held (b : Nat) (c : Int) (w : World) (h1 : 45 ≤ c) (h2 : c ≤ 57) (hc : w.cell? ⟨b, 1038, none⟩ = some (.int .i32 c)) :
    Calls Tryz.prog 44 #[.pointer (some ⟨b, 0, none⟩)] w fun e w' => e = .returned (.int .i32 c) ∧ w = w' := by
  go_enter Tryz.func44, Tryz.ntmps44
  go_wp2_with fail
  go_ret
  exact ⟨rfl, rfl⟩

/-- A scanner that has been set up. -/
structure Fresh (T : TypeId) (B b r : Nat) (s : ByteArray) (R : Nat → Option Value) (w : World) : Prop where
  blk : Blk T R B b [] w
  rdr : Rdr r s 0 w
  br : b ≠ r
  Br : B ≤ r
  B9 : 9 < B
  src : R 0 = some (.iface 71 (.pointer (some ⟨r, 0, none⟩)))
  sent : R 1 = some (.int .u8 128)
  pos : R 1026 = some (.int .i64 0)
  fin : R 1027 = some (.int .i64 0)
  off : R 1028 = some (.int .i64 0)
  line : R 1029 = some (.int .i64 1)
  col : R 1030 = some (.int .i64 0)
  last : R 1031 = some (.int .i64 0)
  len : R 1032 = some (.int .i64 0)
  tok : R 1036 = some (.int .i64 (-1))
  ch : R 1038 = some (.int .i32 (-2))
  cells : ∀ k, 1 ≤ k → k ≤ 1025 → ∃ u, R k = some u
  more : ∀ k, 1036 ≤ k → k ≤ 1048 → ∃ u, R k = some u

set_option maxRecDepth 100000 in
set_option maxHeartbeats 1000000 in
theorem peek_fresh {T : TypeId} {B b r : Nat} {s : ByteArray} {R : Nat → Option Value} {w : World} (h1 : 1 ≤ s.size) (hle : s.size ≤ 1010) (hF : Hid (Fresh T B b r s R w)) (hch : Hid (∀ i, i < s.size → 45 ≤ chAt s i ∧ chAt s i ≤ 57)) (hut : Hid (w.cell? ⟨9, (chAt s 0).toNat, none⟩ = some (.int .u8 240))) :
    Calls Tryz.prog 44 #[.pointer (some ⟨b, 0, none⟩)] w fun e w' => e = .returned (.int .i32 (chAt s 0)) ∧ Held T B b r s R w 0 w' := by
  obtain ⟨d1, d2⟩ := hch.out 0 (by omega)
  obtain ⟨hh, hc⟩ := chAt_in (s := s) (i := 0) (by omega)
  have hf : Hid (Calls Tryz.prog 45 #[.pointer (some ⟨b, 0, none⟩)] w (Filled T B b r [] R s w)) :=
    next_fill T R B b r 0 [] s 0 0 (chAt s 0) (.int .i64 0) w hF.out.blk h1 hle hF.out.br hF.out.Br (by omega) hF.out.src hF.out.pos hF.out.sent hF.out.fin hF.out.len hF.out.tok hF.out.off hF.out.col hF.out.cells hF.out.rdr ⟨hh, hc⟩ (by omega) (by omega) (by omega) hut hF.out.B9
  have c0 := hF.out.blk.cell 1038 (by decide) hF.out.ch
  have HC := Lib.hid hc
  clear hut hc
  go_enter Tryz.func44, Tryz.ntmps44
  go_wp2_with fail
  refine hf.out.mono ?_
  rintro e w1 ⟨R', c, rfl, e1, hS, hr, ht, hsent, hp, hfin, hlen, hcol, hoff, hk⟩
  have hcc : c = chAt s 0 := by
    have := (ht 0 hh).symm.trans e1
    rw [HC.out] at this
    injection this with this
    injection this with _ h2
    exact h2.symm
  subst hcc
  have e2 : R' 1038 = some (.int .i32 (-2)) := (hk 1038 (by decide)).trans hF.out.ch
  have c1 := hS.blk.cell 1038 (by decide) e2
  have f1 := hS.blk.free 1038
  have fin : Hid (Held T B b r s R w 0 (w1.setCell ⟨b, 1038, none⟩ (.int .i32 (chAt s 0)))) := by
    have gR : ∀ k, k ≠ 1038 → upd R' 1038 (.int .i32 (chAt s 0)) k = R' k := fun k a1 => upd_other _ _ _ _ a1
    have hl := txt_length s
    refine ⟨_, hS.set 1038 (by decide) (.int .i32 (chAt s 0)) e2, hr.of_heap (Below.heap_setCell _ _ _ _ (Ne.symm hF.out.br)), ⟨fun j hj => (gR _ (by omega)).trans (ht j hj), (gR _ (by omega)).trans hsent, (gR _ (by decide)).trans hfin, (gR _ (by decide)).trans hlen, ?_, ?_⟩, (gR _ (by decide)).trans hp, upd_same _ _ _, ⟨_, ((gR _ (by decide)).trans (hk 1029 (by decide))).trans hF.out.line⟩, ⟨_, ((gR _ (by decide)).trans (hk 1031 (by decide))).trans hF.out.last⟩, ?_, ?_⟩
    · obtain ⟨x, hx⟩ := hoff; exact ⟨x, (gR _ (by decide)).trans hx⟩
    · obtain ⟨x, hx⟩ := hcol; exact ⟨x, (gR _ (by decide)).trans hx⟩
    · intro k k1 k2
      by_cases e : k = 1038
      · subst e; exact ⟨_, upd_same _ _ _⟩
      · obtain ⟨u, hu⟩ := hF.out.more k k1 k2
        exact ⟨u, (gR _ e).trans ((hk k (by omega)).trans hu)⟩
    · intro k hk2
      exact (gR _ (by omega)).trans (hk k (by omega))
  clear e1 hS hr ht hsent hp hfin hlen hcol hoff hk e2 c0 hf hF HC hch
  go_wp2_with fail
  go_ret
  exact ⟨rfl, fin.out⟩

end Go.Proofs.YtdjjgnplpjoabaaGreatDoor
