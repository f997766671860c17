/- The scanner reads a token: a minus, or a number to the text's end; its conditions: its fields are as the lexer sets them. -/
import Derived.Test.YtdjjgnplpjoabaaGreatDoorW27
namespace Go.Proofs.YtdjjgnplpjoabaaGreatDoor
open Go.RowKit

theorem white_no (c : Int) (h1 : 45 ≤ c) (h2 : c ≤ 57) : (bits .and .u64 4294977024 (IntKind.u64.wrap (2 ^ c.toNat)) != 0) = false := by
  have h' : c = 45 ∨ c = 46 ∨ c = 47 ∨ c = 48 ∨ c = 49 ∨ c = 50 ∨ c = 51 ∨ c = 52 ∨ c = 53 ∨ c = 54 ∨ c = 55 ∨ c = 56 ∨ c = 57 := by omega
  rcases h' with rfl | rfl | rfl | rfl | rfl | rfl | rfl | rfl | rfl | rfl | rfl | rfl | rfl <;> decide
theorem bits2824 : bits .and .u64 28 24 = 24 := by decide

/-- The fields as the lexer sets them. -/
structure Set (R0 : Nat → Option Value) (r : Nat) : Prop where
  src : R0 0 = some (.iface 71 (.pointer (some ⟨r, 0, none⟩)))
  mode : R0 1041 = some (.int .u64 28)
  white : R0 1042 = some (.int .u64 4294977024)
  ident : R0 1043 = some .nilFunc

/-- What the head of a scan leaves: the token begins at q. -/
def Begun (T : TypeId) (B b r q : Nat) (s : ByteArray) (R0 : Nat → Option Value) (w0 : World) (w : World) : Prop :=
  ∃ R, Sw T B b r [] w0 R w ∧ Rdr r s s.size w ∧ Full s R ∧ R 1026 = some (.int .i64 (q + 1 : Nat)) ∧ R 1036 = some (.int .i64 q) ∧ (∃ x, R 1029 = some (.int .i64 x)) ∧ (∃ x, R 1031 = some (.int .i64 x)) ∧ (∀ k, 1036 ≤ k → k ≤ 1048 → ∃ u, R k = some u) ∧ Kept R R0

theorem Begun.drew {T : TypeId} {B b r q : Nat} {s : ByteArray} {R0 : Nat → Option Value} {w0 w : World} (h : Begun T B b r q s R0 w0 w) : Begun T B b r q s R0 w0 w.drew := by
  obtain ⟨R, h1, h2, h3⟩ := h
  exact ⟨R, h1.drew, h2, h3⟩

/-- Behind the scan of a number. -/
def ScannedNum (T : TypeId) (B b r q : Nat) (s : ByteArray) (w0 : World) (tok : Int) (e : Ending) (w : World) : Prop :=
  ∃ R, e = .returned (.int .i32 tok) ∧ Sw T B b r ((txt s).drop q) w0 R w ∧ R 1036 = some (.int .i64 0) ∧ R 1037 = some (.int .i64 0)

/-- Behind the scan of a minus. -/
def ScannedMinus (T : TypeId) (B b r q : Nat) (s : ByteArray) (R0 : Nat → Option Value) (w0 : World) (e : Ending) (w : World) : Prop :=
  e = .returned (.int .i32 45) ∧ ∃ R, Sw T B b r [] w0 R w ∧ Rdr r s s.size w ∧ Full s R ∧ R 1026 = some (.int .i64 (q + 1 + 1 : Nat)) ∧ R 1038 = some (.int .i32 (chAt s (q + 1))) ∧ (∃ x, R 1029 = some (.int .i64 x)) ∧ (∃ x, R 1031 = some (.int .i64 x)) ∧ (∀ k, 1036 ≤ k → k ≤ 1048 → ∃ u, R k = some u) ∧ Kept R R0 ∧
    R 1036 = some (.int .i64 q) ∧ R 1037 = some (.int .i64 (q + 1 : Nat))

set_option maxRecDepth 100000 in
set_option maxHeartbeats 4000000 in
theorem scan_num {T : TypeId} {B b r : Nat} {s : ByteArray} {ea : Addr} {R0 : Nat → Option Value} {w0 : World} (q : Nat) (c tok : Int) (h1 : 48 ≤ c) (h2 : c ≤ 57) (hnum : Hid (∀ R3 w3, Env B b r s ea R3 w3 → Cur T B b r s q R3 w3 q w3 → R3 1041 = some (.int .u64 28) → Calls Tryz.prog 50 #[.pointer (some ⟨b, 0, none⟩), .int .i32 c, .bool false] w3 (Num T B b r s q R3 w3 tok))) (w : World) (hbr : b ≠ r) (hq : q < s.size) (_hc : Hid (chAt s q = c)) (hS : Hid (Set R0 r)) (hB4 : 4 < B) (hsz : Hid (B ≤ w0.heap.size)) (heof : Hid (w0.cell? ⟨4, 0, none⟩ = some (.iface 188 (.pointer (some ea))))) (hle : s.size ≤ 1010) (hall : Hid (∀ i, i < s.size → 45 ≤ chAt s i ∧ chAt s i ≤ 57))
    (hP : Hid (Calls Tryz.prog 44 #[.pointer (some ⟨b, 0, none⟩)] w fun e w' => e = .returned (.int .i32 c) ∧ Held T B b r s R0 w0 q w')) :
    Calls Tryz.prog 25 #[.pointer (some ⟨b, 0, none⟩)] w (ScannedNum T B b r q s w0 tok) := by
  have hwh := white_no c (by omega) h2
  go_enter Tryz.func25, Tryz.ntmps25
  go_wp2_with fail
  go_step3
  go_wp2_with fail
  refine hP.out.mono ?_
  rintro e w1 ⟨rfl, R, hSw, hr, hF, hp, hch, ⟨ln, hln⟩, ⟨la, hla⟩, hmore, hK⟩
  clear hP
  obtain ⟨off, hoff⟩ := hF.off
  obtain ⟨col, hcol⟩ := hF.col
  obtain ⟨u36, hu36⟩ := hmore 1036 (by decide) (by decide)
  obtain ⟨u45, hu45⟩ := hmore 1045 (by decide) (by decide)
  obtain ⟨u46, hu46⟩ := hmore 1046 (by decide) (by decide)
  obtain ⟨u47, hu47⟩ := hmore 1047 (by decide) (by decide)
  have c36 := hSw.blk.cell 1036 (by decide) hu36
  have c46 := hSw.blk.cell 1046 (by decide) hu46
  have c42 := hSw.blk.cell 1042 (by decide) ((hK 1042 (by decide)).trans hS.out.white)
  have f36 := hSw.blk.free 1036
  have f46 := hSw.blk.free 1046
  have g36 : upd (upd R 1036 (.int .i64 (-1))) 1046 (.int .i64 0) 1036 = some (.int .i64 (-1)) := (upd_other _ _ _ _ (by decide)).trans (upd_same _ _ _)
  have g46 : upd (upd R 1036 (.int .i64 (-1))) 1046 (.int .i64 0) 1046 = some (.int .i64 0) := upd_same _ _ _
  have gR : ∀ k, k ≠ 1036 → k ≠ 1046 → upd (upd R 1036 (.int .i64 (-1))) 1046 (.int .i64 0) k = R k := fun k a1 a2 => (upd_other _ _ _ _ a2).trans (upd_other _ _ _ _ a1)
  have HSW := Lib.hid ((hSw.set 1036 (by decide) (.int .i64 (-1)) hu36).set 1046 (by decide) (.int .i64 0) ((upd_other _ _ _ _ (by decide)).trans hu46))
  have HR := Lib.hid (show Rdr r s s.size ((w1.setCell ⟨b, 1036, none⟩ (.int .i64 (-1))).setCell ⟨b, 1046, none⟩ (.int .i64 0)) from hr.of_heap ((Below.heap_setCell _ _ _ _ (Ne.symm hbr)).trans (Below.heap_setCell _ _ _ _ (Ne.symm hbr))))
  have h26 := (gR 1026 (by decide) (by decide)).trans hp
  have h28 := (gR 1028 (by decide) (by decide)).trans hoff
  have h29 := (gR 1029 (by decide) (by decide)).trans hln
  have h30 := (gR 1030 (by decide) (by decide)).trans hcol
  have h31 := (gR 1031 (by decide) (by decide)).trans hla
  have h32 := (gR 1032 (by decide) (by decide)).trans hF.one
  have h45 := (gR 1045 (by decide) (by decide)).trans hu45
  have h47 := (gR 1047 (by decide) (by decide)).trans hu47
  have HG : Hid (∀ R5 : Nat → Option Value, (∀ k, k ≠ 1036 → k ≠ 1045 → k ≠ 1046 → k ≠ 1047 → R5 k = upd (upd R 1036 (.int .i64 (-1))) 1046 (.int .i64 0) k) → (∀ k, k = 1036 ∨ k = 1045 ∨ k = 1046 ∨ k = 1047 → ∃ u, R5 k = some u) →
      Full s R5 ∧ R5 1026 = some (.int .i64 (q + 1 : Nat)) ∧ (∃ x, R5 1029 = some (.int .i64 x)) ∧ (∃ x, R5 1031 = some (.int .i64 x)) ∧ (∀ k, 1036 ≤ k → k ≤ 1048 → ∃ u, R5 k = some u) ∧ Kept R5 R0) := by
    intro R5 hR5 hu
    have hl := txt_length s
    have hR : ∀ k, k ≠ 1036 → k ≠ 1045 → k ≠ 1046 → k ≠ 1047 → R5 k = R k := fun k a1 a2 a3 a4 => (hR5 k a1 a2 a3 a4).trans (gR k a1 a3)
    refine ⟨⟨fun j hj => (hR _ (by omega) (by omega) (by omega) (by omega)).trans (hF.txt j hj), (hR _ (by omega) (by omega) (by omega) (by omega)).trans hF.sent, (hR _ (by decide) (by decide) (by decide) (by decide)).trans hF.fin, (hR _ (by decide) (by decide) (by decide) (by decide)).trans hF.one, ⟨off, (hR _ (by decide) (by decide) (by decide) (by decide)).trans hoff⟩, ⟨col, (hR _ (by decide) (by decide) (by decide) (by decide)).trans hcol⟩⟩, (hR _ (by decide) (by decide) (by decide) (by decide)).trans hp, ⟨ln, (hR _ (by decide) (by decide) (by decide) (by decide)).trans hln⟩, ⟨la, (hR _ (by decide) (by decide) (by decide) (by decide)).trans hla⟩, ?_, ?_⟩
    · intro k k1 k2
      by_cases e : k = 1036 ∨ k = 1045 ∨ k = 1046 ∨ k = 1047
      · exact hu k e
      · obtain ⟨u, hu⟩ := hmore k k1 k2
        exact ⟨u, (hR k (by omega) (by omega) (by omega) (by omega)).trans hu⟩
    · intro k hk
      exact (hR k (by omega) (by omega) (by omega) (by omega)).trans (hK k hk)
  generalize upd (upd R 1036 (.int .i64 (-1))) 1046 (.int .i64 0) = R2 at *
  clear hSw hr hF hp hch hln hla hmore hK hoff hcol hu36 hu45 hu46 hu47 gR
  go_wp2_with fail
  go_step3
  go_wp2_with fail
  refine wp_loop_rounds 1 ?_
  rw [rounds_succ]
  go_wp2_with fail
  refine (reset_at T R2 B b _ (by exact HSW.out.blk)).mono ?_
  rintro e w2 ⟨rfl, k1, k2, k3⟩
  have HS2 := Lib.hid (HSW.out.wrote k1 k2 k3)
  have HR2 := Lib.hid (HR.out.kept k3 hbr)
  clear k1 k2 k3 HSW HR c36 c46 c42 f36 f46 hwh
  have c26 := HS2.out.blk.cell 1026 (by decide) h26
  have c28 := HS2.out.blk.cell 1028 (by decide) h28
  have c29 := HS2.out.blk.cell 1029 (by decide) h29
  have c30 := HS2.out.blk.cell 1030 (by decide) h30
  have c31 := HS2.out.blk.cell 1031 (by decide) h31
  have c32 := HS2.out.blk.cell 1032 (by decide) h32
  have c36 := HS2.out.blk.cell 1036 (by decide) g36
  have c45 := HS2.out.blk.cell 1045 (by decide) h45
  have c46 := HS2.out.blk.cell 1046 (by decide) g46
  have c47 := HS2.out.blk.cell 1047 (by decide) h47
  have f36 := HS2.out.blk.free 1036
  have f45 := HS2.out.blk.free 1045
  have f46 := HS2.out.blk.free 1046
  have f47 := HS2.out.blk.free 1047
  have G36 := Lib.hid g36; have G45 := Lib.hid h45; have G46 := Lib.hid g46; have G47 := Lib.hid h47
  clear h26 h28 h29 h30 h31 h32 g36 h45 g46 h47
  go_wp2_with fail
  go_region
  go_wp2_with fail
  go_region
  go_upto_if 58 with (fail)
  go_cut [] from 59 to 91 (fun wx => Hid (Begun T B b r q s R0 w0 wx))
  case first =>
    have fin : ∀ x y z, Begun T B b r q s R0 w0 ((((w2.setCell ⟨b, 1036, none⟩ (.int .i64 q)).setCell ⟨b, 1045, none⟩ x).setCell ⟨b, 1046, none⟩ y).setCell ⟨b, 1047, none⟩ z) := by
      intro x y z
      have hS := (((HS2.out.set 1036 (by decide) (.int .i64 q) G36.out).set 1045 (by decide) x ((upd_other _ _ _ _ (by decide)).trans G45.out)).set 1046 (by decide) y ((upd_other _ _ _ _ (by decide)).trans ((upd_other _ _ _ _ (by decide)).trans G46.out))).set 1047 (by decide) z ((upd_other _ _ _ _ (by decide)).trans ((upd_other _ _ _ _ (by decide)).trans ((upd_other _ _ _ _ (by decide)).trans G47.out)))
      obtain ⟨a1, a2, a3, a4, a5, a6⟩ := HG.out (upd (upd (upd (upd R2 1036 (.int .i64 q)) 1045 x) 1046 y) 1047 z) (fun k k1 k2 k3 k4 => (upd_other _ _ _ _ k4).trans ((upd_other _ _ _ _ k3).trans ((upd_other _ _ _ _ k2).trans (upd_other _ _ _ _ k1)))) (by
        intro k hk
        unfold upd
        by_cases e1 : k = 1047
        · exact ⟨_, if_pos e1⟩
        · rw [if_neg e1]
          by_cases e2 : k = 1046
          · exact ⟨_, if_pos e2⟩
          · rw [if_neg e2]
            by_cases e3 : k = 1045
            · exact ⟨_, if_pos e3⟩
            · rw [if_neg e3]
              exact ⟨_, if_pos (by omega)⟩)
      refine ⟨_, hS, ?_, a1, a2, ?_, a3, a4, a5, a6⟩
      · exact HR2.out.of_heap ((Below.heap_setCell _ _ _ _ (Ne.symm hbr)).trans ((Below.heap_setCell _ _ _ _ (Ne.symm hbr)).trans ((Below.heap_setCell _ _ _ _ (Ne.symm hbr)).trans (Below.heap_setCell _ _ _ _ (Ne.symm hbr)))))
      · exact (upd_other _ _ _ _ (by decide)).trans ((upd_other _ _ _ _ (by decide)).trans ((upd_other _ _ _ _ (by decide)).trans (upd_same _ _ _)))
    have FIN := Lib.hid fin
    clear fin HG HS2 HR2
    by_cases hc0 : 0 < col
    · go_wp2_with fail
      go_meet
      exact (FIN.out _ _ _).drew.drew
    · go_wp2_with fail
      go_meet
      exact (FIN.out _ _ _).drew.drew
  case rest =>
    have hcut' := hcut.out
    clear hcut HG HS2 HR2 c26 c28 c29 c30 c31 c32 c36 c45 c46 c47 f36 f45 f46 f47 G36 G45 G46 G47
    obtain ⟨R5, hS5, hr5, hF5, hp5, ht5, hln5, hla5, hm5, hK5⟩ := hcut'
    have HE := Lib.hid (show Env B b r s ea R5 wc from ⟨hbr, hB4, Nat.le_trans hsz.out hS5.fr.size, (hS5.below.cell (p := ⟨4, 0, none⟩) hB4).trans heof.out, hle, hall.out, (hK5 0 (Or.inl rfl)).trans hS.out.src⟩)
    have HC := Lib.hid (show Cur T B b r s q R5 wc q wc from Or.inl ⟨hq, R5, Sw.init hS5.blk, hr5, hF5, hp5, ht5, fun _ _ _ => rfl⟩)
    have HM := Lib.hid ((hK5 1041 (by decide)).trans hS.out.mode)
    have c41 := hS5.blk.cell 1041 (by decide) HM.out
    have c43 := hS5.blk.cell 1043 (by decide) ((hK5 1043 (by decide)).trans hS.out.ident)
    have e24 := bits2824
    have HS5 := Lib.hid hS5; have HLN := Lib.hid hln5; have HLA := Lib.hid hla5; have HMO := Lib.hid hm5; have HK := Lib.hid hK5
    clear hS5 hr5 hF5 hp5 ht5 hln5 hla5 hm5 hK5
    go_wp2_with fail
    refine (ident_no b c _ (by omega) (by exact c43)).mono ?_
    rintro _ _ ⟨rfl, rfl⟩
    go_wp2_with fail
    refine (isDec_yes c _ h1 h2).mono ?_
    rintro _ _ ⟨rfl, rfl⟩
    go_wp2_with fail
    refine (hnum.out R5 wc HE.out HC.out HM.out).mono ?_
    rintro e w3 ⟨rfl, hC3⟩
    rcases hC3 with ⟨hbad, _⟩ | ⟨_, R6, hS6, hr6, p1, p2, p3, _, hsame⟩
    · omega
    · obtain ⟨u37, hu37⟩ := HMO.out 1037 (by decide) (by decide)
      obtain ⟨u38, hu38⟩ := HMO.out 1038 (by decide) (by decide)
      have q37 := (hsame 1037 (by decide) (by decide)).trans hu37
      have q38 := (hsame 1038 (by decide) (by decide)).trans hu38
      have c26 := hS6.blk.cell 1026 (by decide) p1
      have c32 := hS6.blk.cell 1032 (by decide) p3
      have c37 := hS6.blk.cell 1037 (by decide) q37
      have c38 := hS6.blk.cell 1038 (by decide) q38
      have f37 := hS6.blk.free 1037
      have f38 := hS6.blk.free 1038
      have HS6 := Lib.hid hS6; have P2 := Lib.hid p2; have Q37 := Lib.hid q37; have Q38 := Lib.hid q38
      clear hS6 hr6 p1 p2 p3 hsame q37 q38 hu37 hu38 HMO HLN HLA HK HC HE HM c41 c43
      go_wp2_with fail
      go_region
      go_wp2_with fail
      rw [Exit.noGoto_ret]
      go_ret
      refine ⟨_, rfl, ((HS5.out.trans HS6.out).set 1037 (by decide) (.int .i64 0) Q37.out).set 1038 (by decide) (.int .i32 (-1)) ((upd_other _ _ _ _ (by decide)).trans Q38.out) |>.drew, ?_, ?_⟩
      · exact (upd_other _ _ _ _ (by decide)).trans ((upd_other _ _ _ _ (by decide)).trans P2.out)
      · exact (upd_other _ _ _ _ (by decide)).trans (upd_same _ _ _)

set_option maxRecDepth 100000 in
set_option maxHeartbeats 4000000 in
theorem scan_minus {T : TypeId} {B b r : Nat} {s : ByteArray} {ea : Addr} {R0 : Nat → Option Value} {w0 : World} (q : Nat) (c1 : Int) (hc1 : Hid (chAt s (q + 1) = c1)) (hq1 : q + 1 < s.size) (w : World) (hbr : b ≠ r) (hq : q < s.size) (_hc : Hid (chAt s q = 45)) (hS : Hid (Set R0 r)) (hB4 : 4 < B) (hsz : Hid (B ≤ w0.heap.size)) (heof : Hid (w0.cell? ⟨4, 0, none⟩ = some (.iface 188 (.pointer (some ea))))) (hle : s.size ≤ 1010) (hall : Hid (∀ i, i < s.size → 45 ≤ chAt s i ∧ chAt s i ≤ 57))
    (hP : Hid (Calls Tryz.prog 44 #[.pointer (some ⟨b, 0, none⟩)] w fun e w' => e = .returned (.int .i32 45) ∧ Held T B b r s R0 w0 q w')) :
    Calls Tryz.prog 25 #[.pointer (some ⟨b, 0, none⟩)] w (ScannedMinus T B b r q s R0 w0) := by
  have hwh := white_no 45 (by omega) (by omega)
  go_enter Tryz.func25, Tryz.ntmps25
  go_wp2_with fail
  go_step3
  go_wp2_with fail
  refine hP.out.mono ?_
  rintro e w1 ⟨rfl, R, hSw, hr, hF, hp, hch, ⟨ln, hln⟩, ⟨la, hla⟩, hmore, hK⟩
  clear hP
  obtain ⟨off, hoff⟩ := hF.off
  obtain ⟨col, hcol⟩ := hF.col
  obtain ⟨u36, hu36⟩ := hmore 1036 (by decide) (by decide)
  obtain ⟨u45, hu45⟩ := hmore 1045 (by decide) (by decide)
  obtain ⟨u46, hu46⟩ := hmore 1046 (by decide) (by decide)
  obtain ⟨u47, hu47⟩ := hmore 1047 (by decide) (by decide)
  have c36 := hSw.blk.cell 1036 (by decide) hu36
  have c46 := hSw.blk.cell 1046 (by decide) hu46
  have c42 := hSw.blk.cell 1042 (by decide) ((hK 1042 (by decide)).trans hS.out.white)
  have f36 := hSw.blk.free 1036
  have f46 := hSw.blk.free 1046
  have g36 : upd (upd R 1036 (.int .i64 (-1))) 1046 (.int .i64 0) 1036 = some (.int .i64 (-1)) := (upd_other _ _ _ _ (by decide)).trans (upd_same _ _ _)
  have g46 : upd (upd R 1036 (.int .i64 (-1))) 1046 (.int .i64 0) 1046 = some (.int .i64 0) := upd_same _ _ _
  have gR : ∀ k, k ≠ 1036 → k ≠ 1046 → upd (upd R 1036 (.int .i64 (-1))) 1046 (.int .i64 0) k = R k := fun k a1 a2 => (upd_other _ _ _ _ a2).trans (upd_other _ _ _ _ a1)
  have HSW := Lib.hid ((hSw.set 1036 (by decide) (.int .i64 (-1)) hu36).set 1046 (by decide) (.int .i64 0) ((upd_other _ _ _ _ (by decide)).trans hu46))
  have HR := Lib.hid (show Rdr r s s.size ((w1.setCell ⟨b, 1036, none⟩ (.int .i64 (-1))).setCell ⟨b, 1046, none⟩ (.int .i64 0)) from hr.of_heap ((Below.heap_setCell _ _ _ _ (Ne.symm hbr)).trans (Below.heap_setCell _ _ _ _ (Ne.symm hbr))))
  have h26 := (gR 1026 (by decide) (by decide)).trans hp
  have h28 := (gR 1028 (by decide) (by decide)).trans hoff
  have h29 := (gR 1029 (by decide) (by decide)).trans hln
  have h30 := (gR 1030 (by decide) (by decide)).trans hcol
  have h31 := (gR 1031 (by decide) (by decide)).trans hla
  have h32 := (gR 1032 (by decide) (by decide)).trans hF.one
  have h45 := (gR 1045 (by decide) (by decide)).trans hu45
  have h47 := (gR 1047 (by decide) (by decide)).trans hu47
  have HG : Hid (∀ R5 : Nat → Option Value, (∀ k, k ≠ 1036 → k ≠ 1045 → k ≠ 1046 → k ≠ 1047 → R5 k = upd (upd R 1036 (.int .i64 (-1))) 1046 (.int .i64 0) k) → (∀ k, k = 1036 ∨ k = 1045 ∨ k = 1046 ∨ k = 1047 → ∃ u, R5 k = some u) →
      Full s R5 ∧ R5 1026 = some (.int .i64 (q + 1 : Nat)) ∧ (∃ x, R5 1029 = some (.int .i64 x)) ∧ (∃ x, R5 1031 = some (.int .i64 x)) ∧ (∀ k, 1036 ≤ k → k ≤ 1048 → ∃ u, R5 k = some u) ∧ Kept R5 R0) := by
    intro R5 hR5 hu
    have hl := txt_length s
    have hR : ∀ k, k ≠ 1036 → k ≠ 1045 → k ≠ 1046 → k ≠ 1047 → R5 k = R k := fun k a1 a2 a3 a4 => (hR5 k a1 a2 a3 a4).trans (gR k a1 a3)
    refine ⟨⟨fun j hj => (hR _ (by omega) (by omega) (by omega) (by omega)).trans (hF.txt j hj), (hR _ (by omega) (by omega) (by omega) (by omega)).trans hF.sent, (hR _ (by decide) (by decide) (by decide) (by decide)).trans hF.fin, (hR _ (by decide) (by decide) (by decide) (by decide)).trans hF.one, ⟨off, (hR _ (by decide) (by decide) (by decide) (by decide)).trans hoff⟩, ⟨col, (hR _ (by decide) (by decide) (by decide) (by decide)).trans hcol⟩⟩, (hR _ (by decide) (by decide) (by decide) (by decide)).trans hp, ⟨ln, (hR _ (by decide) (by decide) (by decide) (by decide)).trans hln⟩, ⟨la, (hR _ (by decide) (by decide) (by decide) (by decide)).trans hla⟩, ?_, ?_⟩
    · intro k k1 k2
      by_cases e : k = 1036 ∨ k = 1045 ∨ k = 1046 ∨ k = 1047
      · exact hu k e
      · obtain ⟨u, hu⟩ := hmore k k1 k2
        exact ⟨u, (hR k (by omega) (by omega) (by omega) (by omega)).trans hu⟩
    · intro k hk
      exact (hR k (by omega) (by omega) (by omega) (by omega)).trans (hK k hk)
  generalize upd (upd R 1036 (.int .i64 (-1))) 1046 (.int .i64 0) = R2 at *
  clear hSw hr hF hp hch hln hla hmore hK hoff hcol hu36 hu45 hu46 hu47 gR
  go_wp2_with fail
  go_step3
  go_wp2_with fail
  refine wp_loop_rounds 1 ?_
  rw [rounds_succ]
  go_wp2_with fail
  refine (reset_at T R2 B b _ (by exact HSW.out.blk)).mono ?_
  rintro e w2 ⟨rfl, k1, k2, k3⟩
  have HS2 := Lib.hid (HSW.out.wrote k1 k2 k3)
  have HR2 := Lib.hid (HR.out.kept k3 hbr)
  clear k1 k2 k3 HSW HR c36 c46 c42 f36 f46 hwh
  have c26 := HS2.out.blk.cell 1026 (by decide) h26
  have c28 := HS2.out.blk.cell 1028 (by decide) h28
  have c29 := HS2.out.blk.cell 1029 (by decide) h29
  have c30 := HS2.out.blk.cell 1030 (by decide) h30
  have c31 := HS2.out.blk.cell 1031 (by decide) h31
  have c32 := HS2.out.blk.cell 1032 (by decide) h32
  have c36 := HS2.out.blk.cell 1036 (by decide) g36
  have c45 := HS2.out.blk.cell 1045 (by decide) h45
  have c46 := HS2.out.blk.cell 1046 (by decide) g46
  have c47 := HS2.out.blk.cell 1047 (by decide) h47
  have f36 := HS2.out.blk.free 1036
  have f45 := HS2.out.blk.free 1045
  have f46 := HS2.out.blk.free 1046
  have f47 := HS2.out.blk.free 1047
  have G36 := Lib.hid g36; have G45 := Lib.hid h45; have G46 := Lib.hid g46; have G47 := Lib.hid h47
  clear h26 h28 h29 h30 h31 h32 g36 h45 g46 h47
  go_wp2_with fail
  go_region
  go_wp2_with fail
  go_region
  go_upto_if 58 with (fail)
  go_cut [] from 59 to 91 (fun wx => Hid (Begun T B b r q s R0 w0 wx))
  case first =>
    have fin : ∀ x y z, Begun T B b r q s R0 w0 ((((w2.setCell ⟨b, 1036, none⟩ (.int .i64 q)).setCell ⟨b, 1045, none⟩ x).setCell ⟨b, 1046, none⟩ y).setCell ⟨b, 1047, none⟩ z) := by
      intro x y z
      have hS := (((HS2.out.set 1036 (by decide) (.int .i64 q) G36.out).set 1045 (by decide) x ((upd_other _ _ _ _ (by decide)).trans G45.out)).set 1046 (by decide) y ((upd_other _ _ _ _ (by decide)).trans ((upd_other _ _ _ _ (by decide)).trans G46.out))).set 1047 (by decide) z ((upd_other _ _ _ _ (by decide)).trans ((upd_other _ _ _ _ (by decide)).trans ((upd_other _ _ _ _ (by decide)).trans G47.out)))
      obtain ⟨a1, a2, a3, a4, a5, a6⟩ := HG.out (upd (upd (upd (upd R2 1036 (.int .i64 q)) 1045 x) 1046 y) 1047 z) (fun k k1 k2 k3 k4 => (upd_other _ _ _ _ k4).trans ((upd_other _ _ _ _ k3).trans ((upd_other _ _ _ _ k2).trans (upd_other _ _ _ _ k1)))) (by
        intro k hk
        unfold upd
        by_cases e1 : k = 1047
        · exact ⟨_, if_pos e1⟩
        · rw [if_neg e1]
          by_cases e2 : k = 1046
          · exact ⟨_, if_pos e2⟩
          · rw [if_neg e2]
            by_cases e3 : k = 1045
            · exact ⟨_, if_pos e3⟩
            · rw [if_neg e3]
              exact ⟨_, if_pos (by omega)⟩)
      refine ⟨_, hS, ?_, a1, a2, ?_, a3, a4, a5, a6⟩
      · exact HR2.out.of_heap ((Below.heap_setCell _ _ _ _ (Ne.symm hbr)).trans ((Below.heap_setCell _ _ _ _ (Ne.symm hbr)).trans ((Below.heap_setCell _ _ _ _ (Ne.symm hbr)).trans (Below.heap_setCell _ _ _ _ (Ne.symm hbr)))))
      · exact (upd_other _ _ _ _ (by decide)).trans ((upd_other _ _ _ _ (by decide)).trans ((upd_other _ _ _ _ (by decide)).trans (upd_same _ _ _)))
    have FIN := Lib.hid fin
    clear fin HG HS2 HR2
    by_cases hc0 : 0 < col
    · go_wp2_with fail
      go_meet
      exact (FIN.out _ _ _).drew.drew
    · go_wp2_with fail
      go_meet
      exact (FIN.out _ _ _).drew.drew
  case rest =>
    have hcut' := hcut.out
    clear hcut HG HS2 HR2 c26 c28 c29 c30 c31 c32 c36 c45 c46 c47 f36 f45 f46 f47 G36 G45 G46 G47
    obtain ⟨R5, hS5, hr5, hF5, hp5, ht5, hln5, hla5, hm5, hK5⟩ := hcut'
    have HE := Lib.hid (show Env B b r s ea R5 wc from ⟨hbr, hB4, Nat.le_trans hsz.out hS5.fr.size, (hS5.below.cell (p := ⟨4, 0, none⟩) hB4).trans heof.out, hle, hall.out, (hK5 0 (Or.inl rfl)).trans hS.out.src⟩)
    have HC := Lib.hid (show Cur T B b r s q R5 wc q wc from Or.inl ⟨hq, R5, Sw.init hS5.blk, hr5, hF5, hp5, ht5, fun _ _ _ => rfl⟩)
    have HM := Lib.hid ((hK5 1041 (by decide)).trans hS.out.mode)
    have c41 := hS5.blk.cell 1041 (by decide) HM.out
    have c43 := hS5.blk.cell 1043 (by decide) ((hK5 1043 (by decide)).trans hS.out.ident)
    have e24 := bits2824
    have HS5 := Lib.hid hS5; have HLN := Lib.hid hln5; have HLA := Lib.hid hla5; have HMO := Lib.hid hm5; have HK := Lib.hid hK5
    clear hS5 hr5 hF5 hp5 ht5 hln5 hla5 hm5 hK5
    go_wp2_with fail
    refine (ident_no b 45 _ (by omega) (by exact c43)).mono ?_
    rintro _ _ ⟨rfl, rfl⟩
    go_wp2_with fail
    refine (isDec_no 45 _ (by omega)).mono ?_
    rintro _ _ ⟨rfl, rfl⟩
    go_wp2_with fail
    refine (next_at HE.out q c1 _ (by exact HC.out) hq (Nat.le_refl _) hc1.out).mono ?_
    rintro e w3 ⟨rfl, hC3, -⟩
    rcases hC3 with ⟨_, R6, hS6, hr6, hF6, p1, p2, hsame⟩ | ⟨hbad, _⟩
    · obtain ⟨u37, hu37⟩ := HMO.out 1037 (by decide) (by decide)
      obtain ⟨u38, hu38⟩ := HMO.out 1038 (by decide) (by decide)
      have q37 := (hsame 1037 (by decide) (by decide)).trans hu37
      have q38 := (hsame 1038 (by decide) (by decide)).trans hu38
      have c26 := hS6.blk.cell 1026 (by decide) p1
      have c32 := hS6.blk.cell 1032 (by decide) hF6.one
      have c37 := hS6.blk.cell 1037 (by decide) q37
      have c38 := hS6.blk.cell 1038 (by decide) q38
      have f37 := hS6.blk.free 1037
      have f38 := hS6.blk.free 1038
      have HS6 := Lib.hid hS6; have P1 := Lib.hid p1; have P2 := Lib.hid p2; have Q37 := Lib.hid q37; have Q38 := Lib.hid q38; have HR6 := Lib.hid hr6; have HF6 := Lib.hid hF6; have HSM := Lib.hid hsame
      clear hS6 hr6 p1 p2 hsame q37 q38 hu37 hu38 HC HE HM c41 c43 hF6
      go_wp2_with fail
      go_region
      go_wp2_with fail
      rw [Exit.noGoto_ret]
      go_ret
      have gR : ∀ k, k ≠ 1037 → k ≠ 1038 → upd (upd R6 1037 (.int .i64 (q + 1 : Nat))) 1038 (.int .i32 c1) k = R6 k := fun k a1 a2 => (upd_other _ _ _ _ a2).trans (upd_other _ _ _ _ a1)
      have hl := txt_length s
      refine ⟨rfl, _, (((HS5.out.trans HS6.out).set 1037 (by decide) (.int .i64 (q + 1 : Nat)) Q37.out).set 1038 (by decide) (.int .i32 c1) ((upd_other _ _ _ _ (by decide)).trans Q38.out)).drew, ?_, ?_, (gR _ (by decide) (by decide)).trans P1.out, (upd_same _ _ _).trans (by rw [hc1.out]), ?_, ?_, ?_, ?_, (gR _ (by decide) (by decide)).trans P2.out, (upd_other _ _ _ _ (by decide)).trans (upd_same _ _ _)⟩
      · exact HR6.out.of_heap ((Below.heap_setCell _ _ _ _ (Ne.symm hbr)).trans (Below.heap_setCell _ _ _ _ (Ne.symm hbr)))
      · refine ⟨fun j hj => (gR _ (by omega) (by omega)).trans (HF6.out.txt j hj), (gR _ (by omega) (by omega)).trans HF6.out.sent, (gR _ (by decide) (by decide)).trans HF6.out.fin, (gR _ (by decide) (by decide)).trans HF6.out.one, ?_, ?_⟩
        · obtain ⟨x, hx⟩ := HF6.out.off; exact ⟨x, (gR _ (by decide) (by decide)).trans hx⟩
        · obtain ⟨x, hx⟩ := HF6.out.col; exact ⟨x, (gR _ (by decide) (by decide)).trans hx⟩
      · obtain ⟨x, hx⟩ := HLN.out; exact ⟨x, ((gR _ (by decide) (by decide)).trans (HSM.out 1029 (by decide) (by decide))).trans hx⟩
      · obtain ⟨x, hx⟩ := HLA.out; exact ⟨x, ((gR _ (by decide) (by decide)).trans (HSM.out 1031 (by decide) (by decide))).trans hx⟩
      · intro k k1 k2
        by_cases e : k = 1038
        · subst e; exact ⟨_, upd_same _ _ _⟩
        · by_cases e' : k = 1037
          · subst e'; exact ⟨_, (upd_other _ _ _ _ e).trans (upd_same _ _ _)⟩
          · by_cases e3 : k = 1036
            · subst e3; exact ⟨_, (gR _ (by decide) (by decide)).trans P2.out⟩
            · obtain ⟨u, hu⟩ := HMO.out k k1 k2
              exact ⟨u, ((gR k e' e).trans (HSM.out k (by omega) e3)).trans hu⟩
      · intro k hk
        exact ((gR k (by omega) (by omega)).trans (HSM.out k (by omega) (by omega))).trans (HK.out k hk)
    · omega


end Go.Proofs.YtdjjgnplpjoabaaGreatDoor
