/- The scanner's first character: its buffer is filled. -/
import Derived.Test.YtdjjgnplpjoabaaGreatDoorW20
import Derived.Deep.DeepCutAuto
import Derived.BigQuiet
import Derived.BigRegion
namespace Go.Proofs.YtdjjgnplpjoabaaGreatDoor
open Go.RowKit

theorem slice42 (b p q : Nat) (hq : p ≤ q) (hp : q ≤ 1024) (w : World) : (Instr.sliceAt 42 (.pointer (some ⟨b, 1, none⟩)) (some (.int .i64 p)) (some (.int .i64 q)) none).run Tryz.prog w = .ok (.slice (some ⟨b, 1 + p, none⟩) (q - p) (1025 - p)) w := by
  have e2 : Tryz.prog.arrayLen 42 = 1025 := by kernel_rfl
  have e1 : Tryz.prog.elem 42 = 5 := by kernel_rfl
  have h := run_sliceAt_array_lh (P := Tryz.prog) w 42 ⟨b, 1, none⟩ (by kernel_rfl) .i64 .i64 p q (by omega) (by omega) (by omega)
  rw [h, e1, e2, Tryz.sizeOf5]
  have e3 : ¬ 1025 = p := by omega
  have e4 : (⟨b, 1, none⟩ : Addr).add p = ⟨b, 1 + p, none⟩ := by unfold Addr.add; split <;> simp_all
  simp [Result.andThen, slicedAt, e3, e4]

theorem slice42_zero (b q : Nat) (hp : q ≤ 1024) (w : World) : (Instr.sliceAt 42 (.pointer (some ⟨b, 1, none⟩)) (some (.int .i64 0)) (some (.int .i64 q)) none).run Tryz.prog w = .ok (.slice (some ⟨b, 1, none⟩) q 1025) w := by
  have h := slice42 b 0 q (Nat.zero_le _) hp w
  rw [Nat.sub_zero, Nat.sub_zero, Nat.add_zero, show ((0 : Nat) : Int) = 0 from rfl] at h
  exact h

/-- A copy of nothing, as one step of a region. -/
theorem step_copy_nothing {P : Program} {ops : Array Oper} {o : Oper} {a : Act} {w : World} {K : Act → World → Prop} {Q : Exit → Act → World → Prop} {E : Prop}
    (hg : o.guard = none) (d x : Operand) (dT sT : TypeId) (hop : o.op = Op.call { callee := Callee.builtin Builtin.copy, args := #[d, x], argTypes := #[dT, sT] })
    (elem : TypeId) (hu : P.underlying dT = some (.slice elem)) (hs : (P.info? elem).map (·.size) = some 1)
    (da sa : Option Addr) (dLen dCap sCap : Nat) (hd : a.eval d = .slice da dLen dCap) (hx : a.eval x = .slice sa 0 sCap)
    (hK : K (a.put o.dst (goInt 0)) w) :
    if Region.wanted o (yielded ops a.tmps) = true then Oper.wp P o a w K Q else E := by
  have hw : Region.wanted o (yielded ops a.tmps) = true := by simp [Region.wanted, hg]
  rw [if_pos hw]
  have hrun := run_copy_none (P := P) w dT sT o.type elem da sa dLen dCap 0 sCap hu hs (by simp)
  unfold Oper.wp
  simp [execOp, hop, resolve, invoke, builtin, hd, hx, hrun, Result.andThen]
  exact hK

theorem method71 (x : Value) (w : World) : (method 330 71 x "Read").run Tryz.prog w = .ok (155, x) w := by kernel_rfl

theorem txt_length (s : ByteArray) : (txt s).length = s.size := by rw [List.length_map, ← Lib.size_eq]

theorem read_here {T : TypeId} {B b r : Nat} {bs : List Value} {w0 W : World} {R : Nat → Option Value} {s : ByteArray} (cp : Nat) (h1 : 1 ≤ s.size) (hle : s.size ≤ 1010) (hbr : b ≠ r) (hBr : B ≤ r)
    (HS : Sw T B b r bs w0 R W) (HR : Rdr r s 0 W) (hc : ∀ k, 1 ≤ k → k ≤ 1025 → ∃ u, R k = some u) :
    Calls Tryz.prog 155 #[.pointer (some ⟨r, 0, none⟩), .slice (some ⟨b, 1, none⟩) 1024 cp] W fun e w' => e = .returned (.tuple #[.int .i64 s.size, .nilIface]) ∧ Sw T B b r bs w0 (updN R 1 (txt s)) w' ∧ Rdr r s s.size w' := by
  obtain ⟨v2, hv2⟩ := HR.c2
  have hl := txt_length s
  refine (read_some r b cp s W h1 hle HR.c0 HR.c1 v2 hv2 (HR.free 1) (HR.free 2) hbr (fun j hj => ?_) (fun j hj => HS.blk.free _)).mono ?_
  · obtain ⟨u, hu⟩ := hc (1 + j) (by omega) (by omega)
    rw [HS.blk.cell (1 + j) (by omega) hu]; rfl
  · rintro _ _ ⟨rfl, q, rfl⟩
    have a1 := ((HS.drewN q).setR (i := 0) (s := s) HR hbr hBr 2 (.int .i64 (-1))).drew
    have a2 := a1.setCells (txt s) 1 (by omega) (fun k k1 k2 => hc k k1 (by omega))
    have b1 : Rdr r s 0 ((W.drewN q).setCell ⟨r, 2, none⟩ (.int .i64 (-1))).drew := Rdr.set2 (w := W.drewN q) HR _
    have b2 := b1.of_heap (heap_setCells_other b r (Ne.symm hbr) (txt s) 1 _)
    exact ⟨rfl, a2.setR b2 hbr hBr 1 _, b2.set1 _⟩

/-- Behind the scanner's first step: the buffer holds the text, one character is read. -/
def Filled (T : TypeId) (B b r : Nat) (bs : List Value) (R : Nat → Option Value) (s : ByteArray) (w : World) (e : Ending) (w' : World) : Prop :=
  ∃ (R' : Nat → Option Value) (c : Int), e = .returned (.int .i32 c) ∧ R' 1 = some (.int .u8 c) ∧ Sw T B b r bs w R' w' ∧ Rdr r s s.size w' ∧ (∀ j (h : j < (txt s).length), R' (1 + j) = some (txt s)[j]) ∧ R' (1 + s.size) = some (.int .u8 128) ∧
    R' 1026 = some (.int .i64 1) ∧ R' 1027 = some (.int .i64 s.size) ∧ R' 1032 = some (.int .i64 1) ∧ (∃ x, R' 1030 = some (.int .i64 x)) ∧ (∃ x, R' 1028 = some (.int .i64 x)) ∧
    ∀ k, k = 0 ∨ k = 1029 ∨ k = 1031 ∨ 1033 ≤ k → R' k = R k

theorem filled_end {T : TypeId} {B b r p : Nat} {bs : List Value} {R R' : Nat → Option Value} {s : ByteArray} {off col c0 : Int} {v1 : Value} {w wc : World} (m : Nat) (hbr : b ≠ r) (h1 : 1 ≤ s.size) (hle : s.size ≤ 1010)
    (HE : R' = updN (upd R 1028 (.int .i64 (wrap64 (off + p)))) 1 (txt s)) (E30 : R' 1030 = some (.int .i64 col)) (E32 : R' 1032 = some v1) (E1 : R' 1 = some (.int .u8 c0))
    (HS3 : Sw T B b r bs w (upd (upd (upd R' 1026 (.int .i64 0)) 1027 (.int .i64 s.size)) (1 + s.size) (.int .u8 128)) wc) (HR3 : Rdr r s s.size wc) :
    Filled T B b r bs R s w (.returned (.int .i32 c0)) ((((wc.drewN m).setCell ⟨b, 1026, none⟩ (.int .i64 1)).setCell ⟨b, 1032, none⟩ (.int .i64 1)).setCell ⟨b, 1030, none⟩ (.int .i64 (wrap64 (col + 1)))) := by
  have hl := txt_length s
  have gR : ∀ k, k ≠ 1026 → k ≠ 1027 → k ≠ 1 + s.size → upd (upd (upd R' 1026 (.int .i64 0)) 1027 (.int .i64 s.size)) (1 + s.size) (.int .u8 128) k = R' k := fun k a1 a2 a3 => by
    rw [upd_other _ _ _ _ a3, upd_other _ _ _ _ a2, upd_other _ _ _ _ a1]
  have g26 : upd (upd (upd R' 1026 (.int .i64 0)) 1027 (.int .i64 s.size)) (1 + s.size) (.int .u8 128) 1026 = some (.int .i64 0) := by
    rw [upd_other _ _ _ _ (by omega), upd_other _ _ _ _ (by decide), upd_same]
  have fR : ∀ (R3 : Nat → Option Value) k, k ≠ 1026 → k ≠ 1032 → k ≠ 1030 → upd (upd (upd R3 1026 (.int .i64 1)) 1032 (.int .i64 1)) 1030 (.int .i64 (wrap64 (col + 1))) k = R3 k := fun R3 k a1 a2 a3 => by
    rw [upd_other _ _ _ _ a3, upd_other _ _ _ _ a2, upd_other _ _ _ _ a1]
  refine ⟨_, c0, rfl, ?_, ((((HS3.drewN m).set 1026 (by decide) (.int .i64 1) g26).set 1032 (by decide) (.int .i64 1) ((upd_other _ _ _ _ (by decide)).trans ((gR _ (by decide) (by decide) (by omega)).trans E32))).set 1030 (by decide) (.int .i64 (wrap64 (col + 1))) ((upd_other _ _ _ _ (by decide)).trans ((upd_other _ _ _ _ (by decide)).trans ((gR _ (by decide) (by decide) (by omega)).trans E30)))), ?_, ?_, ?_, ?_, ?_, ?_, ?_, ?_, ?_⟩
  · rw [fR _ _ (by decide) (by decide) (by decide), gR _ (by decide) (by decide) (by omega)]; exact E1
  · exact HR3.of_heap ((Below.heap_setCell _ _ _ _ (Ne.symm hbr)).trans ((Below.heap_setCell _ _ _ _ (Ne.symm hbr)).trans (Below.heap_setCell _ _ _ _ (Ne.symm hbr))))
  · intro j hj
    rw [fR _ _ (by omega) (by omega) (by omega), gR _ (by omega) (by omega) (by omega), HE]
    exact updN_in (txt s) _ 1 j hj
  · rw [fR _ _ (by omega) (by omega) (by omega), upd_same]
  · rw [upd_other _ _ _ _ (by decide), upd_other _ _ _ _ (by decide), upd_same]
  · rw [fR _ _ (by decide) (by decide) (by decide), upd_other _ _ _ _ (by omega), upd_same]
  · rw [upd_other _ _ _ _ (by decide), upd_same]
  · exact ⟨_, upd_same _ _ _⟩
  · refine ⟨wrap64 (off + p), ?_⟩
    rw [fR _ _ (by decide) (by decide) (by decide), gR _ (by decide) (by decide) (by omega), HE, updN_out _ _ _ _ (by omega), upd_same]
  · intro k hk
    rw [fR _ _ (by omega) (by omega) (by omega), gR _ (by omega) (by omega) (by omega), HE, updN_out _ _ _ _ (by omega), upd_other _ _ _ _ (by omega)]

set_option maxRecDepth 100000 in
set_option maxHeartbeats 4000000 in
theorem next_fill (T : TypeId) (R : Nat → Option Value) (B b r p : Nat) (bs : List Value) (s : ByteArray) (off col c0 : Int) (v1 : Value) (w : World) (hb : Hid (Blk T R B b bs w)) (h1 : 1 ≤ s.size) (hle : s.size ≤ 1010) (hbr : b ≠ r) (hBr : Hid (B ≤ r)) (hp : p ≤ 1010)
    (r0 : Hid (R 0 = some (.iface 71 (.pointer (some ⟨r, 0, none⟩))))) (r1 : Hid (R 1026 = some (.int .i64 p))) (r2 : Hid (R (1 + p) = some (.int .u8 128))) (r3 : Hid (R 1027 = some (.int .i64 p))) (r4 : Hid (R 1032 = some v1)) (r5 : Hid (R 1036 = some (.int .i64 (-1))))
    (r6 : Hid (R 1028 = some (.int .i64 off))) (r7 : Hid (R 1030 = some (.int .i64 col))) (r8 : Hid (∀ k, 1 ≤ k → k ≤ 1025 → ∃ u, R k = some u)) (hr : Hid (Rdr r s 0 w))
    (hc0 : Hid (∃ h : 0 < (txt s).length, (txt s)[0] = .int .u8 c0)) (hc1 : 1 ≤ c0) (hc2 : c0 < 128) (hc3 : c0 ≠ 10) (hut : Hid (w.cell? ⟨9, c0.toNat, none⟩ = some (.int .u8 240))) (hB9 : Hid (9 < B)) :
    Calls Tryz.prog 45 #[.pointer (some ⟨b, 0, none⟩)] w (Filled T B b r bs R s w) := by
  have c0' := hb.out.cell 0 (by decide) r0.out
  have c1 := hb.out.cell 1026 (by decide) r1.out
  have c2 := hb.out.cell (1 + p) (by omega) r2.out
  have c3 := hb.out.cell 1027 (by decide) r3.out
  have c4 := hb.out.cell 1032 (by decide) r4.out
  have c5 := hb.out.cell 1036 (by decide) r5.out
  have c6 := hb.out.cell 1028 (by decide) r6.out
  have f6 := hb.out.free 1028
  have hw4 : IntKind.i64.wrap ((p : Int) + 4) = (p : Int) + 4 := IntWalk.i64_in _ (by omega)
  have hg : decide ((p : Int) < IntKind.i64.wrap ((p : Int) + 4)) = true := by rw [hw4]; exact decide_eq_true (by omega)
  clear hw4
  have mixed : Tryz.prog.follows Departure.mixedOrders = true := by kernel_rfl
  have hi5 : (Tryz.prog.info? 5).map (·.size) = some 1 := by kernel_rfl
  have hs1 := fun w => slice42 b p p (Nat.le_refl _) (by omega) w
  rw [Nat.sub_self] at hs1
  have hm71 := method71
  have hsl := fun w => slice42 b 0 1024 (by decide) (by decide) w
  rw [Nat.sub_zero, Nat.sub_zero, Nat.add_zero] at hsl
  go_enter Tryz.func45, Tryz.ntmps45
  go_wp2_with fail
  go_quiet (fail)
  go_wp2_with fail
  refine wp_loop_rounds 2 ?_
  rw [rounds_succ]
  go_wp2_with fail
  go_quiet ((go_at_call 84; go_must (exact (fullRune_none _ _ _).mono fun _ _ h => ⟨h.1, _, h.2.symm⟩)))
  go_upto_region 7 with (fail)
  have hcp := fun W => run_copy_none (P := Tryz.prog) W 43 43 3 5 (some ⟨b, 1, none⟩) (some ⟨b, 1 + p, none⟩) 1025 1025 0 (1025 - p) Tryz.underlying43 hi5 (by simp)
  have hsl0 : ∀ w, (Instr.sliceAt 42 (.pointer (some ⟨b, 1, none⟩)) (some (.int .i64 0)) none none).run Tryz.prog w = .ok (.slice (some ⟨b, 1, none⟩) 1025 1025) w := by intro w; kernel_rfl
  go_quiet (fail)
  clear hcp hsl0 hs1 hg c5 c2 c4
  go_upto_region 8 with (fail)
  go_cut [] from 87 to 97 (fun wx => Hid (Sw T B b r bs w (upd R 1028 (.int .i64 (wrap64 (off + p)))) wx) ∧ Hid (Rdr r s 0 wx))
  case first =>
    go_region
    all_goals (go_wp2_with fail; go_meet; exact ⟨((Sw.init (r := r) hb.out).drewN _).set 1028 (by decide) (.int .i64 (wrap64 (off + p))) r6.out, hr.out.of_heap (Below.heap_setCell _ _ _ _ (Ne.symm hbr))⟩)
  case rest =>
    obtain ⟨HS1, HR1⟩ := hcut
    clear c0' c1 c3 c6 f6
    have g0 : upd R 1028 (.int .i64 (wrap64 (off + p))) 0 = _ := (upd_other _ _ _ _ (by decide)).trans r0.out
    have g26 : upd R 1028 (.int .i64 (wrap64 (off + p))) 1026 = _ := (upd_other _ _ _ _ (by decide)).trans r1.out
    have g27 : upd R 1028 (.int .i64 (wrap64 (off + p))) 1027 = _ := (upd_other _ _ _ _ (by decide)).trans r3.out
    have c0 := HS1.out.blk.cell 0 (by decide) g0
    have c1 := HS1.out.blk.cell 1026 (by decide) g26
    have c3 := HS1.out.blk.cell 1027 (by decide) g27
    clear g0 g26 g27
    go_wp2_with fail
    go_quiet (fail)
    go_upto_region 10 with (fail)
    have hcn : ∀ k, 1 ≤ k → k ≤ 1025 → ∃ u, upd R 1028 (.int .i64 (wrap64 (off + p))) k = some u := fun k k1 k2 => by rw [upd_other _ _ _ _ (by omega)]; exact r8.out k k1 k2
    have HC := Lib.hid hcn
    clear hcn
    go_cut [6, 7] from 107 to 121 (fun s6 s7 wx => s6 = .int .i64 s.size ∧ s7 = .nilIface ∧ ∃ R', Hid (Sw T B b r bs w R' wx) ∧ Hid (Rdr r s s.size wx) ∧ Hid (R' = updN (upd R 1028 (.int .i64 (wrap64 (off + p)))) 1 (txt s)))
    case first =>
      go_region_with (first | (go_at_call 155; go_must (refine (read_here 1025 h1 hle hbr hBr.out (HS1.out.drewN _) (HR1.out) HC.out).mono ?_); rintro _ w3 ⟨rfl, k1, k2⟩; have K1 := Lib.hid k1; have K2 := Lib.hid k2; clear k1 k2) | fail)
      all_goals (go_wp2_with fail; go_meet; exact ⟨rfl, rfl, _, K1, K2, rfl⟩)
    case rest =>
      obtain ⟨rfl, rfl, R', HS2, HR2, HE⟩ := hcut
      have hl := txt_length s
      clear c0 c1 c3 hsl HC
      have e26 : R' 1026 = some (.int .i64 p) := by rw [HE.out, updN_out _ _ _ _ (by omega), upd_other _ _ _ _ (by decide)]; exact r1.out
      have e27 : R' 1027 = some (.int .i64 p) := by rw [HE.out, updN_out _ _ _ _ (by omega), upd_other _ _ _ _ (by decide)]; exact r3.out
      have e30 : R' 1030 = some (.int .i64 col) := by rw [HE.out, updN_out _ _ _ _ (by omega), upd_other _ _ _ _ (by decide)]; exact r7.out
      have e32 : R' 1032 = some v1 := by rw [HE.out, updN_out _ _ _ _ (by omega), upd_other _ _ _ _ (by decide)]; exact r4.out
      obtain ⟨u1, hu1⟩ := r8.out (1 + s.size) (by omega) (by omega)
      have eN : R' (1 + s.size) = some u1 := by rw [HE.out, updN_out _ _ _ _ (by omega), upd_other _ _ _ _ (by omega)]; exact hu1
      obtain ⟨hl0, he0⟩ := hc0.out
      have e1 : R' 1 = some (.int .u8 c0) := by rw [HE.out]; have := updN_in (txt s) (upd R 1028 (.int .i64 (wrap64 (off + p)))) 1 0 hl0; rw [he0] at this; exact this
      have c1 := HS2.out.blk.cell 1026 (by decide) e26
      have c3 := HS2.out.blk.cell 1027 (by decide) e27
      have c6 := HS2.out.blk.cell (1 + s.size) (by omega) eN
      have f1 := HS2.out.blk.free 1026
      have f3 := HS2.out.blk.free 1027
      have f6 := HS2.out.blk.free (1 + s.size)
      have E26 := Lib.hid e26; have E27 := Lib.hid e27; have E30 := Lib.hid e30; have E32 := Lib.hid e32; have EN := Lib.hid eN; have E1 := Lib.hid e1
      clear e26 e27 e30 e32 eN e1 hu1 hl0 he0
      go_upto_region 13 with (fail)
      go_cut [] from 131 to 138 (fun wx => Hid (Sw T B b r bs w (upd (upd (upd R' 1026 (.int .i64 0)) 1027 (.int .i64 s.size)) (1 + s.size) (.int .u8 128)) wx) ∧ Hid (Rdr r s s.size wx))
      case first =>
        go_region
        all_goals (go_wp2_with fail; go_meet; exact ⟨Sw.drew (((HS2.out.set 1026 (by decide) (.int .i64 0) E26.out).set 1027 (by decide) (.int .i64 s.size) ((upd_other _ _ _ _ (by decide)).trans E27.out)).set (1 + s.size) (by omega) (.int .u8 128) ((upd_other _ _ _ _ (by omega)).trans ((upd_other _ _ _ _ (by omega)).trans EN.out))), HR2.out.of_heap ((Below.heap_setCell _ _ _ _ (Ne.symm hbr)).trans ((Below.heap_setCell _ _ _ _ (Ne.symm hbr)).trans (Below.heap_setCell _ _ _ _ (Ne.symm hbr))))⟩)
      case rest =>
        obtain ⟨HS3, HR3⟩ := hcut
        clear c1 c3 c6 f1 f3 f6
        have g26 : upd (upd (upd R' 1026 (.int .i64 0)) 1027 (.int .i64 s.size)) (1 + s.size) (.int .u8 128) 1026 = some (.int .i64 0) := by
          rw [upd_other _ _ _ _ (by omega), upd_other _ _ _ _ (by decide), upd_same]
        have g27 : upd (upd (upd R' 1026 (.int .i64 0)) 1027 (.int .i64 s.size)) (1 + s.size) (.int .u8 128) 1027 = some (.int .i64 s.size) := by
          rw [upd_other _ _ _ _ (by omega), upd_same]
        have gR : ∀ k, k ≠ 1026 → k ≠ 1027 → k ≠ 1 + s.size → upd (upd (upd R' 1026 (.int .i64 0)) 1027 (.int .i64 s.size)) (1 + s.size) (.int .u8 128) k = R' k := fun k a1 a2 a3 => by
          rw [upd_other _ _ _ _ a3, upd_other _ _ _ _ a2, upd_other _ _ _ _ a1]
        have c1 := HS3.out.blk.cell 1026 (by decide) g26
        have c3 := HS3.out.blk.cell 1027 (by decide) g27
        have c4 := HS3.out.blk.cell 1030 (by decide) ((gR _ (by decide) (by decide) (by omega)).trans E30.out)
        have c5 := HS3.out.blk.cell 1032 (by decide) ((gR _ (by decide) (by decide) (by omega)).trans E32.out)
        have c7 := HS3.out.blk.cell 1 (by decide) ((gR _ (by decide) (by decide) (by omega)).trans E1.out)
        have f1 := HS3.out.blk.free 1026
        have f4 := HS3.out.blk.free 1030
        have f5 := HS3.out.blk.free 1032
        have h9 := (HS3.out.below.cell (p := ⟨9, c0.toNat, none⟩) hB9.out).trans hut.out
        have HG9 := Lib.hid h9
        clear g26 g27 gR h9
        have hsz := fun w => slice42_zero b s.size (by omega) w
        clear hm71 hi5
        have hw4 : IntKind.i64.wrap 4 = 4 := IntWalk.i64_in 4 (by decide)
        by_cases hn4 : s.size < 4
        · have hg1 : decide ((s.size : Int) < IntKind.i64.wrap 4) = true := by rw [hw4]; exact decide_eq_true (by omega)
          clear hw4
          go_wp2_with fail
          rw [rounds_succ]
          go_wp2_with fail
          go_quiet ((go_at_call 84; go_must (exact (fullRune_ascii b 1 s.size 1025 c0 _ h1 (by exact c7) (by omega) hc2 (by exact HG9.out)).mono fun _ _ h => ⟨h.1, _, h.2.symm⟩)))
          go_wp2_with fail
          go_quiet (fail)
          go_wp2_with fail
          go_ret
          exact filled_end _ hbr h1 hle HE.out E30.out E32.out E1.out HS3.out HR3.out
        · have hg1 : decide ((s.size : Int) < IntKind.i64.wrap 4) = false := by rw [hw4]; exact decide_eq_false (by omega)
          have hg2 : decide ((s.size : Int) < 4) = false := decide_eq_false (by omega)
          have hg3 : decide (s.size < 4) = false := decide_eq_false (by omega)
          clear hw4
          go_wp2_with fail
          rw [rounds_succ]
          go_wp2_with fail
          go_quiet (fail)
          go_wp2_with fail
          go_quiet (fail)
          go_wp2_with fail
          go_ret
          exact filled_end _ hbr h1 hle HE.out E30.out E32.out E1.out HS3.out HR3.out

end Go.Proofs.YtdjjgnplpjoabaaGreatDoor
