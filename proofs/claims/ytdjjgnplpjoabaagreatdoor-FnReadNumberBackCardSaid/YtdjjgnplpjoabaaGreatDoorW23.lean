/- The scanner's step at the text's end: the token is saved, the end is answered; its conditions: the whole text lies in the buffer and has been read. -/
import Derived.Test.YtdjjgnplpjoabaaGreatDoorW22
import Derived.Deep.DeepCutAuto
import Derived.BigQuiet
import Derived.BigRegion
import Derived.LaidEql
namespace Go.Proofs.YtdjjgnplpjoabaaGreatDoor
open Go.RowKit

theorem neq_eof (a : Addr) (w : World) : (binOp .neq 31 (.iface 188 (.pointer (some a))) (.iface 188 (.pointer (some a)))).run Tryz.prog w = .ok (.bool false) w := by
  have ht := Tryz.underlying31
  have hx := Tryz.underlying188
  have hc : (Tryz.prog.info? 188).map (·.comparable) = some true := by kernel_rfl
  cases hi : Tryz.prog.info? 188 with
  | none => simp [hi] at hc
  | some i =>
    have hcc : i.comparable = true := by simpa [hi] using hc
    have h : ∀ d : Nat, (Op.equalIn (d + 2) 31 (.iface 188 (.pointer (some a))) (.iface 188 (.pointer (some a)))).run Tryz.prog w = .ok true w := fun d => by
      simp [Op.equalIn, run_underlying ht, run_underlying hx, typeInfo, hi, hcc, run_sameAddr_same]
    simp only [binOp]
    simp [Op.equal, Op.maxDepth, h 9998]

theorem Rdr.kept {b r : Nat} {s : ByteArray} {i : Int} {w w' : World} (h : Rdr r s i w) (hk : Lib.OthersKept 5 (some b) w w') (hbr : b ≠ r) : Rdr r s i w' := by
  obtain ⟨x, h⟩ := h
  exact ⟨x, hk r _ h (fun e => hbr (Option.some.inj e).symm) (fun c fz e => by injection e with _ e2 _; exact absurd e2 (by decide))⟩

theorem Sw.wrote {T : TypeId} {B b r : Nat} {bs cs : List Value} {w0 w w' : World} {R : Nat → Option Value} (h : Sw T B b r bs w0 R w) (hb : Blk T R B b cs w') (hbel : Below B w w') (hk : Lib.OthersKept 5 (some b) w w') : Sw T B b r cs w0 R w' :=
  ⟨hb, h.below.trans hbel, h.fr.trans ⟨hbel.os, hbel.tape, hbel.output, hbel.size, fun k c t h1 h2 h3 h4 => hk k _ h4 (fun e => h1 (Option.some.inj e)) (fun c' fz e => by injection e with _ e2 _; exact h3 e2)⟩⟩

theorem txt_one (s : ByteArray) : ∀ v ∈ txt s, v.oneCell' = true := by
  intro v hv
  obtain ⟨x, _, rfl⟩ := List.mem_map.1 hv
  rfl

/-- Behind the scanner's step at the text's end. -/
def Ended (T : TypeId) (B b r : Nat) (cs : List Value) (R : Nat → Option Value) (s : ByteArray) (w : World) (e : Ending) (w' : World) : Prop :=
  e = .returned (.int .i32 (-1)) ∧ ∃ R' : Nat → Option Value, Sw T B b r cs w R' w' ∧ Rdr r s s.size w' ∧ R' 1026 = some (.int .i64 0) ∧ R' 1036 = some (.int .i64 0) ∧ R' 1032 = some (.int .i64 0) ∧ (∃ x, R' 1030 = some (.int .i64 x)) ∧
    ∀ k, k = 0 ∨ k = 1029 ∨ k = 1031 ∨ 1033 ≤ k → k ≠ 1036 → R' k = R k

set_option maxRecDepth 100000 in
set_option maxHeartbeats 4000000 in
theorem next_end (T : TypeId) (R : Nat → Option Value) (B b r tp : Nat) (s : ByteArray) (off col : Int) (ea : Addr) (w : World) (hb : Hid (Blk T R B b [] w)) (hle : s.size ≤ 1010) (htp : tp < s.size) (hbr : b ≠ r) (hBw : Hid (B ≤ w.heap.size)) (hB4 : Hid (4 < B))
    (r0 : Hid (R 0 = some (.iface 71 (.pointer (some ⟨r, 0, none⟩))))) (r1 : Hid (R 1026 = some (.int .i64 s.size))) (r2 : Hid (R (1 + s.size) = some (.int .u8 128))) (r3 : Hid (R 1027 = some (.int .i64 s.size))) (r4 : Hid (R 1032 = some (.int .i64 1))) (r5 : Hid (R 1036 = some (.int .i64 tp)))
    (r6 : Hid (R 1028 = some (.int .i64 off))) (r7 : Hid (R 1030 = some (.int .i64 col))) (r8 : Hid (∀ j (h : j < (txt s).length), R (1 + j) = some (txt s)[j])) (hr : Hid (Rdr r s s.size w)) (he : Hid (w.cell? ⟨4, 0, none⟩ = some (.iface 188 (.pointer (some ea))))) :
    Calls Tryz.prog 45 #[.pointer (some ⟨b, 0, none⟩)] w (Ended T B b r ((txt s).drop tp) R s w) := by
  have hl := txt_length s
  have c0 := hb.out.cell 0 (by decide) r0.out
  have c1 := hb.out.cell 1026 (by decide) r1.out
  have c2 := hb.out.cell (1 + s.size) (by omega) r2.out
  have c3 := hb.out.cell 1027 (by decide) r3.out
  have c5 := hb.out.cell 1036 (by decide) r5.out
  have hw4 : IntKind.i64.wrap ((s.size : Int) + 4) = (s.size : Int) + 4 := IntWalk.i64_in _ (by omega)
  have hg : decide ((s.size : Int) < IntKind.i64.wrap ((s.size : Int) + 4)) = true := by rw [hw4]; exact decide_eq_true (by omega)
  clear hw4
  have mixed : Tryz.prog.follows Departure.mixedOrders = true := by kernel_rfl
  have hi5 : (Tryz.prog.info? 5).map (·.size) = some 1 := info5_size
  have hs1 := fun w => slice42 b s.size s.size (Nat.le_refl _) (by omega) w
  rw [Nat.sub_self] at hs1
  have hs2 := fun w => slice42 b tp s.size (by omega) (by omega) w
  have hm71 := method71
  have hsl := fun w => slice42_zero b 1024 (by decide) w
  have hwr : Hid (∀ n, Calls Tryz.prog 56 #[.pointer (some ⟨b, 1033, none⟩), .slice (some ⟨b, 1 + tp, none⟩) (s.size - tp) (1025 - tp)] (w.drewN n) fun e w' => e = .returned (.tuple #[.int .i64 (s.size - tp : Nat), .nilIface]) ∧ Sw T B b r ((txt s).drop tp) w R w' ∧ Rdr r s s.size w') := fun n =>
    (write_same T R B b (1 + tp) (s.size - tp) (1025 - tp) ((txt s).drop tp) (w.drewN n) hb.out hBw.out (by rw [List.length_drop, hl]) (by omega) (by omega) (by omega)
      (fun j v hj => by
        rw [List.getElem?_drop] at hj
        obtain ⟨h1, h2⟩ := List.getElem?_eq_some_iff.1 hj
        rw [Nat.add_assoc, r8.out _ h1, h2])
      (fun v hv => txt_one s v (List.mem_of_mem_drop hv))).mono fun e w' ⟨h1, h2, h3, h4⟩ => ⟨h1, ((Sw.init (r := r) hb.out).drewN n).wrote h2 h3 h4, hr.out.kept h4 hbr⟩
  have hwr : Hid (∀ n, Calls Tryz.prog 56 #[.pointer (some ⟨b, 1033, none⟩), .slice (some ⟨b, 1 + tp, none⟩) (s.size - tp) (1025 - tp)] (w.drewN n) fun e w' => e = .returned (.tuple #[.int .i64 (s.size - tp : Nat), .nilIface]) ∧ Sw T B b r ((txt s).drop tp) w R w' ∧ Rdr r s s.size w') := fun n =>
    (write_same T R B b (1 + tp) (s.size - tp) (1025 - tp) ((txt s).drop tp) (w.drewN n) hb.out hBw.out (by rw [List.length_drop, hl]) (by omega) (by omega) (by omega)
      (fun j v hj => by
        rw [List.getElem?_drop] at hj
        obtain ⟨h1, h2⟩ := List.getElem?_eq_some_iff.1 hj
        rw [Nat.add_assoc, r8.out _ h1, h2])
      (fun v hv => txt_one s v (List.mem_of_mem_drop hv))).mono fun e w' ⟨h1, h2, h3, h4⟩ => ⟨h1, ((Sw.init (r := r) hb.out).drewN n).wrote h2 h3 h4, hr.out.kept h4 hbr⟩
  have hwr : Hid (∀ n, Calls Tryz.prog 56 #[.pointer (some ⟨b, 1033, none⟩), .slice (some ⟨b, 1 + tp, none⟩) (s.size - tp) (1025 - tp)] (w.drewN n) fun e w' => e = .returned (.tuple #[.int .i64 (s.size - tp : Nat), .nilIface]) ∧ Sw T B b r ((txt s).drop tp) w R w' ∧ Rdr r s s.size w') := fun n =>
    (write_same T R B b (1 + tp) (s.size - tp) (1025 - tp) ((txt s).drop tp) (w.drewN n) hb.out hBw.out (by rw [List.length_drop, hl]) (by omega) (by omega) (by omega)
      (fun j v hj => by
        rw [List.getElem?_drop] at hj
        obtain ⟨h1, h2⟩ := List.getElem?_eq_some_iff.1 hj
        rw [Nat.add_assoc, r8.out _ h1, h2])
      (fun v hv => txt_one s v (List.mem_of_mem_drop hv))).mono fun e w' ⟨h1, h2, h3, h4⟩ => ⟨h1, ((Sw.init (r := r) hb.out).drewN n).wrote h2 h3 h4, hr.out.kept h4 hbr⟩
  go_enter Tryz.func45, Tryz.ntmps45
  go_wp2_with fail
  go_quiet (fail)
  go_wp2_with fail
  refine wp_loop_rounds 1 ?_
  rw [rounds_succ]
  go_wp2_with fail
  go_quiet ((go_at_call 84; go_must (exact (fullRune_none _ _ _).mono fun _ _ h => ⟨h.1, _, h.2.symm⟩)))
  go_upto_region 5 with (fail)
  go_cut [] from 51 to 66 (fun wx => Hid (Sw T B b r ((txt s).drop tp) w R wx) ∧ Hid (Rdr r s s.size wx))
  case first =>
    go_region_with (first | (go_at_call 56; go_must (refine (hwr.out _).mono ?_); rintro _ w3 ⟨rfl, k1, k2⟩; have K1 := Lib.hid k1; have K2 := Lib.hid k2; clear k1 k2) | fail)
    all_goals (go_wp2_with fail; go_meet; exact ⟨K1, K2⟩)
  case rest =>
    obtain ⟨HS1, HR1⟩ := hcut
    clear c0 c1 c2 c3 c5 hg hwr hs2
    have c1 := HS1.out.blk.cell 1026 (by decide) r1.out
    have c3 := HS1.out.blk.cell 1027 (by decide) r3.out
    have c5 := HS1.out.blk.cell 1036 (by decide) r5.out
    have c6 := HS1.out.blk.cell 1028 (by decide) r6.out
    have f5 := HS1.out.blk.free 1036
    have f6 := HS1.out.blk.free 1028
    have hcp := fun W => run_copy_none (P := Tryz.prog) W 43 43 3 5 (some ⟨b, 1, none⟩) (some ⟨b, 1 + s.size, none⟩) 1025 1025 0 (1025 - s.size) Tryz.underlying43 hi5 (by simp)
    have hsl0 : ∀ w, (Instr.sliceAt 42 (.pointer (some ⟨b, 1, none⟩)) (some (.int .i64 0)) none none).run Tryz.prog w = .ok (.slice (some ⟨b, 1, none⟩) 1025 1025) w := by intro w; kernel_rfl
    go_upto_region 7 with (fail)
    go_quiet (fail)
    clear hcp hsl0 hs1
    go_upto_region 8 with (fail)
    go_cut [] from 87 to 97 (fun wx => Hid (Sw T B b r ((txt s).drop tp) w (upd (upd R 1036 (.int .i64 0)) 1028 (.int .i64 (wrap64 (off + s.size)))) wx) ∧ Hid (Rdr r s s.size wx))
    case first =>
      go_region
      all_goals (go_wp2_with fail; go_meet; exact ⟨((HS1.out.set 1036 (by decide) (.int .i64 0) r5.out).drewN _).set 1028 (by decide) (.int .i64 (wrap64 (off + s.size))) ((upd_other _ _ _ _ (by decide)).trans r6.out), HR1.out.of_heap ((Below.heap_setCell _ _ _ _ (Ne.symm hbr)).trans (Below.heap_setCell _ _ _ _ (Ne.symm hbr)))⟩)
    case rest =>
      obtain ⟨HS2, HR2⟩ := hcut
      clear c1 c3 c5 c6 f5 f6
      have gR : ∀ k, k ≠ 1036 → k ≠ 1028 → upd (upd R 1036 (.int .i64 0)) 1028 (.int .i64 (wrap64 (off + s.size))) k = R k := fun k a1 a2 => by
        rw [upd_other _ _ _ _ a2, upd_other _ _ _ _ a1]
      have c0 := HS2.out.blk.cell 0 (by decide) ((gR _ (by decide) (by decide)).trans r0.out)
      have c1 := HS2.out.blk.cell 1026 (by decide) ((gR _ (by decide) (by decide)).trans r1.out)
      have c3 := HS2.out.blk.cell 1027 (by decide) ((gR _ (by decide) (by decide)).trans r3.out)
      have GR := Lib.hid gR
      clear gR
      have hE : Hid (∀ n, Calls Tryz.prog 155 #[.pointer (some ⟨r, 0, none⟩), .slice (some ⟨b, 1, none⟩) 1024 1025] (wc.drewN n) fun e w' => e = .returned (.tuple #[.int .i64 0, .iface 188 (.pointer (some ea))]) ∧ ∃ q, w' = wc.drewN (n + q)) := fun n =>
        (read_end r _ _ s (wc.drewN n) HR2.out.c0 HR2.out.c1 ((HS2.out.below.cell (p := ⟨4, 0, none⟩) hB4.out).trans he.out)).mono fun e w' ⟨h1, q, h2⟩ => ⟨h1, q, by rw [h2, World.drewN_drewN]⟩
      go_upto_region 9 with (fail)
      go_quiet (fail)
      go_wp2_with fail
      go_quiet ((go_at_call 155; go_must (exact (hE.out _).mono fun _ _ ⟨k1, q, k2⟩ => ⟨k1, _, k2.trans (congrArg _ (Nat.add_assoc _ _ _))⟩)))
      clear hE c0 c1 c3
      have g26 := (GR.out 1026 (by decide) (by decide)).trans r1.out
      have g27 := (GR.out 1027 (by decide) (by decide)).trans r3.out
      have g1 := (GR.out 1 (by decide) (by decide)).trans (r8.out 0 (by omega))
      have c1 := HS2.out.blk.cell 1026 (by decide) g26
      have c3 := HS2.out.blk.cell 1027 (by decide) g27
      have c6 := HS2.out.blk.cell 1 (by decide) g1
      have f1 := HS2.out.blk.free 1026
      have f3 := HS2.out.blk.free 1027
      have f6 := HS2.out.blk.free 1
      have G26 := Lib.hid g26; have G27 := Lib.hid g27; have G1 := Lib.hid g1
      clear g26 g27 g1
      go_upto_region 13 with (fail)
      go_cut [] from 131 to 138 (fun wx => Hid (Sw T B b r ((txt s).drop tp) w (upd (upd (upd (upd (upd R 1036 (.int .i64 0)) 1028 (.int .i64 (wrap64 (off + s.size)))) 1026 (.int .i64 0)) 1027 (.int .i64 0)) 1 (.int .u8 128)) wx) ∧ Hid (Rdr r s s.size wx))
      case first =>
        go_region
        all_goals (go_wp2_with fail; go_meet; exact ⟨Sw.drew ((((HS2.out.drewN _).set 1026 (by decide) (.int .i64 0) G26.out).set 1027 (by decide) (.int .i64 0) ((upd_other _ _ _ _ (by decide)).trans G27.out)).set 1 (by decide) (.int .u8 128) ((upd_other _ _ _ _ (by decide)).trans ((upd_other _ _ _ _ (by decide)).trans G1.out))), HR2.out.of_heap ((Below.heap_setCell _ _ _ _ (Ne.symm hbr)).trans ((Below.heap_setCell _ _ _ _ (Ne.symm hbr)).trans (Below.heap_setCell _ _ _ _ (Ne.symm hbr))))⟩)
      case rest =>
        obtain ⟨HS3, HR3⟩ := hcut
        clear c1 c3 c6 f1 f3 f6
        have GR3 : Hid (∀ k, k ≠ 1036 → k ≠ 1028 → k ≠ 1026 → k ≠ 1027 → k ≠ 1 → upd (upd (upd (upd (upd R 1036 (.int .i64 0)) 1028 (.int .i64 (wrap64 (off + s.size)))) 1026 (.int .i64 0)) 1027 (.int .i64 0)) 1 (.int .u8 128) k = R k) := fun k a1 a2 a3 a4 a5 => by
          rw [upd_other _ _ _ _ a5, upd_other _ _ _ _ a4, upd_other _ _ _ _ a3]; exact GR.out k a1 a2
        have h27 : upd (upd (upd (upd (upd R 1036 (.int .i64 0)) 1028 (.int .i64 (wrap64 (off + s.size)))) 1026 (.int .i64 0)) 1027 (.int .i64 0)) 1 (.int .u8 128) 1027 = some (.int .i64 0) := by
          rw [upd_other _ _ _ _ (by decide), upd_same]
        have c3 := HS3.out.blk.cell 1027 (by decide) h27
        have c4 := HS3.out.blk.cell 1030 (by decide) ((GR3.out 1030 (by decide) (by decide) (by decide) (by decide) (by decide)).trans r7.out)
        have c5 := HS3.out.blk.cell 1032 (by decide) ((GR3.out 1032 (by decide) (by decide) (by decide) (by decide) (by decide)).trans r4.out)
        have c9 := (HS3.out.below.cell (p := ⟨4, 0, none⟩) hB4.out).trans he.out
        have f4 := HS3.out.blk.free 1030
        have f5 := HS3.out.blk.free 1032
        have hne := neq_eof ea
        clear h27 hm71 hsl hi5
        go_wp2_with fail
        go_ret
        refine ⟨rfl, _, (HS3.out.set 1030 (by decide) (.int .i64 (wrap64 (col + 1))) ((GR3.out 1030 (by decide) (by decide) (by decide) (by decide) (by decide)).trans r7.out)).set 1032 (by decide) (.int .i64 0) ((upd_other _ _ _ _ (by decide)).trans ((GR3.out 1032 (by decide) (by decide) (by decide) (by decide) (by decide)).trans r4.out)), HR3.out.of_heap ((Below.heap_setCell _ _ _ _ (Ne.symm hbr)).trans (Below.heap_setCell _ _ _ _ (Ne.symm hbr))), ?_, ?_, upd_same _ _ _, ⟨_, (upd_other _ _ _ _ (by decide)).trans (upd_same _ _ _)⟩, ?_⟩
        · rw [upd_other _ _ _ _ (by decide), upd_other _ _ _ _ (by decide), upd_other _ _ _ _ (by decide), upd_other _ _ _ _ (by decide), upd_same]
        · rw [upd_other _ _ _ _ (by decide), upd_other _ _ _ _ (by decide), upd_other _ _ _ _ (by decide), upd_other _ _ _ _ (by decide), upd_other _ _ _ _ (by decide), upd_other _ _ _ _ (by decide), upd_same]
        · intro k hk hk2
          rw [upd_other _ _ _ _ (by omega), upd_other _ _ _ _ (by omega)]
          exact GR3.out k hk2 (by omega) (by omega) (by omega) (by omega)

end Go.Proofs.YtdjjgnplpjoabaaGreatDoor
