/- The text of the scanner's last token; its conditions: the token is a minus in the buffer, or a number that has been saved. -/
import Derived.Test.YtdjjgnplpjoabaaGreatDoorW28
namespace Go.Proofs.YtdjjgnplpjoabaaGreatDoor
open Go.RowKit

theorem txt_bytes (s : ByteArray) (q : Nat) : Lib.byteCells (s.data.toList.drop q) = (txt s).drop q := by
  simp [Lib.byteCells, txt, List.map_drop]

set_option maxRecDepth 100000 in
set_option maxHeartbeats 4000000 in
theorem text_minus {T : TypeId} {B b r : Nat} {s : ByteArray} {R : Nat → Option Value} {w0 : World} (w : World) (hq : 0 < s.size) (hS : Hid (Sw T B b r [] w0 R w)) (hF : Hid (Full s R)) (hc : Hid (chAt s 0 = 45)) (h36 : Hid (R 1036 = some (.int .i64 0))) (h37 : Hid (R 1037 = some (.int .i64 1))) :
    Calls Tryz.prog 26 #[.pointer (some ⟨b, 0, none⟩)] w fun e w' => e = .returned (.string (strOfNums [45])) ∧ ∃ n, w' = w.drewN n := by
  obtain ⟨hh, hcc⟩ := chAt_in (s := s) hq
  have c36 := hS.out.blk.cell 1036 (by decide) h36.out
  have c37 := hS.out.blk.cell 1037 (by decide) h37.out
  have cq := hS.out.blk.cell 1 (by decide) ((hF.out.txt 0 hh).trans (congrArg some (hcc.trans (by rw [hc.out]))))
  have hsl : ∀ w, (Instr.sliceAt 42 (.pointer (some ⟨b, 1, none⟩)) (some (.int .i64 0)) (some (.int .i64 1)) none).run Tryz.prog w = .ok (.slice (some ⟨b, 1, none⟩) 1 1025) w := fun w => slice42_zero b 1 (by decide) w
  have hcv : ∀ n, (convert 43 9 (.slice (some ⟨b, 1, none⟩) 1 1025)).run Tryz.prog (w.drewN n) = .ok (.string (strOfNums [45])) (w.drewN n) := fun n =>
    run_convert_bytes_arg (w.drewN n) 43 5 Tryz.underlying43 Tryz.underlying5 b 1 1 1025 [45] rfl (fun i hi => by
      obtain rfl : i = 0 := by omega
      exact cq) 9 Tryz.underlying9
  have hlen := Lib.hid (fun n => Tryz.Buffer_Len_at T R B b 1033 [] (w.drewN n) (by exact hS.out.blk))
  clear hcc cq
  go_enter Tryz.func26, Tryz.ntmps26
  go_wp2_with fail
  go_quiet (fail)
  go_wp2_with fail
  refine (hlen.out _).mono ?_
  rintro e w1 ⟨rfl, n1, rfl⟩
  go_wp2_with fail
  go_quiet (fail)
  go_wp2_with fail
  go_ret
  exact ⟨rfl, _, World.drewN_drewN _ _ _⟩

set_option maxRecDepth 100000 in
set_option maxHeartbeats 4000000 in
theorem text_num {T : TypeId} {B b r : Nat} {s : ByteArray} {R : Nat → Option Value} {w0 : World} (q : Nat) (w : World) (hq : q < s.size) (_hle : s.size ≤ 1010) (hS : Hid (Sw T B b r ((txt s).drop q) w0 R w)) (h36 : Hid (R 1036 = some (.int .i64 0))) (h37 : Hid (R 1037 = some (.int .i64 0))) :
    Calls Tryz.prog 26 #[.pointer (some ⟨b, 0, none⟩)] w fun e w' => e = .returned (.string ⟨(s.data.toList.drop q).toArray⟩) ∧ Below B w0 w' := by
  have hl := txt_length s
  have hdl : ((txt s).drop q).length = s.size - q := by rw [List.length_drop, hl]
  have c36 := hS.out.blk.cell 1036 (by decide) h36.out
  have c37 := hS.out.blk.cell 1037 (by decide) h37.out
  have hsl : ∀ w, (Instr.sliceAt 42 (.pointer (some ⟨b, 1, none⟩)) (some (.int .i64 0)) (some (.int .i64 0)) none).run Tryz.prog w = .ok (.slice (some ⟨b, 1, none⟩) 0 1025) w := fun w => slice42_zero b 0 (by decide) w
  have hlen := Lib.hid (fun n => Tryz.Buffer_Len_at T R B b 1033 ((txt s).drop q) (w.drewN n) (by exact hS.out.blk))
  rw [hdl] at hlen
  have hwr := Lib.hid (fun n => write_none T R B b 1 1025 ((txt s).drop q) (w.drewN n) (by exact hS.out.blk) (by rw [hdl]; omega))
  have hB := hS.out.blk.1
  clear hl hdl
  go_enter Tryz.func26, Tryz.ntmps26
  go_wp2_with fail
  go_quiet (fail)
  go_wp2_with fail
  refine (hlen.out _).mono ?_
  rintro e w1 ⟨rfl, n1, rfl⟩
  go_upto_region 7 with (fail)
  go_cut [] from 28 to 57 (fun wx => Hid (Sw T B b r ((txt s).drop q) w0 R wx))
  case first =>
    go_region_with (first | (go_at_call 56; go_must (refine (hwr.out _).mono ?_); rintro _ w3 ⟨rfl, k1, k2, k3⟩; have K1 := Lib.hid ((hS.out.drewN _).wrote k1 k2 k3); clear k1 k2 k3) | fail)
    all_goals (go_wp2_with fail; go_meet; exact K1)
  case rest =>
    have c37 := hcut.out.blk.cell 1037 (by decide) h37.out
    have c36 := hcut.out.blk.cell 1036 (by decide) h36.out
    have f36 := hcut.out.blk.free 1036
    have HS2 := Lib.hid (hcut.out.set 1036 (by decide) (.int .i64 0) h36.out)
    have hst := Lib.hid (fun W (h : Blk T (upd R 1036 (.int .i64 0)) B b ((txt s).drop q) W) => Tryz.Buffer_String_at T (upd R 1036 (.int .i64 0)) B b 1033 (s.data.toList.drop q) W (by rw [txt_bytes]; exact h))
    clear hcut hlen hwr hS h36 h37
    go_wp2_with fail
    refine (hst.out _ (by exact HS2.out.blk)).mono ?_
    rintro e w3 ⟨rfl, n3, rfl⟩
    go_wp2_with fail
    go_ret
    exact ⟨rfl, (HS2.out.drewN n3).below⟩

end Go.Proofs.YtdjjgnplpjoabaaGreatDoor
