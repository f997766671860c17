/- The lexer's next token: a number, or a minus; its conditions: nothing is laid back, the scanner stands before the token. -/
import Derived.Test.YtdjjgnplpjoabaaGreatDoorW29
import Derived.Laws.EntriesVeiled
namespace Go.Proofs.YtdjjgnplpjoabaaGreatDoor
open Go.RowKit

theorem Set.more {R : Nat → Option Value} {r : Nat} (h : Set R r) (v : Value) : Set (upd R 1039 v) r :=
  ⟨(upd_other _ _ _ _ (by decide)).trans h.src, (upd_other _ _ _ _ (by decide)).trans h.mode, (upd_other _ _ _ _ (by decide)).trans h.white, (upd_other _ _ _ _ (by decide)).trans h.ident⟩

/-- The world in which a token is scanned. -/
theorem lex_world {T : TypeId} {B b r : Nat} {R : Nat → Option Value} {w : World} (h : Blk T R B b [] w) (hsz : B ≤ w.heap.size) {u : Value} (hu : R 1039 = some u) (v : Value) : Sw T B b r [] w (upd R 1039 v) ((w.setCell ⟨b, 1039, none⟩ v).alloc (.cells #[.nilIface] 31 (0, 0))) :=
  ((Sw.init (r := r) h).set 1039 (by decide) v hu).alloc hsz _

theorem lex_err {b r : Nat} {w w3 : World} {v : Value} (hf : Fr b r ((w.setCell ⟨b, 1039, none⟩ v).alloc (.cells #[.nilIface] 31 (0, 0))) w3) (hb : b < w.heap.size) (hr : r < w.heap.size) : w3.cell? ⟨w.heap.size, 0, none⟩ = some .nilIface := by
  have h0 : ((w.setCell ⟨b, 1039, none⟩ v).alloc (.cells #[.nilIface] 31 (0, 0))).heap[w.heap.size]? = some (.cells #[.nilIface] 31 (0, 0)) := by
    have e : (w.setCell ⟨b, 1039, none⟩ v).heap.size = w.heap.size := by simp [World.setCell]
    have := heap_alloc_new (w.setCell ⟨b, 1039, none⟩ v) (.cells #[.nilIface] 31 (0, 0))
    rw [e] at this
    exact this
  rw [Lib.cell_of_heap (hf.block w.heap.size _ _ (by omega) (by omega) (by decide) h0)]
  rfl

set_option maxRecDepth 100000 in
set_option maxHeartbeats 4000000 in
theorem lex_num {T : TypeId} {B b r : Nat} {s : ByteArray} {ea : Addr} {R : Nat → Option Value} (q : Nat) (c tok : Int) (h1 : 48 ≤ c) (h2 : c ≤ 57) (ht1 : -4 ≤ tok) (ht2 : tok ≤ -3) (hq : q < s.size) (hc : Hid (chAt s q = c)) (w : World) (hbr : b ≠ r) (hS : Hid (Set R r)) (hB4 : 4 < B) (hsz : Hid (B ≤ w.heap.size)) (heof : Hid (w.cell? ⟨4, 0, none⟩ = some (.iface 188 (.pointer (some ea))))) (hle : s.size ≤ 1010) (hall : Hid (∀ i, i < s.size → 45 ≤ chAt s i ∧ chAt s i ≤ 57))
    (hB : Hid (Blk T R B b [] w)) (hr : r < w.heap.size) (h48 : Hid (R 1048 = some (.string ⟨#[]⟩))) (h39 : Hid (∃ u, R 1039 = some u))
    (hnum : Hid (∀ R3 w3, Env B b r s ea R3 w3 → Cur T B b r s q R3 w3 q w3 → R3 1041 = some (.int .u64 28) → Calls Tryz.prog 50 #[.pointer (some ⟨b, 0, none⟩), .int .i32 c, .bool false] w3 (Num T B b r s q R3 w3 tok)))
    (hP : Hid (∀ v, Calls Tryz.prog 44 #[.pointer (some ⟨b, 0, none⟩)] ((w.setCell ⟨b, 1039, none⟩ v).alloc (.cells #[.nilIface] 31 (0, 0))) fun e w' => e = .returned (.int .i32 c) ∧ Held T B b r s (upd R 1039 v) ((w.setCell ⟨b, 1039, none⟩ v).alloc (.cells #[.nilIface] 31 (0, 0))) q w')) :
    Calls Tryz.prog 18 #[.pointer (some ⟨b, 0, none⟩)] w fun e w' => e = .returned (.tuple #[.string ⟨(s.data.toList.drop q).toArray⟩, .nilIface]) ∧ Below B w w' := by
  obtain ⟨u39, hu39⟩ := h39.out
  have lb := LibA.IsBuffer.lt hB.out
  have c48 := hB.out.cell 1048 (by decide) h48.out
  have c39 := hB.out.cell 1039 (by decide) hu39
  have f39 := hB.out.free 1039
  have HW := Lib.hid (fun v => lex_world (r := r) hB.out hsz.out hu39 v)
  have hsc := Lib.hid (fun v => scan_num (w0 := ((w.setCell ⟨b, 1039, none⟩ v).alloc (.cells #[.nilIface] 31 (0, 0)))) q c tok h1 h2 hnum ((w.setCell ⟨b, 1039, none⟩ v).alloc (.cells #[.nilIface] 31 (0, 0))) hbr hq hc (hS.out.more v) hB4 (Nat.le_trans hsz.out (HW.out v).fr.size) (((HW.out v).below.cell (p := ⟨4, 0, none⟩) hB4).trans heof.out) hle hall (hP.out v))
  clear hu39 h39 h48
  go_enter Tryz.func18, Tryz.ntmps18
  go_wp2_with fail
  refine (hsc.out _).mono ?_
  rintro e w3 ⟨R3, rfl, hS3, p36, p37⟩
  have ce := lex_err hS3.fr lb hr
  have HBel := Lib.hid ((HW.out _).below.trans hS3.below)
  have htx := Lib.hid (text_num q w3 hq hle (Sw.init (r := r) hS3.blk) p36 p37)
  clear hS3 p36 p37 hsc HW c48 c39 f39
  go_wp2_with fail
  refine htx.out.mono ?_
  rintro e w4 ⟨rfl, hb4⟩
  have HB4 := Lib.hid (HBel.out.trans hb4)
  clear hb4 htx HBel
  go_wp2_with fail
  go_ret2
  exact ⟨rfl, HB4.out⟩

/-- Behind a minus. -/
def AfterMinus (T : TypeId) (B b r : Nat) (s : ByteArray) (w : World) (e : Ending) (w' : World) : Prop :=
  e = .returned (.tuple #[.string (strOfNums [45]), .nilIface]) ∧ ∃ R, Sw T B b r [] w R w' ∧ Rdr r s s.size w' ∧ Full s R ∧ R 1026 = some (.int .i64 (2 : Nat)) ∧ R 1038 = some (.int .i32 (chAt s 1)) ∧ (∃ x, R 1029 = some (.int .i64 x)) ∧ (∃ x, R 1031 = some (.int .i64 x)) ∧ (∀ k, 1036 ≤ k → k ≤ 1048 → ∃ u, R k = some u) ∧ Set R r ∧ R 1048 = some (.string ⟨#[]⟩)

set_option maxRecDepth 100000 in
set_option maxHeartbeats 4000000 in
theorem lex_minus {T : TypeId} {B b r : Nat} {s : ByteArray} {ea : Addr} {R : Nat → Option Value} (c1 : Int) (hq1 : 1 < s.size) (hc : Hid (chAt s 0 = 45)) (hc1 : Hid (chAt s (0 + 1) = c1)) (w : World) (hbr : b ≠ r) (hS : Hid (Set R r)) (hB4 : 4 < B) (hsz : Hid (B ≤ w.heap.size)) (heof : Hid (w.cell? ⟨4, 0, none⟩ = some (.iface 188 (.pointer (some ea))))) (hle : s.size ≤ 1010) (hall : Hid (∀ i, i < s.size → 45 ≤ chAt s i ∧ chAt s i ≤ 57))
    (hB : Hid (Blk T R B b [] w)) (hr : r < w.heap.size) (h48 : Hid (R 1048 = some (.string ⟨#[]⟩))) (h39 : Hid (∃ u, R 1039 = some u))
    (hP : Hid (∀ v, Calls Tryz.prog 44 #[.pointer (some ⟨b, 0, none⟩)] ((w.setCell ⟨b, 1039, none⟩ v).alloc (.cells #[.nilIface] 31 (0, 0))) fun e w' => e = .returned (.int .i32 45) ∧ Held T B b r s (upd R 1039 v) ((w.setCell ⟨b, 1039, none⟩ v).alloc (.cells #[.nilIface] 31 (0, 0))) 0 w')) :
    Calls Tryz.prog 18 #[.pointer (some ⟨b, 0, none⟩)] w (AfterMinus T B b r s w) := by
  obtain ⟨u39, hu39⟩ := h39.out
  have lb := LibA.IsBuffer.lt hB.out
  have c48 := hB.out.cell 1048 (by decide) h48.out
  have c39 := hB.out.cell 1039 (by decide) hu39
  have f39 := hB.out.free 1039
  have HW := Lib.hid (fun v => lex_world (r := r) hB.out hsz.out hu39 v)
  have hsc := Lib.hid (fun v => scan_minus (w0 := ((w.setCell ⟨b, 1039, none⟩ v).alloc (.cells #[.nilIface] 31 (0, 0)))) 0 c1 hc1 hq1 ((w.setCell ⟨b, 1039, none⟩ v).alloc (.cells #[.nilIface] 31 (0, 0))) hbr (by omega) hc (hS.out.more v) hB4 (Nat.le_trans hsz.out (HW.out v).fr.size) (((HW.out v).below.cell (p := ⟨4, 0, none⟩) hB4).trans heof.out) hle hall (hP.out v))
  have H48 := h48
  clear hu39 h39 h48
  go_enter Tryz.func18, Tryz.ntmps18
  go_wp2_with fail
  refine (hsc.out _).mono ?_
  rintro e w3 ⟨rfl, R3, hS3, hr3, hF3, p26, p38, p29, p31, pm, hK, p36, p37⟩
  have ce := lex_err hS3.fr lb hr
  have HSS := Lib.hid ((HW.out _).trans hS3)
  have htx := Lib.hid (text_minus w3 (by omega) hS3 hF3 hc p36 p37)
  have HS := Lib.hid (hS.out.more (.func (Fn.func 24) #[] #[.pointer (some ⟨w.heap.size, 0, none⟩)]))
  have HF3 := Lib.hid hF3; have HR3 := Lib.hid hr3; have P26 := Lib.hid p26; have P38 := Lib.hid p38; have P29 := Lib.hid p29; have P31 := Lib.hid p31; have PM := Lib.hid pm; have HK := Lib.hid hK
  clear hS3 p36 p37 hsc HW c48 c39 f39 hF3 hr3 p26 p38 p29 p31 pm hK
  go_wp2_with fail
  refine htx.out.mono ?_
  rintro e w4 ⟨rfl, n, rfl⟩
  clear htx
  go_wp2_with fail
  go_ret2
  exact ⟨rfl, R3, HSS.out.drewN _, HR3.out, HF3.out, P26.out, P38.out, P29.out, P31.out, PM.out, ⟨(HK.out _ (by decide)).trans HS.out.src, (HK.out _ (by decide)).trans HS.out.mode, (HK.out _ (by decide)).trans HS.out.white, (HK.out _ (by decide)).trans HS.out.ident⟩, (HK.out 1048 (by decide)).trans ((upd_other _ _ _ _ (by decide)).trans H48.out)⟩

end Go.Proofs.YtdjjgnplpjoabaaGreatDoor
