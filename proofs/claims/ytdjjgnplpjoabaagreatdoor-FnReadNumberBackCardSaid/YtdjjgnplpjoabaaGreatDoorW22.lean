/- A bytes.Buffer that is a field is written from cells of its own block; its conditions: the source lies outside the buffer's three cells. -/
import Derived.Test.YtdjjgnplpjoabaaGreatDoorW21
import Derived.Lib.BufferOwn
import Derived.Lib.BufferSrc
import Derived.Laws.IdiomCopy
namespace Go.Proofs.YtdjjgnplpjoabaaGreatDoor
open Go.RowKit

theorem info5_size : (Tryz.prog.info? 5).map (·.size) = some 1 := by kernel_rfl

/-- What the copy leaves, once there is room. -/
theorem copied {T : TypeId} {R : Nat → Option Value} {B b g cap n : Nat} {lr : Int} {cur : Array Value} {cs : List Value} {W : World} (hB : B ≤ b)
    (hbk : LibA.Three W b 1033 T R (.slice (some ⟨g, 0, none⟩) n cap) (.int .i64 0) (.int .i8 lr)) (hBg : B ≤ g) (hg : W.heap[g]? = some (.cells cur 5 (0, 0))) (hcm : cap ≤ maxLen) (hcs : cur.size = cap) (hgb : g ≠ b) (hn : cs.length = n) (hnc : n ≤ cap) :
    Blk T R B b cs (W.setRow g (cs ++ cur.toList.drop n).toArray) ∧ Below B W (W.setRow g (cs ++ cur.toList.drop n).toArray) := by
  have r := LibA.written_end (news := cs) (l := 0) hB (by rw [hn, Nat.zero_add]; exact hbk) hBg hg hcm hcs hgb (by rw [hn, Nat.zero_add]; exact hnc)
  rw [Nat.zero_add, hn, List.take_zero, List.nil_append] at r
  exact r

set_option maxRecDepth 100000 in
set_option maxHeartbeats 4000000 in
theorem write_same (T : TypeId) (R : Nat → Option Value) (B b o n c : Nat) (cs : List Value) (w : World) (h : Blk T R B b [] w) (hBw : B ≤ w.heap.size) (hn : cs.length = n) (h0 : 1 ≤ n) (ho : o + n ≤ 1033) (hn2 : n ≤ 1010) (hR : ∀ j v, cs[j]? = some v → R (o + j) = some v) (h1c : ∀ v ∈ cs, v.oneCell' = true) :
    Calls Tryz.prog 56 #[.pointer (some ⟨b, 1033, none⟩), .slice (some ⟨b, o, none⟩) n c] w fun e w' => e = .returned (.tuple #[.int .i64 n, .nilIface]) ∧ Blk T R B b cs w' ∧ Below B w w' ∧ Lib.OthersKept 5 (some b) w w' := by
  obtain ⟨hB, v0, lr, hbk, -, -⟩ := id h
  have c2 : w.cell? ⟨b, 1035, none⟩ = some (.int .i8 lr) := hbk.c2
  have f2 : w.frozen? ⟨b, 1035, none⟩ = false := hbk.f 1035
  have h' := Lib.hid (LibA.IsBuffer.setLast h 0)
  have hbel0 := Lib.hid (show Below B w (w.setCell ⟨b, 1035, none⟩ (.int .i8 0)) from (Below.refl B w).setCell (p := ⟨b, 1035, none⟩) hB _)
  have hk0 := Lib.hid (show Lib.OthersKept 5 (some b) w (w.setCell ⟨b, 1035, none⟩ (.int .i8 0)) from (Lib.OthersKept.refl _ _ w).setCell ⟨b, 1035, none⟩ rfl _)
  have hBw' := Lib.hid (show B ≤ (w.setCell ⟨b, 1035, none⟩ (.int .i8 0)).heap.size by simpa [World.setCell] using hBw)
  have HR := Lib.hid hR
  have H1 := Lib.hid h1c
  have HN := Lib.hid hn
  clear hbk v0 hR h1c hn hBw h
  have fin : ∀ (W1 : World) (xs : List Value), xs.length = n → LibA.IsBuffer T R 5 B b 1033 ([] ++ xs) W1 → Hid (∃ (g cap : Nat) (lr2 : Int) (cur : Array Value), W1.cell? ⟨b, 1033, none⟩ = some (.slice (some ⟨g, 0, none⟩) n cap) ∧ ¬ cap = 0 ∧ n ≤ cap ∧ cap ≤ 9223372036854775807 ∧
      LibA.Three W1 b 1033 T R (.slice (some ⟨g, 0, none⟩) n cap) (.int .i64 0) (.int .i8 lr2) ∧ (Builtin.copy_ #[43, 43] 3 #[.slice (some ⟨g, 0, none⟩) n cap, .slice (some ⟨b, o, none⟩) n c]).run Tryz.prog W1 = .ok (goInt n) (W1.setRow g (cs ++ cur.toList.drop n).toArray) ∧
      Blk T R B b cs (W1.setRow g (cs ++ cur.toList.drop n).toArray) ∧ Below B W1 (W1.setRow g (cs ++ cur.toList.drop n).toArray) ∧ Lib.OthersKept 5 (some b) W1 (W1.setRow g (cs ++ cur.toList.drop n).toArray)) := by
    intro W1 xs hxl hI
    rw [List.nil_append] at hI
    obtain ⟨-, lr2, hc⟩ := hI.cases
    rcases hc with ⟨hnil, -⟩ | ⟨g, cap, cur, hbk2, hBg, hg, hnc, hcm, hcs, htk, hgb⟩
    · rw [hnil] at hxl; simp at hxl; omega
    · rw [hxl] at hbk2 hnc htk
      have hsrc : ∀ j v, cs[j]? = some v → W1.cell? ((⟨b, o, none⟩ : Addr).add j) = some v := fun j v hj => by
        have hjl : j < cs.length := (List.getElem?_eq_some_iff.1 hj).1
        have e4 : (⟨b, o, none⟩ : Addr).add j = ⟨b, o + j, none⟩ := by unfold Addr.add; split <;> simp_all
        rw [e4, hbk2.rest (o + j) (Or.inl (by have := HN.out; omega))]
        exact HR.out j v hj
      have hcp := run_copy_row (P := Tryz.prog) W1 43 43 3 5 g 0 n cap ⟨b, o, none⟩ n c cur 5 cs Tryz.underlying43 info5_size hg (by rw [HN.out]; exact (Nat.min_self n).symm) hsrc (by rw [HN.out]; omega) H1.out
      rw [HN.out, Nat.zero_add, List.take_zero, List.nil_append] at hcp
      have r := copied hB hbk2 hBg hg hcm hcs hgb HN.out hnc
      refine ⟨g, cap, lr2, cur, hbk2.c0, by omega, hnc, by unfold maxLen at hcm; exact hcm, hbk2, hcp, r.1, r.2, (Lib.OthersKept.refl _ _ W1).setRow hg _⟩
  have FIN := Lib.hid fin
  clear fin
  go_enter Tryz.func56, Tryz.ntmps56
  go_wp2_with (go_at_call 93; go_must (refine (Tryz.Buffer_tryGrow_at T R B b 1033 n [] _ ?_).mono ?_))
  · exact h'.out
  rintro e W1 (⟨rfl, xs, hxl, hI, hbel, hk, hg⟩ | ⟨rfl, rfl, hnr⟩)
  · obtain ⟨g, cap, lr2, cur, d0, hne, hnc, hcm, hbk2, hcp, r1, r2, r3⟩ := (FIN.out W1 xs hxl hI).out
    have HB := Lib.hid (hbel0.out.trans (hbel.trans r2))
    have HK := Lib.hid (hk0.out.trans (hk.trans r3))
    have H3 := Lib.hid r1
    clear hbel hk hg hI hxl r1 r2 r3 hbk2 h' hbel0 hk0 hBw' HR H1 HN FIN
    go_wp2_with fail
    go_ret2
    exact ⟨rfl, H3.out, HB.out, HK.out⟩
  · have HNR := Lib.hid hnr
    clear hnr
    go_wp2_with (go_at_call 94; go_must (refine (Tryz.Buffer_grow_at T R B b 1033 n [] _ ?_ ?_ ?_ ?_ ?_).mono ?_))
    · exact h'.out
    · exact HNR.out
    · exact hBw'.out
    · intro v hv; cases hv
    · simp; omega
    rintro e W1 ⟨rfl, xs, hxl, hI, hbel, hk, hg⟩
    obtain ⟨g, cap, lr2, cur, d0, hne, hnc, hcm, hbk2, hcp, r1, r2, r3⟩ := (FIN.out W1 xs hxl hI).out
    have HB := Lib.hid (hbel0.out.trans (hbel.trans r2))
    have HK := Lib.hid (hk0.out.trans (hk.trans r3))
    have H3 := Lib.hid r1
    clear hbel hk hg hI hxl r1 r2 r3 hbk2 h' hbel0 hk0 hBw' HR H1 HN FIN HNR
    go_wp2_with fail
    go_ret2
    exact ⟨rfl, H3.out, HB.out, HK.out⟩

set_option maxRecDepth 100000 in
set_option maxHeartbeats 4000000 in
theorem write_none (T : TypeId) (R : Nat → Option Value) (B b o c : Nat) (bs : List Value) (w : World) (h : Blk T R B b bs w) (hb1 : 1 ≤ bs.length) :
    Calls Tryz.prog 56 #[.pointer (some ⟨b, 1033, none⟩), .slice (some ⟨b, o, none⟩) 0 c] w fun e w' => e = .returned (.tuple #[.int .i64 0, .nilIface]) ∧ Blk T R B b bs w' ∧ Below B w w' ∧ Lib.OthersKept 5 (some b) w w' := by
  obtain ⟨hB, v0, lr, hbk, -, -⟩ := id h
  have c2 : w.cell? ⟨b, 1035, none⟩ = some (.int .i8 lr) := hbk.c2
  have f2 : w.frozen? ⟨b, 1035, none⟩ = false := hbk.f 1035
  have h' := Lib.hid (LibA.IsBuffer.setLast h 0)
  have hbel0 := Lib.hid (show Below B w (w.setCell ⟨b, 1035, none⟩ (.int .i8 0)) from (Below.refl B w).setCell (p := ⟨b, 1035, none⟩) hB _)
  have hk0 := Lib.hid (show Lib.OthersKept 5 (some b) w (w.setCell ⟨b, 1035, none⟩ (.int .i8 0)) from (Lib.OthersKept.refl _ _ w).setCell ⟨b, 1035, none⟩ rfl _)
  have hce : ∀ d dLen dCap W, (Builtin.copy_ #[43, 43] 3 #[.slice d dLen dCap, .slice (some ⟨b, o, none⟩) 0 c]).run Tryz.prog W = .ok (goInt 0) W := fun d dLen dCap W => run_copy_none W 43 43 3 5 d (some ⟨b, o, none⟩) dLen dCap 0 c Tryz.underlying43 info5_size (by simp)
  clear hbk v0 h
  go_enter Tryz.func56, Tryz.ntmps56
  go_wp2_with (go_at_call 93; go_must (refine (Tryz.Buffer_tryGrow_at T R B b 1033 0 bs _ ?_).mono ?_))
  · exact h'.out
  rintro e W1 (⟨rfl, xs, hxl, hI, hbel, hk, hg⟩ | ⟨rfl, rfl, hnr⟩)
  · have hx0 : xs = [] := List.eq_nil_of_length_eq_zero hxl
    subst hx0
    rw [List.append_nil] at hI
    have HI := Lib.hid hI
    have HB := Lib.hid (hbel0.out.trans hbel)
    have HK := Lib.hid (hk0.out.trans hk)
    obtain ⟨-, lr2, hc⟩ := hI.cases
    clear hbel hk hg hI hxl h' hbel0 hk0
    rcases hc with ⟨hb0, hbk2⟩ | ⟨g, cap, cur, hbk2, -, -, hnc, hcm, -, -, -⟩
    · rw [hb0] at hb1; simp at hb1
    · have d0 : W1.cell? ⟨b, 1033, none⟩ = some (.slice (some ⟨g, 0, none⟩) bs.length cap) := hbk2.c0
      unfold maxLen at hcm
      clear hbk2
      go_wp2
      all_goals (go_ret2; exact ⟨rfl, HI.out, HB.out, HK.out⟩)
  · obtain ⟨_, _, _, _, hlt⟩ := hnr
    omega

end Go.Proofs.YtdjjgnplpjoabaaGreatDoor
