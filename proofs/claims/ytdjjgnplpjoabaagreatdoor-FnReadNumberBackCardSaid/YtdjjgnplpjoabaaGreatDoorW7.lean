/- A number's digits are written without an exponent; its conditions: at most 17 digits, at most 700 places. -/
import Derived.Test.YtdjjgnplpjoabaaGreatDoorW6
namespace Go.Proofs.YtdjjgnplpjoabaaGreatDoor
open Go.RowKit

theorem Tryz.info5 : (Tryz.prog.info? 5).map (fun i => (i.zero, i.size, i.bytes)) = some (some (.int .u8 0), 1, 1) := by kernel_rfl

/-- Bytes as cells. -/
def cellsOf (l : List Int) : List Value := l.map (Value.int .u8)

/-- What has been written so far: a slice of the call's own beside the buffer of digits. -/
structure Dst (B b : Nat) (cs : Array Value) (w0 w : World) (v : Value) (l : List Int) : Prop where
  own : w.ownsRow B 5 1 v l.length (cellsOf l)
  buf : w.heap[b]? = some (.cells cs 81 (0, 0))
  below : Below B w0 w
  size : B ≤ w.heap.size

theorem Dst.not_buf {B b : Nat} {cs : Array Value} {w0 w : World} {v : Value} {l : List Int} (h : Dst B b cs w0 w v l) : v.ownBlock ≠ some b := by
  intro hv
  rcases h.own.2 with ⟨h1, _⟩ | ⟨g, cap, cur, h1, _, h3, _⟩
  · subst h1; cases hv
  · subst h1
    have e : g = b := by simpa [Value.ownBlock] using hv
    subst e
    rw [h.buf] at h3
    cases h3

theorem Dst.bufLt {B b : Nat} {cs : Array Value} {w0 w : World} {v : Value} {l : List Int} (h : Dst B b cs w0 w v l) : b < w.heap.size := by
  refine Nat.lt_of_not_le fun hc => ?_
  have := h.buf
  rw [Array.getElem?_eq_none hc] at this
  cases this

/-- Behind an append of one byte. -/
theorem Dst.snoc {B b : Nat} {cs : Array Value} {w0 w w1 : World} {v v' : Value} {l : List Int} {c : Int} {o : Obj} (h : Dst B b cs w0 w v l)
    (hown : w1.ownsRow B 5 1 v' (l.length + 1) (cellsOf l ++ [.int .u8 c])) (hg : (w.alloc o).grownBy w1 v.ownBlock) : Dst B b cs w0 w1 v' (l ++ [c]) := by
  refine ⟨by simpa [cellsOf] using hown, ?_, (h.below.alloc h.size o).grown hg (by simp; have := h.size; omega) (fun k hk => (h.own.lt k hk).1), ?_⟩
  · rw [hg.block b (by have := h.bufLt; simp; omega) (fun e => h.not_buf e.symm), heap_alloc_old (h := h.bufLt)]
    exact h.buf
  · have := hg.size
    have := h.size
    simp at *
    omega

theorem Dst.cell {B b : Nat} {cs : Array Value} {w0 w : World} {v : Value} {l : List Int} (h : Dst B b cs w0 w v l) (j : Nat) : w.cell? ⟨b, j, none⟩ = cs[j]? := cell_of_row w b j cs 81 (0, 0) h.buf

/-- THE APPEND OF ONE BYTE, as the text does it: a new row of one byte, then the builtin. -/
theorem wpList_append_dst {ops : Array Oper} {rest : List Oper} {o : Oper} {a : Act} {Q : Exit → Act → World → Prop} (hgd : o.guard = none) (s x : Operand)
    (ho : o.op = .call { callee := .builtin .append, args := #[s, x], argTypes := #[43, 43] })
    {B b : Nat} {cs : Array Value} {w0 wr : World} {v : Value} {l : List Int} (c : Int) (h : Dst B b cs w0 wr v l) (hs : a.eval s = v) (hx : a.eval x = .slice (some ⟨wr.heap.size, 0, none⟩) 1 1) (hlen : l.length ≤ 100000)
    (K : ∀ v' w', Dst B b cs w0 w' v' (l ++ [c]) → wpList Tryz.prog ops Q rest (a.put o.dst v') w') : wpList Tryz.prog ops Q (o :: rest) a (wr.alloc (.cells #[.int .u8 c] 5)) := by
  obtain ⟨i0, hi, hz0, hz1, hz2⟩ := info_parts Tryz.info5
  refine wpList_append_own _ hgd s x 43 ho B 5 i0 (.int .u8 0) 1 1 Tryz.underlying43 hi hz0 hz1 hz2 rfl (by decide) v l.length (cellsOf l) hs (h.own.alloc _) ⟨wr.heap.size, 0, none⟩ 1 1 [.int .u8 c] hx rfl ?_ ?_ ?_ ?_ ?_ ?_
  · exact cell_one_new _ _ _
  · intro u hu
    simp only [List.mem_singleton] at hu
    subst hu
    rfl
  · unfold maxLen; omega
  · omega
  · have := h.size
    simp
    omega
  · intro v' w' h1 h2 _
    exact K v' w' (h.snoc h1 h2)

/-- The digits from the a-th on, n of them. -/
def digs (D : Nat → Int) (a n : Nat) : List Int := (List.range n).map fun i => D (a + i)
theorem digs_length (D : Nat → Int) (a n : Nat) : (digs D a n).length = n := by simp [digs]
theorem digs_succ (D : Nat → Int) (a n : Nat) : digs D a (n + 1) = digs D a n ++ [D (a + n)] := by simp [digs, List.range_succ]

def Wrote (B b : Nat) (cs : Array Value) (l : List Int) (w0 : World) (e : Ending) (w' : World) : Prop := ∃ v, e = .returned v ∧ Dst B b cs w0 w' v l

set_option maxRecDepth 100000 in
set_option maxHeartbeats 4000000 in
theorem fmt_A (B b nd dp : Nat) (cs : Array Value) (D : Nat → Int) (v0 : Value) (w0 w : World) (hnd2 : nd ≤ 17) (hcb : 0 < dp) (hdp : nd ≤ dp) (hdp2 : dp ≤ 700)
    (hD : ∀ j, j < nd → cs[j]? = some (.int .u8 (D j))) (h : Dst B b cs w0 w v0 []) :
    Calls Tryz.prog 33 #[v0, .bool false, .slice (some ⟨b, 0, none⟩) 32 32, .int .i64 dp, .int .i64 nd, .int .i64 0, .int .u8 102, .bool true] w (Wrote B b cs ([] ++ (digs D 0 nd ++ List.replicate (dp - nd) 48)) w0) := by
  have HD := Lib.hid hD
  have HH := Lib.hid h
  clear hD h
  have hmin : min (nd : Int) dp = nd := by omega
  go_enter Tryz.func33, Tryz.ntmps33
  have HS := HH
  go_wp2
  go_loopw [0, 191] (fun v i wr => ∃ k : Nat, k ≤ nd ∧ i = .int .i64 k ∧ Hid (Dst B b cs w0 wr v ([] ++ digs D 0 k))) (fun _ i _ => nd - (intOf i).toNat)
  case atStart => exact ⟨0, Nat.zero_le _, rfl, by simpa [digs] using HS⟩
  case round =>
    obtain ⟨k, hk, rfl, HK⟩ := hrel
    rename World => wr
    by_cases hlt : k < nd
    · have hc : wr.cell? ⟨b, k, none⟩ = some (.int .u8 (D k)) := (HK.out.cell k).trans (HD.out k hlt)
      have hlen : ([] ++ digs D 0 k).length ≤ 100000 := by simp [digs_length]; omega
      go_wp2_with (at_builtin; (refine wpList_append_dst rfl _ _ rfl (D k) HK.out rfl rfl hlen ?_; intro v' w1 HN0; have HN := Lib.hid HN0; clear HN0))
      go_roundw
      case rel => exact ⟨k + 1, by omega, by go_num, by rw [digs_succ, Nat.zero_add, ← List.append_assoc]; exact HN⟩
      case measure => simp [intOf]; omega
    · obtain rfl : k = nd := by omega
      go_wp2
      go_loopw [0, 203] (fun v i wr => ∃ j : Nat, j ≤ dp - k ∧ i = .int .i64 j ∧ Hid (Dst B b cs w0 wr v ([] ++ digs D 0 k ++ List.replicate j 48))) (fun _ i _ => (dp - k) - (intOf i).toNat)
      case atStart => exact ⟨0, Nat.zero_le _, rfl, by simpa using HK⟩
      case round =>
        obtain ⟨j, hj, rfl, HJ⟩ := hrel
        rename World => wq
        by_cases hlt2 : j < dp - k
        · have hlen : ([] ++ digs D 0 k ++ List.replicate j 48).length ≤ 100000 := by simp [digs_length]; omega
          have htst : (j : Int) < dp - k := by omega
          go_wp2_with (at_builtin; (refine wpList_append_dst rfl _ _ rfl 48 HJ.out rfl rfl hlen ?_; intro v' w1 HN0; have HN := Lib.hid HN0; clear HN0))
          go_roundw
          case rel => exact ⟨j + 1, by omega, by go_num, by rw [List.replicate_succ', ← List.append_assoc]; exact HN⟩
          case measure => simp [intOf]; omega
        · have htst : ¬ (j : Int) < dp - k := by omega
          obtain rfl : j = dp - k := by omega
          go_wp2
          go_ret
          exact ⟨_, rfl, by rw [List.append_assoc] at HJ; exact HJ⟩

set_option maxRecDepth 100000 in
set_option maxHeartbeats 4000000 in
theorem fmt_A_neg (B b nd dp : Nat) (cs : Array Value) (D : Nat → Int) (v0 : Value) (w0 w : World) (hnd2 : nd ≤ 17) (hcb : 0 < dp) (hdp : nd ≤ dp) (hdp2 : dp ≤ 700)
    (hD : ∀ j, j < nd → cs[j]? = some (.int .u8 (D j))) (h : Dst B b cs w0 w v0 []) :
    Calls Tryz.prog 33 #[v0, .bool true, .slice (some ⟨b, 0, none⟩) 32 32, .int .i64 dp, .int .i64 nd, .int .i64 0, .int .u8 102, .bool true] w (Wrote B b cs ([45] ++ (digs D 0 nd ++ List.replicate (dp - nd) 48)) w0) := by
  have HD := Lib.hid hD
  have HH := Lib.hid h
  clear hD h
  have hmin : min (nd : Int) dp = nd := by omega
  go_enter Tryz.func33, Tryz.ntmps33
  go_wp2_with (at_builtin; (refine wpList_append_dst rfl _ _ rfl 45 HH.out rfl rfl (by decide) ?_; intro v' w1 HN0; have HS := Lib.hid HN0; clear HN0))
  go_loopw [0, 191] (fun v i wr => ∃ k : Nat, k ≤ nd ∧ i = .int .i64 k ∧ Hid (Dst B b cs w0 wr v ([45] ++ digs D 0 k))) (fun _ i _ => nd - (intOf i).toNat)
  case atStart => exact ⟨0, Nat.zero_le _, rfl, by simpa [digs] using HS⟩
  case round =>
    obtain ⟨k, hk, rfl, HK⟩ := hrel
    rename World => wr
    by_cases hlt : k < nd
    · have hc : wr.cell? ⟨b, k, none⟩ = some (.int .u8 (D k)) := (HK.out.cell k).trans (HD.out k hlt)
      have hlen : ([45] ++ digs D 0 k).length ≤ 100000 := by simp [digs_length]; omega
      go_wp2_with (at_builtin; (refine wpList_append_dst rfl _ _ rfl (D k) HK.out rfl rfl hlen ?_; intro v' w1 HN0; have HN := Lib.hid HN0; clear HN0))
      go_roundw
      case rel => exact ⟨k + 1, by omega, by go_num, by rw [digs_succ, Nat.zero_add, ← List.append_assoc]; exact HN⟩
      case measure => simp [intOf]; omega
    · obtain rfl : k = nd := by omega
      go_wp2
      go_loopw [0, 203] (fun v i wr => ∃ j : Nat, j ≤ dp - k ∧ i = .int .i64 j ∧ Hid (Dst B b cs w0 wr v ([45] ++ digs D 0 k ++ List.replicate j 48))) (fun _ i _ => (dp - k) - (intOf i).toNat)
      case atStart => exact ⟨0, Nat.zero_le _, rfl, by simpa using HK⟩
      case round =>
        obtain ⟨j, hj, rfl, HJ⟩ := hrel
        rename World => wq
        by_cases hlt2 : j < dp - k
        · have hlen : ([45] ++ digs D 0 k ++ List.replicate j 48).length ≤ 100000 := by simp [digs_length]; omega
          have htst : (j : Int) < dp - k := by omega
          go_wp2_with (at_builtin; (refine wpList_append_dst rfl _ _ rfl 48 HJ.out rfl rfl hlen ?_; intro v' w1 HN0; have HN := Lib.hid HN0; clear HN0))
          go_roundw
          case rel => exact ⟨j + 1, by omega, by go_num, by rw [List.replicate_succ', ← List.append_assoc]; exact HN⟩
          case measure => simp [intOf]; omega
        · have htst : ¬ (j : Int) < dp - k := by omega
          obtain rfl : j = dp - k := by omega
          go_wp2
          go_ret
          exact ⟨_, rfl, by rw [List.append_assoc] at HJ; exact HJ⟩

set_option maxRecDepth 100000 in
set_option maxHeartbeats 4000000 in
theorem fmt_B (B b nd dp q : Nat) (cs : Array Value) (D : Nat → Int) (v0 : Value) (w0 w : World) (hnd2 : nd ≤ 17) (hcb : 0 < dp) (hdp : dp < nd) (hq : Hid (q = nd - dp)) (hq0 : 0 < q)
    (hD : ∀ j, j < nd → cs[j]? = some (.int .u8 (D j))) (h : Dst B b cs w0 w v0 []) :
    Calls Tryz.prog 33 #[v0, .bool false, .slice (some ⟨b, 0, none⟩) 32 32, .int .i64 dp, .int .i64 nd, .int .i64 q, .int .u8 102, .bool true] w (Wrote B b cs ([] ++ (digs D 0 dp ++ 46 :: digs D dp q)) w0) := by
  have HD := Lib.hid hD
  have HH := Lib.hid h
  clear hD h
  have hmin : min (nd : Int) dp = dp := by omega
  have f1 : min (q : Int) (max 0 (-(dp : Int))) = 0 := by omega
  have f2 : min (q : Int) (max 0 ((nd : Int) - dp)) = q := by have := hq.out; omega
  go_enter Tryz.func33, Tryz.ntmps33
  have HS := HH
  go_wp2
  go_loopw [0, 191] (fun v i wr => ∃ k : Nat, k ≤ dp ∧ i = .int .i64 k ∧ Hid (Dst B b cs w0 wr v ([] ++ digs D 0 k))) (fun _ i _ => dp - (intOf i).toNat)
  case atStart => exact ⟨0, Nat.zero_le _, rfl, by simpa [digs] using HS⟩
  case round =>
    obtain ⟨k, hk, rfl, HK⟩ := hrel
    rename World => wr
    by_cases hlt : k < dp
    · have hc : wr.cell? ⟨b, k, none⟩ = some (.int .u8 (D k)) := (HK.out.cell k).trans (HD.out k (by omega))
      have hlen : ([] ++ digs D 0 k).length ≤ 100000 := by simp [digs_length]; omega
      go_wp2_with (at_builtin; (refine wpList_append_dst rfl _ _ rfl (D k) HK.out rfl rfl hlen ?_; intro v' w1 HN0; have HN := Lib.hid HN0; clear HN0))
      go_roundw
      case rel => exact ⟨k + 1, by omega, by go_num, by rw [digs_succ, Nat.zero_add, ← List.append_assoc]; exact HN⟩
      case measure => simp [intOf]; omega
    · obtain rfl : k = dp := by omega
      have hlen : ([] ++ digs D 0 k).length ≤ 100000 := by simp [digs_length]; omega
      go_wp2
      refine wp_loop_rounds 1 ?_
      rw [rounds_succ]
      go_wp2_with (at_builtin; (refine wpList_append_dst rfl _ _ rfl 46 HK.out rfl rfl hlen ?_; intro v' w1 HN0; have HP := Lib.hid HN0; clear HN0))
      refine wp_loop_rounds 1 ?_
      rw [rounds_succ]
      go_wp2
      clear hlen
      go_loopw [0, 247] (fun v i wr => ∃ j : Nat, j ≤ q ∧ i = .int .i64 j ∧ Hid (Dst B b cs w0 wr v ([] ++ digs D 0 k ++ [46] ++ digs D k j))) (fun _ i _ => q - (intOf i).toNat)
      case atStart => exact ⟨0, Nat.zero_le _, rfl, by simpa [digs] using HP⟩
      case round =>
        obtain ⟨j, hj, rfl, HJ⟩ := hrel
        rename World => wq
        by_cases hlt2 : j < q
        · have hlen : ([] ++ digs D 0 k ++ [46] ++ digs D k j).length ≤ 100000 := by have := hq.out; simp [digs_length]; omega
          have hkj : k + j < 32 := by have := hq.out; omega
          have hc : wq.cell? ⟨b, k + j, none⟩ = some (.int .u8 (D (k + j))) := (HJ.out.cell (k + j)).trans (HD.out (k + j) (by have := hq.out; omega))
          go_wp2_with (at_builtin; (refine wpList_append_dst rfl _ _ rfl (D (k + j)) HJ.out rfl rfl hlen ?_; intro v' w1 HN0; have HN := Lib.hid HN0; clear HN0))
          go_roundw
          case rel => exact ⟨j + 1, by omega, by go_num, by rw [digs_succ, ← List.append_assoc]; exact HN⟩
          case measure => simp [intOf]; omega
        · obtain rfl : j = q := by omega
          go_wp2
          refine wp_loop_rounds 1 ?_
          rw [rounds_succ]
          go_wp2
          go_ret
          exact ⟨_, rfl, by have := HJ.out; simpa [List.append_assoc] using this⟩

set_option maxRecDepth 100000 in
set_option maxHeartbeats 4000000 in
theorem fmt_B_neg (B b nd dp q : Nat) (cs : Array Value) (D : Nat → Int) (v0 : Value) (w0 w : World) (hnd2 : nd ≤ 17) (hcb : 0 < dp) (hdp : dp < nd) (hq : Hid (q = nd - dp)) (hq0 : 0 < q)
    (hD : ∀ j, j < nd → cs[j]? = some (.int .u8 (D j))) (h : Dst B b cs w0 w v0 []) :
    Calls Tryz.prog 33 #[v0, .bool true, .slice (some ⟨b, 0, none⟩) 32 32, .int .i64 dp, .int .i64 nd, .int .i64 q, .int .u8 102, .bool true] w (Wrote B b cs ([45] ++ (digs D 0 dp ++ 46 :: digs D dp q)) w0) := by
  have HD := Lib.hid hD
  have HH := Lib.hid h
  clear hD h
  have hmin : min (nd : Int) dp = dp := by omega
  have f1 : min (q : Int) (max 0 (-(dp : Int))) = 0 := by omega
  have f2 : min (q : Int) (max 0 ((nd : Int) - dp)) = q := by have := hq.out; omega
  go_enter Tryz.func33, Tryz.ntmps33
  go_wp2_with (at_builtin; (refine wpList_append_dst rfl _ _ rfl 45 HH.out rfl rfl (by decide) ?_; intro v' w1 HN0; have HS := Lib.hid HN0; clear HN0))
  go_loopw [0, 191] (fun v i wr => ∃ k : Nat, k ≤ dp ∧ i = .int .i64 k ∧ Hid (Dst B b cs w0 wr v ([45] ++ digs D 0 k))) (fun _ i _ => dp - (intOf i).toNat)
  case atStart => exact ⟨0, Nat.zero_le _, rfl, by simpa [digs] using HS⟩
  case round =>
    obtain ⟨k, hk, rfl, HK⟩ := hrel
    rename World => wr
    by_cases hlt : k < dp
    · have hc : wr.cell? ⟨b, k, none⟩ = some (.int .u8 (D k)) := (HK.out.cell k).trans (HD.out k (by omega))
      have hlen : ([45] ++ digs D 0 k).length ≤ 100000 := by simp [digs_length]; omega
      go_wp2_with (at_builtin; (refine wpList_append_dst rfl _ _ rfl (D k) HK.out rfl rfl hlen ?_; intro v' w1 HN0; have HN := Lib.hid HN0; clear HN0))
      go_roundw
      case rel => exact ⟨k + 1, by omega, by go_num, by rw [digs_succ, Nat.zero_add, ← List.append_assoc]; exact HN⟩
      case measure => simp [intOf]; omega
    · obtain rfl : k = dp := by omega
      have hlen : ([45] ++ digs D 0 k).length ≤ 100000 := by simp [digs_length]; omega
      go_wp2
      refine wp_loop_rounds 1 ?_
      rw [rounds_succ]
      go_wp2_with (at_builtin; (refine wpList_append_dst rfl _ _ rfl 46 HK.out rfl rfl hlen ?_; intro v' w1 HN0; have HP := Lib.hid HN0; clear HN0))
      refine wp_loop_rounds 1 ?_
      rw [rounds_succ]
      go_wp2
      clear hlen
      go_loopw [0, 247] (fun v i wr => ∃ j : Nat, j ≤ q ∧ i = .int .i64 j ∧ Hid (Dst B b cs w0 wr v ([45] ++ digs D 0 k ++ [46] ++ digs D k j))) (fun _ i _ => q - (intOf i).toNat)
      case atStart => exact ⟨0, Nat.zero_le _, rfl, by simpa [digs] using HP⟩
      case round =>
        obtain ⟨j, hj, rfl, HJ⟩ := hrel
        rename World => wq
        by_cases hlt2 : j < q
        · have hlen : ([45] ++ digs D 0 k ++ [46] ++ digs D k j).length ≤ 100000 := by have := hq.out; simp [digs_length]; omega
          have hkj : k + j < 32 := by have := hq.out; omega
          have hc : wq.cell? ⟨b, k + j, none⟩ = some (.int .u8 (D (k + j))) := (HJ.out.cell (k + j)).trans (HD.out (k + j) (by have := hq.out; omega))
          go_wp2_with (at_builtin; (refine wpList_append_dst rfl _ _ rfl (D (k + j)) HJ.out rfl rfl hlen ?_; intro v' w1 HN0; have HN := Lib.hid HN0; clear HN0))
          go_roundw
          case rel => exact ⟨j + 1, by omega, by go_num, by rw [digs_succ, ← List.append_assoc]; exact HN⟩
          case measure => simp [intOf]; omega
        · obtain rfl : j = q := by omega
          go_wp2
          refine wp_loop_rounds 1 ?_
          rw [rounds_succ]
          go_wp2
          go_ret
          exact ⟨_, rfl, by have := HJ.out; simpa [List.append_assoc] using this⟩

set_option maxRecDepth 100000 in
set_option maxHeartbeats 4000000 in
theorem fmt_C (B b nd y q : Nat) (cs : Array Value) (D : Nat → Int) (v0 : Value) (w0 w : World) (hnd1 : 1 ≤ nd) (hnd2 : nd ≤ 17) (hy : y ≤ 700) (hq : Hid (q = nd + y)) (hq0 : 0 < q) (hq1 : q ≤ 1000)
    (hD : ∀ j, j < nd → cs[j]? = some (.int .u8 (D j))) (h : Dst B b cs w0 w v0 []) :
    Calls Tryz.prog 33 #[v0, .bool false, .slice (some ⟨b, 0, none⟩) 32 32, .int .i64 (-(y : Int)), .int .i64 nd, .int .i64 q, .int .u8 102, .bool true] w (Wrote B b cs ([48, 46] ++ (List.replicate y 48 ++ digs D 0 nd)) w0) := by
  have HD := Lib.hid hD
  have HH := Lib.hid h
  clear hD h
  have f0 : -(y : Int) + y = 0 := by omega
  have f1 : min (q : Int) (y : Int) = y := by have := hq.out; omega
  have f2 : min ((q : Int) - y) (nd : Int) = nd := by have := hq.out; omega
  have f3 : max 0 ((q : Int) - y - nd) = 0 := by have := hq.out; omega
  go_enter Tryz.func33, Tryz.ntmps33
  go_wp2_with (at_builtin; first
    | (refine wpList_append_dst rfl _ _ rfl 48 HH.out rfl rfl (by decide) ?_; intro v' w1 HN0; have HT := Lib.hid HN0; clear HN0 HH)
    | (refine wpList_append_dst rfl _ _ rfl 46 HT.out rfl rfl (by decide) ?_; intro v'' w2 HN0; have HP := Lib.hid HN0; clear HN0 HT))
  go_loopw [0, 240] (fun v i wr => ∃ k : Nat, k ≤ y ∧ i = .int .i64 k ∧ Hid (Dst B b cs w0 wr v ([48, 46] ++ List.replicate k 48))) (fun _ i _ => y - (intOf i).toNat)
  case atStart => exact ⟨0, Nat.zero_le _, rfl, HP⟩
  case round =>
    obtain ⟨k, hk, rfl, HK⟩ := hrel
    rename World => wr
    by_cases hlt : k < y
    · have hlen : (([48, 46] : List Int) ++ List.replicate k 48).length ≤ 100000 := by simp; omega
      go_wp2_with (at_builtin; (refine wpList_append_dst rfl _ _ rfl 48 HK.out rfl rfl hlen ?_; intro v' w1 HN0; have HN := Lib.hid HN0; clear HN0))
      go_roundw
      case rel => exact ⟨k + 1, by omega, by go_num, by rw [List.replicate_succ', ← List.append_assoc]; exact HN⟩
      case measure => simp [intOf]; omega
    · obtain rfl : k = y := by omega
      go_wp2
      go_loopw [0, 247] (fun v i wr => ∃ j : Nat, j ≤ nd ∧ i = .int .i64 j ∧ Hid (Dst B b cs w0 wr v ([48, 46] ++ List.replicate k 48 ++ digs D 0 j))) (fun _ i _ => nd - (intOf i).toNat)
      case atStart => exact ⟨0, Nat.zero_le _, rfl, by simpa [digs] using HK⟩
      case round =>
        obtain ⟨j, hj, rfl, HJ⟩ := hrel
        rename World => wq
        by_cases hlt2 : j < nd
        · have hlen : ([48, 46] ++ List.replicate k 48 ++ digs D 0 j).length ≤ 100000 := by simp [digs_length]; omega
          have hc : wq.cell? ⟨b, j, none⟩ = some (.int .u8 (D j)) := (HJ.out.cell j).trans (HD.out j hlt2)
          go_wp2_with (at_builtin; (refine wpList_append_dst rfl _ _ rfl (D j) HJ.out rfl rfl hlen ?_; intro v' w1 HN0; have HN := Lib.hid HN0; clear HN0))
          go_roundw
          case rel => exact ⟨j + 1, by omega, by go_num, by rw [digs_succ, Nat.zero_add, ← List.append_assoc]; exact HN⟩
          case measure => simp [intOf]; omega
        · obtain rfl : j = nd := by omega
          go_wp2
          refine wp_loop_rounds 1 ?_
          rw [rounds_succ]
          go_wp2
          go_ret
          exact ⟨_, rfl, by rw [List.append_assoc] at HJ; exact HJ⟩

set_option maxRecDepth 100000 in
set_option maxHeartbeats 4000000 in
theorem fmt_C_neg (B b nd y q : Nat) (cs : Array Value) (D : Nat → Int) (v0 : Value) (w0 w : World) (hnd1 : 1 ≤ nd) (hnd2 : nd ≤ 17) (hy : y ≤ 700) (hq : Hid (q = nd + y)) (hq0 : 0 < q) (hq1 : q ≤ 1000)
    (hD : ∀ j, j < nd → cs[j]? = some (.int .u8 (D j))) (h : Dst B b cs w0 w v0 []) :
    Calls Tryz.prog 33 #[v0, .bool true, .slice (some ⟨b, 0, none⟩) 32 32, .int .i64 (-(y : Int)), .int .i64 nd, .int .i64 q, .int .u8 102, .bool true] w (Wrote B b cs ([45, 48, 46] ++ (List.replicate y 48 ++ digs D 0 nd)) w0) := by
  have HD := Lib.hid hD
  have HH := Lib.hid h
  clear hD h
  have f0 : -(y : Int) + y = 0 := by omega
  have f1 : min (q : Int) (y : Int) = y := by have := hq.out; omega
  have f2 : min ((q : Int) - y) (nd : Int) = nd := by have := hq.out; omega
  have f3 : max 0 ((q : Int) - y - nd) = 0 := by have := hq.out; omega
  go_enter Tryz.func33, Tryz.ntmps33
  go_wp2_with (at_builtin; first
    | (refine wpList_append_dst rfl _ _ rfl 45 HH.out rfl rfl (by decide) ?_; intro v' w1 HN0; have HS := Lib.hid HN0; clear HN0 HH)
    | (refine wpList_append_dst rfl _ _ rfl 48 HS.out rfl rfl (by decide) ?_; intro v'' w2 HN0; have HT := Lib.hid HN0; clear HN0 HS)
    | (refine wpList_append_dst rfl _ _ rfl 46 HT.out rfl rfl (by decide) ?_; intro v3 w3 HN0; have HP := Lib.hid HN0; clear HN0 HT))
  go_loopw [0, 240] (fun v i wr => ∃ k : Nat, k ≤ y ∧ i = .int .i64 k ∧ Hid (Dst B b cs w0 wr v ([45, 48, 46] ++ List.replicate k 48))) (fun _ i _ => y - (intOf i).toNat)
  case atStart => exact ⟨0, Nat.zero_le _, rfl, HP⟩
  case round =>
    obtain ⟨k, hk, rfl, HK⟩ := hrel
    rename World => wr
    by_cases hlt : k < y
    · have hlen : (([45, 48, 46] : List Int) ++ List.replicate k 48).length ≤ 100000 := by simp; omega
      go_wp2_with (at_builtin; (refine wpList_append_dst rfl _ _ rfl 48 HK.out rfl rfl hlen ?_; intro v' w1 HN0; have HN := Lib.hid HN0; clear HN0))
      go_roundw
      case rel => exact ⟨k + 1, by omega, by go_num, by rw [List.replicate_succ', ← List.append_assoc]; exact HN⟩
      case measure => simp [intOf]; omega
    · obtain rfl : k = y := by omega
      go_wp2
      go_loopw [0, 247] (fun v i wr => ∃ j : Nat, j ≤ nd ∧ i = .int .i64 j ∧ Hid (Dst B b cs w0 wr v ([45, 48, 46] ++ List.replicate k 48 ++ digs D 0 j))) (fun _ i _ => nd - (intOf i).toNat)
      case atStart => exact ⟨0, Nat.zero_le _, rfl, by simpa [digs] using HK⟩
      case round =>
        obtain ⟨j, hj, rfl, HJ⟩ := hrel
        rename World => wq
        by_cases hlt2 : j < nd
        · have hlen : ([45, 48, 46] ++ List.replicate k 48 ++ digs D 0 j).length ≤ 100000 := by simp [digs_length]; omega
          have hc : wq.cell? ⟨b, j, none⟩ = some (.int .u8 (D j)) := (HJ.out.cell j).trans (HD.out j hlt2)
          go_wp2_with (at_builtin; (refine wpList_append_dst rfl _ _ rfl (D j) HJ.out rfl rfl hlen ?_; intro v' w1 HN0; have HN := Lib.hid HN0; clear HN0))
          go_roundw
          case rel => exact ⟨j + 1, by omega, by go_num, by rw [digs_succ, Nat.zero_add, ← List.append_assoc]; exact HN⟩
          case measure => simp [intOf]; omega
        · obtain rfl : j = nd := by omega
          go_wp2
          refine wp_loop_rounds 1 ?_
          rw [rounds_succ]
          go_wp2
          go_ret
          exact ⟨_, rfl, by rw [List.append_assoc] at HJ; exact HJ⟩

end Go.Proofs.YtdjjgnplpjoabaaGreatDoor
