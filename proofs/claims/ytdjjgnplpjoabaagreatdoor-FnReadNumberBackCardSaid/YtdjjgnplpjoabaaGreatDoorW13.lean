/- A decimal's text is parsed as a float; its conditions: the decimal lies in the float's interval, and the tables are as the program's text lays them. -/
import Derived.Test.YtdjjgnplpjoabaaGreatDoorW11
import Derived.Test.YtdjjgnplpjoabaaGreatDoorW12
namespace Go.Proofs.YtdjjgnplpjoabaaGreatDoor
open Go.RowKit

set_option maxRecDepth 100000 in
set_option maxHeartbeats 1000000 in
theorem special_any (s : ByteArray) (w : World) (hs1 : 1 ≤ s.size) (hs2 : s.size ≤ 1000) (c0 : Nat) (h0 : (s[0]'(by omega)).toNat = c0) (h01 : 48 ≤ c0) (h02 : c0 ≤ 57) :
    Calls Tryz.prog 110 #[.string s] w fun e w' => e = .returned (.tuple #[.float .f64 0, .int .i64 0, .bool false]) ∧ w = w' := by
  have t1 : ((c0 : Int) == 43) = false := by rw [beq_eq_false_iff_ne]; omega
  have t2 : ((c0 : Int) == 45) = false := by rw [beq_eq_false_iff_ne]; omega
  have t3 : ((c0 : Int) == 105) = false := by rw [beq_eq_false_iff_ne]; omega
  have t4 : ((c0 : Int) == 73) = false := by rw [beq_eq_false_iff_ne]; omega
  have t5 : ((c0 : Int) == 110) = false := by rw [beq_eq_false_iff_ne]; omega
  have t6 : ((c0 : Int) == 78) = false := by rw [beq_eq_false_iff_ne]; omega
  have hpos : 0 < s.size := by omega
  have hsz : ((s.size : Int) == 0) = false := by rw [beq_eq_false_iff_ne]; omega
  have hne : ¬ s = ByteArray.empty := fun h => by subst h; simp at hpos
  go_enter Tryz.func110, Tryz.ntmps110
  go_wp2
  go_ret3
  exact ⟨rfl, rfl⟩

theorem frombits_any (b : Nat) (w : World) : (callFunc 119 #[.int .u64 b]).run Tryz.prog w = .ok (.value (.float .f64 b)) w := run_bits119 b w

/-- The tables that the parsing reads. -/
structure RTabs (w : World) : Prop where
  tab : Tab w
  size : 24 ≤ w.heap.size
  info : w.cell? ⟨13, 0, none⟩ = some (.int .u64 52)
  opt : w.cell? ⟨2, 0, none⟩ = some (.bool true)
  ten : ∃ g off, w.cell? ⟨16, 0, none⟩ = some (.slice (some ⟨g, off, none⟩) 23 23) ∧ ∀ k, k < 23 → w.cell? ⟨g, off + k, none⟩ = some (.float .f64 (FB.tenBits.getD k 0))

theorem RTabs.below {w w' : World} (h : RTabs w) (hb : Below w.heap.size w w') : RTabs w' := by
  have hs := h.size
  obtain ⟨g, off, h1, h2⟩ := h.ten
  have hg : g < w.heap.size := block_lt_of_cell (h2 0 (by decide))
  refine ⟨fun p h1 h2 => ?_, Nat.le_trans h.size hb.size, ?_, ?_, g, off, ?_, fun k hk => ?_⟩
  · obtain ⟨a, b⟩ := h.tab p h1 h2
    rw [hb.cell (p := ⟨7, _, none⟩) (by show 7 < w.heap.size; omega), hb.cell (p := ⟨7, _, none⟩) (by show 7 < w.heap.size; omega)]
    exact ⟨a, b⟩
  · rw [hb.cell (p := ⟨13, _, none⟩) (by show 13 < w.heap.size; omega)]; exact h.info
  · rw [hb.cell (p := ⟨2, _, none⟩) (by show 2 < w.heap.size; omega)]; exact h.opt
  · rw [hb.cell (p := ⟨16, _, none⟩) (by show 16 < w.heap.size; omega)]; exact h1
  · rw [hb.cell (p := ⟨g, _, none⟩) (by show g < w.heap.size; omega)]; exact h2 k hk

set_option maxRecDepth 100000 in
set_option maxHeartbeats 1000000 in
theorem exact_big (m : Nat) (p : Int) (w : World) (hi : w.cell? ⟨13, 0, none⟩ = some (.int .u64 52)) (hb : ((m : Int) / 4503599627370496 != 0) = true) :
    Calls Tryz.prog 120 #[.int .u64 m, .int .i64 p, .bool false] w fun e w' => e = .returned (.tuple #[.float .f64 0, .bool false]) ∧ w = w' := by
  go_enter Tryz.func120, Tryz.ntmps120
  go_wp2
  go_ret2
  exact ⟨rfl, rfl⟩

set_option maxRecDepth 100000 in
set_option maxHeartbeats 1000000 in
theorem exact_zero (m : Nat) (w : World) (hi : w.cell? ⟨13, 0, none⟩ = some (.int .u64 52)) (hb : ((m : Int) / 4503599627370496 != 0) = false) :
    Calls Tryz.prog 120 #[.int .u64 m, .int .i64 0, .bool false] w fun e w' => e = .returned (.tuple #[.float .f64 (Ieee.double.nearest false m 0), .bool true]) ∧ w = w' := by
  go_enter Tryz.func120, Tryz.ntmps120
  go_wp2
  go_ret2
  exact ⟨rfl, rfl⟩

def NotExact (w : World) (e : Ending) (w' : World) : Prop := ∃ f, e = .returned (.tuple #[.float .f64 f, .bool false]) ∧ w = w'

set_option maxRecDepth 100000 in
set_option maxHeartbeats 1000000 in
theorem exact_no (m : Nat) (p : Int) (w : World) (hi : w.cell? ⟨13, 0, none⟩ = some (.int .u64 52)) (hb : ((m : Int) / 4503599627370496 != 0) = false) (hp0 : (p == 0) = false) (hp1 : ¬ 0 < p) (hp2 : p < 0) (hp3 : ¬ -22 ≤ p) :
    Calls Tryz.prog 120 #[.int .u64 m, .int .i64 p, .bool false] w (NotExact w) := by
  go_enter Tryz.func120, Tryz.ntmps120
  go_wp2
  go_ret2
  exact ⟨_, rfl, rfl⟩

set_option maxRecDepth 100000 in
set_option maxHeartbeats 1000000 in
theorem exact_div (m k r g off : Nat) (p : Int) (w : World) (hi : w.cell? ⟨13, 0, none⟩ = some (.int .u64 52)) (hb : ((m : Int) / 4503599627370496 != 0) = false)
    (hk1 : 1 ≤ k) (hk : k < 23) (hp0 : (p == 0) = false) (hp1 : ¬ 0 < p) (hp2 : p < 0) (hp3 : -22 ≤ p) (hneg : -p = (k : Int))
    (c1 : w.cell? ⟨16, 0, none⟩ = some (.slice (some ⟨g, off, none⟩) 23 23)) (Y : Nat) (c2 : w.cell? ⟨g, off + k, none⟩ = some (.float .f64 Y))
    (hq : Hid (Ieee.double.div (Ieee.double.nearest false m 0) Y = some r)) :
    Calls Tryz.prog 120 #[.int .u64 m, .int .i64 p, .bool false] w fun e w' => e = .returned (.tuple #[.float .f64 r, .bool true]) ∧ w = w' := by
  have hrun : (binOp .quo 22 (.float .f64 (floatOfInt .f64 (m : Int))) (.float .f64 Y)).run Tryz.prog w = .ok (.float .f64 r) w := run_float_arith w .quo 22 .f64 _ Y r hq.out
  go_enter Tryz.func120, Tryz.ntmps120
  go_wp2
  go_ret2
  exact ⟨rfl, rfl⟩

set_option maxRecDepth 100000 in
set_option maxHeartbeats 1000000 in
theorem pack_sub (r : Nat) (e : Int) (w : World) (hr : bits .and .u64 (r : Int) 4503599627370496 = 0) :
    Calls Tryz.prog 133 #[.int .u64 r, .int .i64 e] w fun e' w' => e' = .returned (.tuple #[.float .f64 r, .nilIface]) ∧ w = w' := by
  have hd := run_bits119
  go_enter Tryz.func133, Tryz.ntmps133
  go_wp2
  go_ret2
  exact ⟨rfl, rfl⟩

set_option maxRecDepth 100000 in
set_option maxHeartbeats 1000000 in
theorem pack_norm (r v : Nat) (e : Int) (w : World) (hr : bits .and .u64 (r : Int) 4503599627370496 = 4503599627370496) (he1 : -1074 ≤ e) (he2 : e < 972)
    (hv : bits .or .u64 (bits .andNot .u64 (r : Int) 4503599627370496) ((1075 + e) * 4503599627370496) = (v : Int)) :
    Calls Tryz.prog 133 #[.int .u64 r, .int .i64 e] w fun e' w' => e' = .returned (.tuple #[.float .f64 v, .nilIface]) ∧ w = w' := by
  have hd := run_bits119
  go_enter Tryz.func133, Tryz.ntmps133
  go_wp2
  go_ret2
  exact ⟨rfl, rfl⟩

end Go.Proofs.YtdjjgnplpjoabaaGreatDoor
