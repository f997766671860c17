/- The small functions of the scaling code compute what their plain forms say; their conditions: the numbers lie within bounds that no sum passes. -/
import Derived.Test.YtdjjgnplpjoabaaGreatDoorRows
import Derived.WalkKit
import Derived.WalkSpells
import Derived.WalkLawsBesides
import Derived.Test.YtdjjgnplpjoabaaGreatDoorBits
import Derived.Test.YtdjjgnplpjoabaaGreatDoorShelf
namespace Go.Proofs.YtdjjgnplpjoabaaGreatDoor
open Go.RowKit

theorem ret_int {k : IntKind} {a b : Int} (h : a = b) : Ending.returned (.int k a) = .returned (.int k b) := by rw [h]

set_option maxHeartbeats 400000 in
theorem log10Pow2_any (x : Int) (w : World) (h1 : -100000 ≤ x) (h2 : x ≤ 100000) :
    Calls Tryz.prog 38 #[.int .i64 x] w fun e w' => e = .returned (.int .i64 (x * 78913 / 262144)) ∧ w = w' := by
  go_enter Tryz.func38, Tryz.ntmps38
  go_wp2
  go_ret
  exact ⟨rfl, rfl⟩

set_option maxHeartbeats 400000 in
theorem log2Pow10_any (x : Int) (w : World) (h1 : -100000 ≤ x) (h2 : x ≤ 100000) :
    Calls Tryz.prog 68 #[.int .i64 x] w fun e w' => e = .returned (.int .i64 (x * 108853 / 32768)) ∧ w = w' := by
  go_enter Tryz.func68, Tryz.ntmps68
  go_wp2
  go_ret
  exact ⟨rfl, rfl⟩

set_option maxHeartbeats 400000 in
theorem skewed_any (x : Int) (w : World) (h1 : -100000 ≤ x) (h2 : x ≤ 100000) :
    Calls Tryz.prog 66 #[.int .i64 x] w fun e w' => e = .returned (.int .i64 ((x * 631305 - 261663) / 2097152)) ∧ w = w' := by
  go_enter Tryz.func66, Tryz.ntmps66
  go_wp2
  go_ret
  exact ⟨rfl, rfl⟩

set_option maxHeartbeats 400000 in
theorem floor_any (x : Int) (w : World) (h1 : 0 ≤ x) (h2 : x ≤ 18446744073709551000) :
    Calls Tryz.prog 72 #[.int .u64 x] w fun e w' => e = .returned (.int .u64 (x / 4)) ∧ w = w' := by
  go_enter Tryz.func72, Tryz.ntmps72
  go_wp2
  go_ret
  exact ⟨rfl, rfl⟩

set_option maxHeartbeats 400000 in
theorem ceil_any (x : Int) (w : World) (h1 : 0 ≤ x) (h2 : x ≤ 18446744073709551000) :
    Calls Tryz.prog 71 #[.int .u64 x] w fun e w' => e = .returned (.int .u64 ((x + 3) / 4)) ∧ w = w' := by
  go_enter Tryz.func71, Tryz.ntmps71
  go_wp2
  go_ret
  exact ⟨rfl, rfl⟩

set_option maxHeartbeats 400000 in
theorem round_any (x : Int) (w : World) (h1 : 0 ≤ x) (h2 : x ≤ 18446744073709551000) :
    Calls Tryz.prog 73 #[.int .u64 x] w fun e w' => e = .returned (.int .u64 ((x + 1 + x / 4 % 2) / 4)) ∧ w = w' := by
  have hb := and_one_u64 (x / 4) (by omega) (by omega)
  go_enter Tryz.func73, Tryz.ntmps73
  go_wp2
  go_ret
  exact ⟨rfl, rfl⟩

set_option maxHeartbeats 400000 in
theorem nudge_up (x d : Int) (w : World) (h1 : 0 ≤ x) (h2 : x ≤ 18446744073709551000) (h3 : 0 ≤ d) (h4 : d ≤ 1) :
    Calls Tryz.prog 70 #[.int .u64 x, .int .i64 d] w fun e w' => e = .returned (.int .u64 (x + d)) ∧ w = w' := by
  go_enter Tryz.func70, Tryz.ntmps70
  go_wp2
  go_ret
  exact ⟨rfl, rfl⟩

set_option maxHeartbeats 400000 in
theorem nudge_down (x d : Int) (w : World) (h1 : 1 ≤ x) (h2 : x ≤ 18446744073709551000) (h3 : 0 ≤ d) (h4 : d ≤ 1) :
    Calls Tryz.prog 70 #[.int .u64 x, .int .i64 (-d)] w fun e w' => e = .returned (.int .u64 (x - d)) ∧ w = w' := by
  go_enter Tryz.func70, Tryz.ntmps70
  go_wp2
  go_ret
  exact ⟨ret_int (by simp only [IntKind.wrap, IntKind.bits, IntKind.signed]; simp; omega), rfl⟩

set_option maxHeartbeats 400000 in
theorem unmin_any (w : World) :
    Calls Tryz.prog 76 #[.int .u64 9007199254740992] w fun e w' => e = .returned (.int .u64 36028797018963966) ∧ w = w' := by
  go_enter Tryz.func76, Tryz.ntmps76
  go_wp2
  go_ret
  exact ⟨rfl, rfl⟩

/-- 1 for true, 0 for false. -/
def b2i (b : Bool) : Int := if b then 1 else 0

set_option maxHeartbeats 400000 in
theorem bool2_u64 (b : Bool) (w : World) :
    Calls Tryz.prog 103 #[.bool b] w fun e w' => e = .returned (.int .u64 (b2i b)) ∧ w = w' := by
  cases b
  all_goals
    go_enter Tryz.func103, Tryz.ntmps103
    go_wp2
    go_ret
    exact ⟨rfl, rfl⟩

set_option maxHeartbeats 400000 in
theorem bool2_int (b : Bool) (w : World) :
    Calls Tryz.prog 75 #[.bool b] w fun e w' => e = .returned (.int .i64 (b2i b)) ∧ w = w' := by
  cases b
  all_goals
    go_enter Tryz.func75, Tryz.ntmps75
    go_wp2
    go_ret
    exact ⟨rfl, rfl⟩

end Go.Proofs.YtdjjgnplpjoabaaGreatDoor
