/- A decimal is parsed by unrounded scaling; its conditions: what is scaled lies within bounds. -/
import Derived.Test.YtdjjgnplpjoabaaGreatDoorW13
namespace Go.Proofs.YtdjjgnplpjoabaaGreatDoor
open Go.RowKit

def Parsed (v : Nat) (w : World) (e : Ending) (w' : World) : Prop := e = .returned (.tuple #[.float .f64 v, .nilIface]) ∧ Below w.heap.size w w'

theorem round_at (X : Int) (R : Nat) (w : World) (h1 : 0 ≤ X) (h2 : X ≤ 18446744073709551000) (hR : Hid ((X + 1 + X / 4 % 2) / 4 = (R : Int))) :
    Calls Tryz.prog 73 #[.int .u64 X] w fun e w' => e = .returned (.int .u64 R) ∧ w = w' := by
  have := round_any X w h1 h2
  rw [hR.out] at this
  exact this

set_option maxRecDepth 100000 in
set_option maxHeartbeats 4000000 in
theorem parse_A (d b : Nat) (p l e E : Int) (w : World) (hd : d ≤ 18446744073709551615) (hL : Hid (Lib.bitLen d = b)) (hb : b ≤ 64) (hp1 : -400 ≤ p) (hp2 : p ≤ 400) (hl : Hid (p * 108853 / 32768 = l)) (hl1 : -2000 ≤ l) (hl2 : l ≤ 2000)
    (he : min 1074 (53 - (b : Int) - l) = e) (he1 : -3000 ≤ e) (he2 : e ≤ 1074) (z : Nat) (hz : (64 : Int) - b = z) (hz63 : z ≤ 63)
    (hw : 7 < w.heap.size) (i hi lo s x U U1 R v : Nat) (hx : IntKind.u64.wrap ((d : Int) * 2 ^ z) = (x : Int))
    (hi0 : Hid (p + 348 = i)) (hi1 : i < 696) (h63 : 9223372036854775808 ≤ hi) (hh : hi ≤ 18446744073709551615) (hlo : lo ≤ 18446744073709551615) (hs : Hid (-(e - z + l + 3) = (s : Int))) (hs63 : s ≤ 63)
    (hx1 : 2 ≤ x) (hx2 : x ≤ 18446744073709551615) (hU : Hid (FB.usc x hi lo s = U)) (b1 : U < 36028797018963966)
    (hU1 : bits .or .u64 ((U : Int)) (bits .and .u64 (U : Int) 1) = (U1 : Int)) (hU2 : U1 ≤ 72057594037927936) (hR : Hid (((U1 : Int) + 1 + (U1 : Int) / 4 % 2) / 4 = (R : Int))) (hR0 : bits .or .u64 0 (R : Int) = (R : Int)) (hE : -e = E)
    (hpack : Hid (∀ w, Calls Tryz.prog 133 #[.int .u64 R, .int .i64 E] w fun e' w' => e' = .returned (.tuple #[.float .f64 v, .nilIface]) ∧ w = w'))
    (t0 : w.cell? ⟨7, i * 2, none⟩ = some (.int .u64 hi)) (t1 : w.cell? ⟨7, i * 2 + 1, none⟩ = some (.int .u64 lo)) :
    Calls Tryz.prog 121 #[.int .u64 d, .int .i64 p, .int .u64 0] w (Parsed v w) := by
  have hb0 : b2i false = 0 := rfl
  have hc : decide (36028797018963966 ≤ (U : Int)) = false := decide_eq_false (by omega)
  go_enter Tryz.func121, Tryz.ntmps121
  go_wp2_with (first
    | (go_at_call 34; (with_reducible refine (len64_at _ b _ (by omega) (by omega) (by simpa using hL)).mono ?_); rintro _ _ ⟨rfl, rfl⟩)
    | (go_at_call 68; (with_reducible refine (log2Pow10_at _ l _ (by omega) (by omega) hl).mono ?_); rintro _ _ ⟨rfl, rfl⟩)
    | (go_at_call 67; go_must ((with_reducible refine (prescale_new i hi lo s _ _ _ _ hw hi0.out hi1 (by omega) (by omega) (by omega) (by omega) hs.out t0 t1).mono ?_); rintro _ _ ⟨rfl, rfl⟩))
    | (go_at_call 69; go_must ((with_reducible refine (uscale_new0 _ x hi lo s U _ rfl hx1 hx2 h63 hh hlo hs63 hU).mono ?_); rintro _ _ ⟨rfl, n1, rfl⟩))
    | (go_at_call 76; ((with_reducible refine (unmin_any _).mono ?_); rintro _ _ ⟨rfl, rfl⟩))
    | (go_at_call 75; ((with_reducible refine (bool2_int _ _).mono ?_); rintro _ _ ⟨rfl, rfl⟩))
    | (go_at_call 73; go_must ((with_reducible refine (round_at _ R _ (by omega) (by omega) hR).mono ?_); rintro _ _ ⟨rfl, rfl⟩))
    | (go_at_call 133; go_must ((with_reducible refine (hpack.out _).mono ?_); rintro _ _ ⟨rfl, rfl⟩))
    | fail)
  go_ret2
  exact ⟨rfl, below_drewN ((Below.refl _ _).alloc (Nat.le_refl _) _) _⟩

set_option maxRecDepth 100000 in
set_option maxHeartbeats 4000000 in
theorem parse_B (d b : Nat) (p l e E : Int) (w : World) (hd : d ≤ 18446744073709551615) (hL : Hid (Lib.bitLen d = b)) (hb : b ≤ 64) (hp1 : -400 ≤ p) (hp2 : p ≤ 400) (hl : Hid (p * 108853 / 32768 = l)) (hl1 : -2000 ≤ l) (hl2 : l ≤ 2000)
    (he : min 1074 (53 - (b : Int) - l) = e) (he1 : -3000 ≤ e) (he2 : e ≤ 1074) (z : Nat) (hz : (64 : Int) - b = z) (hz63 : z ≤ 63)
    (hw : 7 < w.heap.size) (i hi lo s x U U1 R v : Nat) (hx : IntKind.u64.wrap ((d : Int) * 2 ^ z) = (x : Int))
    (hi0 : Hid (p + 348 = i)) (hi1 : i < 696) (h63 : 9223372036854775808 ≤ hi) (hh : hi ≤ 18446744073709551615) (hlo : lo ≤ 18446744073709551615) (hs : Hid (-(e - z + l + 3) = (s : Int))) (hs63 : s ≤ 63)
    (hx1 : 2 ≤ x) (hx2 : x ≤ 18446744073709551615) (hU : Hid (FB.usc x hi lo s = U)) (b1 : 36028797018963966 ≤ U) (b2 : U ≤ 72057594037927936)
    (hU1 : bits .or .u64 ((U : Int) / 2) (bits .and .u64 (U : Int) 1) = (U1 : Int)) (hU2 : U1 ≤ 72057594037927936) (hR : Hid (((U1 : Int) + 1 + (U1 : Int) / 4 % 2) / 4 = (R : Int))) (hR0 : bits .or .u64 0 (R : Int) = (R : Int)) (hE : -(e - 1) = E)
    (hpack : Hid (∀ w, Calls Tryz.prog 133 #[.int .u64 R, .int .i64 E] w fun e' w' => e' = .returned (.tuple #[.float .f64 v, .nilIface]) ∧ w = w'))
    (t0 : w.cell? ⟨7, i * 2, none⟩ = some (.int .u64 hi)) (t1 : w.cell? ⟨7, i * 2 + 1, none⟩ = some (.int .u64 lo)) :
    Calls Tryz.prog 121 #[.int .u64 d, .int .i64 p, .int .u64 0] w (Parsed v w) := by
  have hb0 : b2i true = 1 := rfl
  have hc : decide (36028797018963966 ≤ (U : Int)) = true := decide_eq_true (by omega)
  go_enter Tryz.func121, Tryz.ntmps121
  go_wp2_with (first
    | (go_at_call 34; (with_reducible refine (len64_at _ b _ (by omega) (by omega) (by simpa using hL)).mono ?_); rintro _ _ ⟨rfl, rfl⟩)
    | (go_at_call 68; (with_reducible refine (log2Pow10_at _ l _ (by omega) (by omega) hl).mono ?_); rintro _ _ ⟨rfl, rfl⟩)
    | (go_at_call 67; go_must ((with_reducible refine (prescale_new i hi lo s _ _ _ _ hw hi0.out hi1 (by omega) (by omega) (by omega) (by omega) hs.out t0 t1).mono ?_); rintro _ _ ⟨rfl, rfl⟩))
    | (go_at_call 69; go_must ((with_reducible refine (uscale_new0 _ x hi lo s U _ rfl hx1 hx2 h63 hh hlo hs63 hU).mono ?_); rintro _ _ ⟨rfl, n1, rfl⟩))
    | (go_at_call 76; ((with_reducible refine (unmin_any _).mono ?_); rintro _ _ ⟨rfl, rfl⟩))
    | (go_at_call 75; ((with_reducible refine (bool2_int _ _).mono ?_); rintro _ _ ⟨rfl, rfl⟩))
    | (go_at_call 73; go_must ((with_reducible refine (round_at _ R _ (by omega) (by omega) hR).mono ?_); rintro _ _ ⟨rfl, rfl⟩))
    | (go_at_call 133; go_must ((with_reducible refine (hpack.out _).mono ?_); rintro _ _ ⟨rfl, rfl⟩))
    | fail)
  go_ret2
  exact ⟨rfl, below_drewN ((Below.refl _ _).alloc (Nat.le_refl _) _) _⟩

end Go.Proofs.YtdjjgnplpjoabaaGreatDoor
