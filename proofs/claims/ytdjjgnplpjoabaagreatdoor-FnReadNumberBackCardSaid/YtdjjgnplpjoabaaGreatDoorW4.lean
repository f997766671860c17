/- The shortest decimal of a subnormal number is found as its plain form says; its conditions: what is scaled lies within bounds. -/
import Derived.Test.YtdjjgnplpjoabaaGreatDoorW3
namespace Go.Proofs.YtdjjgnplpjoabaaGreatDoor
open Go.RowKit

set_option maxRecDepth 100000 in
set_option maxHeartbeats 4000000 in
theorem short_sub (m : Nat) (e : Int) (w : World) (z : Nat) (hz1 : 11 < z) (hz2 : z ≤ 63) (hez : 11 + (-1085 - e) = (z : Int))
    (tst : ((m : Int) == 9223372036854775808) = false) (odd : Int) (hodd : bits .and .i64 (wrap64 ((m : Int) / 2 ^ z)) 1 = odd) (ho0 : 0 ≤ odd) (ho1 : odd ≤ 1)
    (hw : 7 < w.heap.size) (L l : Int) (i hi lo s mn mx U1 U2 U3 : Nat) (hp : Hid ((e + z) * 78913 / 262144 = L)) (hl : Hid ((-L) * 108853 / 32768 = l))
    (hL0 : -1000 ≤ L) (hL1 : L ≤ 1000) (hl0 : -5000 ≤ l) (hl1 : l ≤ 5000)
    (hp1 : Hid (-L + 348 = i)) (hi1 : i < 696) (h63 : 9223372036854775808 ≤ hi) (hh : hi ≤ 18446744073709551615) (hlo : lo ≤ 18446744073709551615) (hs : Hid (-(e + l + 3) = (s : Int))) (hs63 : s ≤ 63)
    (hmn : IntKind.u64.wrap ((m : Int) - IntKind.u64.wrap (2 ^ (z - 1))) = (mn : Int)) (hmx : IntKind.u64.wrap ((m : Int) + IntKind.u64.wrap (2 ^ (z - 1))) = (mx : Int)) (hm2 : 2 ≤ m) (hm3 : m ≤ 18446744073709551615) (hmn2 : 2 ≤ mn) (hmx2 : 2 ≤ mx) (hmn3 : mn ≤ 18446744073709551615) (hmx3 : mx ≤ 18446744073709551615)
    (hU1 : Hid (FB.usc mn hi lo s = U1)) (hU2 : Hid (FB.usc mx hi lo s = U2)) (hU3 : Hid (FB.usc m hi lo s = U3))
    (b1 : U1 ≤ 18446744073709550000) (b2 : U2 ≤ 18446744073709550000) (b3 : U3 ≤ 18446744073709550000) (b4 : 1 ≤ U2)
    (t0 : w.cell? ⟨7, i * 2, none⟩ = some (.int .u64 hi)) (t1 : w.cell? ⟨7, i * 2 + 1, none⟩ = some (.int .u64 lo)) :
    Calls Tryz.prog 43 #[.int .u64 m, .int .i64 e] w (SPost U1 U2 U3 odd (-L) w) := by
  go_enter Tryz.func43, Tryz.ntmps43
  go_wp2_with (first
    | (go_at_call 38; (with_reducible refine (log10Pow2_at _ L _ (by omega) (by omega) hp).mono ?_); rintro _ _ ⟨rfl, rfl⟩)
    | (go_at_call 68; (with_reducible refine (log2Pow10_at _ l _ (by omega) (by omega) hl).mono ?_); rintro _ _ ⟨rfl, rfl⟩)
    | (go_at_call 67; go_must ((with_reducible refine (prescale_new i hi lo s _ _ _ _ hw hp1.out hi1 (by omega) (by omega) (by omega) (by omega) hs.out t0 t1).mono ?_); rintro _ _ ⟨rfl, rfl⟩))
    | (go_at_call 69; first
        | ((with_reducible refine (uscale_new0 _ mn hi lo s U1 _ rfl hmn2 hmn3 h63 hh hlo hs63 hU1).mono ?_); rintro _ _ ⟨rfl, n1, rfl⟩)
        | ((with_reducible refine (uscale_new _ mx hi lo s U2 _ _ rfl hmx2 hmx3 h63 hh hlo hs63 hU2).mono ?_); rintro _ _ ⟨rfl, n2, rfl⟩)
        | go_must ((with_reducible refine (uscale_new _ m hi lo s U3 _ _ rfl hm2 hm3 h63 hh hlo hs63 hU3).mono ?_); rintro _ _ ⟨rfl, n3, rfl⟩))
    | (go_at_call 70; first
        | ((with_reducible refine (nudge_up _ _ _ (by omega) (by omega) ho0 ho1).mono ?_); rintro _ _ ⟨rfl, rfl⟩)
        | ((with_reducible refine (nudge_down _ _ _ (by omega) (by omega) ho0 ho1).mono ?_); rintro _ _ ⟨rfl, rfl⟩))
    | (go_at_call 71; ((with_reducible refine (ceil_any _ _ (by omega) (by omega)).mono ?_); rintro _ _ ⟨rfl, rfl⟩))
    | (go_at_call 72; ((with_reducible refine (floor_any _ _ (by omega) (by omega)).mono ?_); rintro _ _ ⟨rfl, rfl⟩))
    | (go_at_call 73; ((with_reducible refine (round_any _ _ (by omega) (by omega)).mono ?_); rintro _ _ ⟨rfl, rfl⟩))
    | fail)
  · have h1 : ((U1 : Int) + odd + 3) / 4 ≤ (U2 - odd) / 4 / 10 * 10 := by assumption
    go_ret2
    exact ⟨_, _, rfl, Or.inl ⟨h1, rfl, by omega⟩, below_drewN ((Below.refl _ _).alloc (Nat.le_refl _) _) _⟩
  · have h1 : ((U2 : Int) - odd) / 4 / 10 * 10 < (U1 + odd + 3) / 4 := by assumption
    have h2 : ((U1 : Int) + odd + 3) / 4 < (U2 - odd) / 4 := by assumption
    go_ret2
    exact ⟨_, _, rfl, Or.inr (Or.inl ⟨h1, h2, rfl, by omega⟩), below_drewN ((Below.refl _ _).alloc (Nat.le_refl _) _) _⟩
  · have h1 : ((U2 : Int) - odd) / 4 / 10 * 10 < (U1 + odd + 3) / 4 := by assumption
    have h2 : ((U2 : Int) - odd) / 4 ≤ (U1 + odd + 3) / 4 := by assumption
    go_ret2
    exact ⟨_, _, rfl, Or.inr (Or.inr ⟨h1, h2, rfl, by omega⟩), below_drewN ((Below.refl _ _).alloc (Nat.le_refl _) _) _⟩

set_option maxRecDepth 100000 in
set_option maxHeartbeats 4000000 in
theorem short_sub1 (m : Nat) (e : Int) (w : World) (z : Nat) (hz1 : 11 < z) (hz2 : z ≤ 63) (hez : 11 + (-1085 - e) = (z : Int))
    (tst : ((m : Int) == 9223372036854775808) = true) (odd : Int) (hodd : bits .and .i64 (wrap64 ((m : Int) / 2 ^ z)) 1 = odd) (ho0 : 0 ≤ odd) (ho1 : odd ≤ 1)
    (hw : 7 < w.heap.size) (L l : Int) (i hi lo s mn mx U1 U2 U3 : Nat) (hp : Hid ((e + z) * 78913 / 262144 = L)) (hl : Hid ((-L) * 108853 / 32768 = l))
    (hL0 : -1000 ≤ L) (hL1 : L ≤ 1000) (hl0 : -5000 ≤ l) (hl1 : l ≤ 5000)
    (hp1 : Hid (-L + 348 = i)) (hi1 : i < 696) (h63 : 9223372036854775808 ≤ hi) (hh : hi ≤ 18446744073709551615) (hlo : lo ≤ 18446744073709551615) (hs : Hid (-(e + l + 3) = (s : Int))) (hs63 : s ≤ 63)
    (hmn : IntKind.u64.wrap ((m : Int) - IntKind.u64.wrap (2 ^ (z - 1))) = (mn : Int)) (hmx : IntKind.u64.wrap ((m : Int) + IntKind.u64.wrap (2 ^ (z - 1))) = (mx : Int)) (hm2 : 2 ≤ m) (hm3 : m ≤ 18446744073709551615) (hmn2 : 2 ≤ mn) (hmx2 : 2 ≤ mx) (hmn3 : mn ≤ 18446744073709551615) (hmx3 : mx ≤ 18446744073709551615)
    (hU1 : Hid (FB.usc mn hi lo s = U1)) (hU2 : Hid (FB.usc mx hi lo s = U2)) (hU3 : Hid (FB.usc m hi lo s = U3))
    (b1 : U1 ≤ 18446744073709550000) (b2 : U2 ≤ 18446744073709550000) (b3 : U3 ≤ 18446744073709550000) (b4 : 1 ≤ U2)
    (t0 : w.cell? ⟨7, i * 2, none⟩ = some (.int .u64 hi)) (t1 : w.cell? ⟨7, i * 2 + 1, none⟩ = some (.int .u64 lo)) :
    Calls Tryz.prog 43 #[.int .u64 m, .int .i64 e] w (SPost U1 U2 U3 odd (-L) w) := by
  go_enter Tryz.func43, Tryz.ntmps43
  go_wp2_with (first
    | (go_at_call 38; (with_reducible refine (log10Pow2_at _ L _ (by omega) (by omega) hp).mono ?_); rintro _ _ ⟨rfl, rfl⟩)
    | (go_at_call 68; (with_reducible refine (log2Pow10_at _ l _ (by omega) (by omega) hl).mono ?_); rintro _ _ ⟨rfl, rfl⟩)
    | (go_at_call 67; go_must ((with_reducible refine (prescale_new i hi lo s _ _ _ _ hw hp1.out hi1 (by omega) (by omega) (by omega) (by omega) hs.out t0 t1).mono ?_); rintro _ _ ⟨rfl, rfl⟩))
    | (go_at_call 69; first
        | ((with_reducible refine (uscale_new0 _ mn hi lo s U1 _ rfl hmn2 hmn3 h63 hh hlo hs63 hU1).mono ?_); rintro _ _ ⟨rfl, n1, rfl⟩)
        | ((with_reducible refine (uscale_new _ mx hi lo s U2 _ _ rfl hmx2 hmx3 h63 hh hlo hs63 hU2).mono ?_); rintro _ _ ⟨rfl, n2, rfl⟩)
        | go_must ((with_reducible refine (uscale_new _ m hi lo s U3 _ _ rfl hm2 hm3 h63 hh hlo hs63 hU3).mono ?_); rintro _ _ ⟨rfl, n3, rfl⟩))
    | (go_at_call 70; first
        | ((with_reducible refine (nudge_up _ _ _ (by omega) (by omega) ho0 ho1).mono ?_); rintro _ _ ⟨rfl, rfl⟩)
        | ((with_reducible refine (nudge_down _ _ _ (by omega) (by omega) ho0 ho1).mono ?_); rintro _ _ ⟨rfl, rfl⟩))
    | (go_at_call 71; ((with_reducible refine (ceil_any _ _ (by omega) (by omega)).mono ?_); rintro _ _ ⟨rfl, rfl⟩))
    | (go_at_call 72; ((with_reducible refine (floor_any _ _ (by omega) (by omega)).mono ?_); rintro _ _ ⟨rfl, rfl⟩))
    | (go_at_call 73; ((with_reducible refine (round_any _ _ (by omega) (by omega)).mono ?_); rintro _ _ ⟨rfl, rfl⟩))
    | fail)
  · have h1 : ((U1 : Int) + odd + 3) / 4 ≤ (U2 - odd) / 4 / 10 * 10 := by assumption
    go_ret2
    exact ⟨_, _, rfl, Or.inl ⟨h1, rfl, by omega⟩, below_drewN ((Below.refl _ _).alloc (Nat.le_refl _) _) _⟩
  · have h1 : ((U2 : Int) - odd) / 4 / 10 * 10 < (U1 + odd + 3) / 4 := by assumption
    have h2 : ((U1 : Int) + odd + 3) / 4 < (U2 - odd) / 4 := by assumption
    go_ret2
    exact ⟨_, _, rfl, Or.inr (Or.inl ⟨h1, h2, rfl, by omega⟩), below_drewN ((Below.refl _ _).alloc (Nat.le_refl _) _) _⟩
  · have h1 : ((U2 : Int) - odd) / 4 / 10 * 10 < (U1 + odd + 3) / 4 := by assumption
    have h2 : ((U2 : Int) - odd) / 4 ≤ (U1 + odd + 3) / 4 := by assumption
    go_ret2
    exact ⟨_, _, rfl, Or.inr (Or.inr ⟨h1, h2, rfl, by omega⟩), below_drewN ((Below.refl _ _).alloc (Nat.le_refl _) _) _⟩


end Go.Proofs.YtdjjgnplpjoabaaGreatDoor
