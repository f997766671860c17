/- The shortest decimal of a number is found as the plain form 'shortEnd' says; its conditions: what is scaled lies within bounds. -/
import Derived.Test.YtdjjgnplpjoabaaGreatDoorW2
import Derived.WalkSmall
namespace Go.Proofs.YtdjjgnplpjoabaaGreatDoor
open Go.RowKit

set_option maxRecDepth 100000 in
set_option maxHeartbeats 1000000 in
theorem prescale_any (b i hi lo : Nat) (e p l : Int) (v0 v1 v2 : Value) (w : World) (hp : p + 348 = i) (hi' : i < 696) (he : -10000 ≤ e) (he' : e ≤ 10000) (hl : -10000 ≤ l) (hl' : l ≤ 10000)
    (t0 : w.cell? ⟨7, i * 2, none⟩ = some (.int .u64 hi)) (t1 : w.cell? ⟨7, i * 2 + 1, none⟩ = some (.int .u64 lo))
    (c0 : w.cell? ⟨b, 0, none⟩ = some v0) (c1 : w.cell? ⟨b, 1, none⟩ = some v1) (c2 : w.cell? ⟨b, 2, none⟩ = some v2)
    (f0 : w.frozen? ⟨b, 0, none⟩ = false) (f1 : w.frozen? ⟨b, 1, none⟩ = false) (f2 : w.frozen? ⟨b, 2, none⟩ = false) :
    Calls Tryz.prog 67 #[.pointer (some ⟨b, 0, none⟩), .int .i64 e, .int .i64 p, .int .i64 l] w fun e' w' => e' = .returned (.tuple #[]) ∧ w' = ((w.setCell ⟨b, 0, none⟩ (.int .u64 hi)).setCell ⟨b, 1, none⟩ (.int .u64 lo)).setCell ⟨b, 2, none⟩ (.int .i64 (-(e + l + 3))) := by
  obtain rfl : p = (i : Int) - 348 := by omega
  clear hp
  go_enter Tryz.func67, Tryz.ntmps67
  go_wp2
  go_end0
  exact ⟨rfl, rfl⟩

/-- The table of powers of ten lies in its variable. -/
def Tab (w : World) : Prop := ∀ p : Int, -330 ≤ p → p < 330 → w.cell? ⟨7, (p + 348).toNat * 2, none⟩ = some (.int .u64 (FB.tabAt p).1) ∧ w.cell? ⟨7, (p + 348).toNat * 2 + 1, none⟩ = some (.int .u64 (FB.tabAt p).2)

theorem log10Pow2_at (x L : Int) (w : World) (h1 : -100000 ≤ x) (h2 : x ≤ 100000) (hL : Hid (x * 78913 / 262144 = L)) :
    Calls Tryz.prog 38 #[.int .i64 x] w fun e w' => e = .returned (.int .i64 L) ∧ w = w' := by
  have := log10Pow2_any x w h1 h2
  rw [hL.out] at this
  exact this

theorem skewed_at (x L : Int) (w : World) (h1 : -100000 ≤ x) (h2 : x ≤ 100000) (hL : Hid ((x * 631305 - 261663) / 2097152 = L)) :
    Calls Tryz.prog 66 #[.int .i64 x] w fun e w' => e = .returned (.int .i64 L) ∧ w = w' := by
  have := skewed_any x w h1 h2
  rw [hL.out] at this
  exact this

theorem log2Pow10_at (x L : Int) (w : World) (h1 : -100000 ≤ x) (h2 : x ≤ 100000) (hL : Hid (x * 108853 / 32768 = L)) :
    Calls Tryz.prog 68 #[.int .i64 x] w fun e w' => e = .returned (.int .i64 L) ∧ w = w' := by
  have := log2Pow10_any x w h1 h2
  rw [hL.out] at this
  exact this

theorem mulHi_pos (x hi : Nat) (h1 : 2 ≤ x) (h2 : 9223372036854775808 ≤ hi) : 1 ≤ mulHi x hi := by
  unfold mulHi
  rw [Nat.le_div_iff_mul_le (by decide)]
  have : 2 * 9223372036854775808 ≤ x * hi := Nat.mul_le_mul h1 h2
  omega

/-- The scaling by its constants' words. -/
theorem uscale_at (X : Int) (x hi lo s U : Nat) (b : Nat) (w : World) (hX : X = (x : Int)) (h2 : 2 ≤ x) (hx : x ≤ 18446744073709551615) (h63 : 9223372036854775808 ≤ hi) (hh : hi ≤ 18446744073709551615) (hl : lo ≤ 18446744073709551615) (hs : s ≤ 63) (hU : Hid (FB.usc x hi lo s = U))
    (c0 : w.cell? ⟨b, 0, none⟩ = some (.int .u64 hi)) (c1 : w.cell? ⟨b, 1, none⟩ = some (.int .u64 lo)) (c2 : w.cell? ⟨b, 2, none⟩ = some (.int .i64 s)) :
    Calls Tryz.prog 69 #[.int .u64 X, .pointer (some ⟨b, 0, none⟩)] w fun e w' => e = .returned (.int .u64 U) ∧ ∃ n, w' = w.drewN n := by
  subst hX
  have := uscale_any x hi lo s b w hx hh hl hs (mulHi_pos x hi h2 h63) c0 c1 c2
  rw [hU.out] at this
  exact this

/-- .. of a scaler that has just been made. -/
theorem prescale_new (i hi lo s : Nat) (e p l : Int) (w : World) (hw : 7 < w.heap.size) (hp : p + 348 = i) (hi' : i < 696) (he : -10000 ≤ e) (he' : e ≤ 10000) (hl : -10000 ≤ l) (hl' : l ≤ 10000) (hs : -(e + l + 3) = (s : Int))
    (t0 : w.cell? ⟨7, i * 2, none⟩ = some (.int .u64 hi)) (t1 : w.cell? ⟨7, i * 2 + 1, none⟩ = some (.int .u64 lo)) :
    Calls Tryz.prog 67 #[.pointer (some ⟨w.heap.size, 0, none⟩), .int .i64 e, .int .i64 p, .int .i64 l] (w.alloc (.cells #[.int .u64 0, .int .u64 0, .int .i64 0] 116)) fun e' w' => e' = .returned (.tuple #[]) ∧ w' = w.alloc (.cells #[.int .u64 hi, .int .u64 lo, .int .i64 s] 116) := by
  refine (prescale_any w.heap.size i hi lo e p l (.int .u64 0) (.int .u64 0) (.int .i64 0) _ hp hi' he he' hl hl' ?_ ?_ ?_ ?_ ?_ ?_ ?_ ?_).mono ?_
  · rw [World.cell?_alloc_past _ _ _ hw]; exact t0
  · rw [World.cell?_alloc_past _ _ _ hw]; exact t1
  · rw [World.cell?_alloc_at _ _ _ _ rfl]; rfl
  · rw [World.cell?_alloc_at _ _ _ _ rfl]; rfl
  · rw [World.cell?_alloc_at _ _ _ _ rfl]; rfl
  · go_simp
  · go_simp
  · go_simp
  · rintro e' w' ⟨rfl, rfl⟩
    refine ⟨rfl, ?_⟩
    rw [hs]
    go_simp

theorem uscale_new (X : Int) (x hi lo s U n : Nat) (w : World) (hX : X = (x : Int)) (h2 : 2 ≤ x) (hx : x ≤ 18446744073709551615) (h63 : 9223372036854775808 ≤ hi) (hh : hi ≤ 18446744073709551615) (hl : lo ≤ 18446744073709551615) (hs : s ≤ 63) (hU : Hid (FB.usc x hi lo s = U)) :
    Calls Tryz.prog 69 #[.int .u64 X, .pointer (some ⟨w.heap.size, 0, none⟩)] ((w.alloc (.cells #[.int .u64 hi, .int .u64 lo, .int .i64 s] 116)).drewN n) fun e w' => e = .returned (.int .u64 U) ∧ ∃ m, w' = (w.alloc (.cells #[.int .u64 hi, .int .u64 lo, .int .i64 s] 116)).drewN m := by
  refine (uscale_at X x hi lo s U _ _ hX h2 hx h63 hh hl hs hU ?_ ?_ ?_).mono ?_
  · show (w.alloc _).cell? _ = _
    rw [World.cell?_alloc_at _ _ _ _ rfl]; rfl
  · show (w.alloc _).cell? _ = _
    rw [World.cell?_alloc_at _ _ _ _ rfl]; rfl
  · show (w.alloc _).cell? _ = _
    rw [World.cell?_alloc_at _ _ _ _ rfl]; rfl
  · rintro e' w' ⟨rfl, m, rfl⟩
    exact ⟨rfl, n + m, World.drewN_drewN _ _ _⟩

theorem uscale_new0 (X : Int) (x hi lo s U : Nat) (w : World) (hX : X = (x : Int)) (h2 : 2 ≤ x) (hx : x ≤ 18446744073709551615) (h63 : 9223372036854775808 ≤ hi) (hh : hi ≤ 18446744073709551615) (hl : lo ≤ 18446744073709551615) (hs : s ≤ 63) (hU : Hid (FB.usc x hi lo s = U)) :
    Calls Tryz.prog 69 #[.int .u64 X, .pointer (some ⟨w.heap.size, 0, none⟩)] (w.alloc (.cells #[.int .u64 hi, .int .u64 lo, .int .i64 s] 116)) fun e w' => e = .returned (.int .u64 U) ∧ ∃ m, w' = (w.alloc (.cells #[.int .u64 hi, .int .u64 lo, .int .i64 s] 116)).drewN m :=
  uscale_new X x hi lo s U 0 w hX h2 hx h63 hh hl hs hU

/-- The decimal that is chosen between the least and the greatest one. -/
def SEnd (U1 U2 U3 odd p d q : Int) : Prop :=
  ((U1 + odd + 3) / 4 ≤ (U2 - odd) / 4 / 10 * 10 ∧ d = (U2 - odd) / 4 / 10 ∧ q = 1 - p) ∨
  ((U2 - odd) / 4 / 10 * 10 < (U1 + odd + 3) / 4 ∧ (U1 + odd + 3) / 4 < (U2 - odd) / 4 ∧ d = (U3 + 1 + U3 / 4 % 2) / 4 ∧ q = -p) ∨
  ((U2 - odd) / 4 / 10 * 10 < (U1 + odd + 3) / 4 ∧ (U2 - odd) / 4 ≤ (U1 + odd + 3) / 4 ∧ d = (U1 + odd + 3) / 4 ∧ q = -p)

def SPost (U1 U2 U3 odd p : Int) (w : World) (e : Ending) (w' : World) : Prop :=
  ∃ d q : Int, e = .returned (.tuple #[.int .u64 d, .int .i64 q]) ∧ SEnd U1 U2 U3 odd p d q ∧ Below w.heap.size w w'

set_option maxRecDepth 100000 in
set_option maxHeartbeats 4000000 in
theorem short_normal (m : Nat) (e : Int) (w : World) (hm : 9223372036854775808 ≤ m) (hm' : m ≤ 18446744073709549568) (he : -1085 ≤ e) (he' : e ≤ 1000)
    (tst : ((m : Int) == 9223372036854775808) = false) (odd : Int) (hodd : bits .and .i64 ((m : Int) / 2048) 1 = odd) (ho0 : 0 ≤ odd) (ho1 : odd ≤ 1)
    (hw : 7 < w.heap.size) (L l : Int) (i hi lo s mn mx U1 U2 U3 : Nat) (hp : Hid ((e + 11) * 78913 / 262144 = L)) (hl : Hid ((-L) * 108853 / 32768 = l))
    (hL0 : -1000 ≤ L) (hL1 : L ≤ 1000) (hl0 : -5000 ≤ l) (hl1 : l ≤ 5000)
    (hp1 : Hid (-L + 348 = i)) (hi1 : i < 696) (h63 : 9223372036854775808 ≤ hi) (hh : hi ≤ 18446744073709551615) (hlo : lo ≤ 18446744073709551615) (hs : Hid (-(e + l + 3) = (s : Int))) (hs63 : s ≤ 63)
    (hmn : Hid ((m : Int) - 1024 = mn)) (hmx : Hid ((m : Int) + 1024 = mx)) (hm2 : 2 ≤ m) (hm3 : m ≤ 18446744073709551615) (hmn2 : 2 ≤ mn) (hmx2 : 2 ≤ mx) (hmn3 : mn ≤ 18446744073709551615) (hmx3 : mx ≤ 18446744073709551615)
    (hU1 : Hid (FB.usc mn hi lo s = U1)) (hU2 : Hid (FB.usc mx hi lo s = U2)) (hU3 : Hid (FB.usc m hi lo s = U3))
    (b1 : U1 ≤ 18446744073709550000) (b2 : U2 ≤ 18446744073709550000) (b3 : U3 ≤ 18446744073709550000) (b4 : 1 ≤ U2)
    (t0 : w.cell? ⟨7, i * 2, none⟩ = some (.int .u64 hi)) (t1 : w.cell? ⟨7, i * 2 + 1, none⟩ = some (.int .u64 lo)) :
    Calls Tryz.prog 43 #[.int .u64 m, .int .i64 e] w (SPost U1 U2 U3 odd (-L) w) := by
  go_enter Tryz.func43, Tryz.ntmps43
  go_wp2_with (first
    | (go_at_call 38; (with_reducible refine (log10Pow2_at _ L _ (by omega) (by omega) hp).mono ?_); rintro _ _ ⟨rfl, rfl⟩)
    | (go_at_call 68; (with_reducible refine (log2Pow10_at _ l _ (by omega) (by omega) hl).mono ?_); rintro _ _ ⟨rfl, rfl⟩)
    | (go_at_call 67; go_must ((with_reducible refine (prescale_new i hi lo s _ _ _ _ hw hp1.out hi1 (by omega) (by omega) (by omega) (by omega) hs.out t0 t1).mono ?_); rintro _ _ ⟨rfl, rfl⟩))
    | (go_at_call 69; first
        | ((with_reducible refine (uscale_new0 _ mn hi lo s U1 _ hmn.out hmn2 hmn3 h63 hh hlo hs63 hU1).mono ?_); rintro _ _ ⟨rfl, n1, rfl⟩)
        | ((with_reducible refine (uscale_new _ mx hi lo s U2 _ _ hmx.out hmx2 hmx3 h63 hh hlo hs63 hU2).mono ?_); rintro _ _ ⟨rfl, n2, rfl⟩)
        | go_must ((with_reducible refine (uscale_new _ m hi lo s U3 _ _ rfl hm2 hm3 h63 hh hlo hs63 hU3).mono ?_); rintro _ _ ⟨rfl, n3, rfl⟩))
    | (go_at_call 70; first
        | ((with_reducible refine (nudge_up _ _ _ (by omega) (by omega) ho0 ho1).mono ?_); rintro _ _ ⟨rfl, rfl⟩)
        | ((with_reducible refine (nudge_down _ _ _ (by omega) (by omega) ho0 ho1).mono ?_); rintro _ _ ⟨rfl, rfl⟩))
    | (go_at_call 71; ((with_reducible refine (ceil_any _ _ (by omega) (by omega)).mono ?_); rintro _ _ ⟨rfl, rfl⟩))
    | (go_at_call 72; ((with_reducible refine (floor_any _ _ (by omega) (by omega)).mono ?_); rintro _ _ ⟨rfl, rfl⟩))
    | (go_at_call 73; ((with_reducible refine (round_any _ _ (by omega) (by omega)).mono ?_); rintro _ _ ⟨rfl, rfl⟩))
    | fail)
  · have h1 : ((U1 : Int) + odd + 3) / 4 ≤ (U2 - odd) / 4 / 10 * 10 := by assumption
    go_ret2
    exact ⟨_, _, rfl, Or.inl ⟨h1, rfl, by omega⟩, below_drewN ((Below.refl _ _).alloc (Nat.le_refl _) _) _⟩
  · have h1 : ((U2 : Int) - odd) / 4 / 10 * 10 < (U1 + odd + 3) / 4 := by assumption
    have h2 : ((U1 : Int) + odd + 3) / 4 < (U2 - odd) / 4 := by assumption
    go_ret2
    exact ⟨_, _, rfl, Or.inr (Or.inl ⟨h1, h2, rfl, by omega⟩), below_drewN ((Below.refl _ _).alloc (Nat.le_refl _) _) _⟩
  · have h1 : ((U2 : Int) - odd) / 4 / 10 * 10 < (U1 + odd + 3) / 4 := by assumption
    have h2 : ((U2 : Int) - odd) / 4 ≤ (U1 + odd + 3) / 4 := by assumption
    go_ret2
    exact ⟨_, _, rfl, Or.inr (Or.inr ⟨h1, h2, rfl, by omega⟩), below_drewN ((Below.refl _ _).alloc (Nat.le_refl _) _) _⟩

set_option maxRecDepth 100000 in
set_option maxHeartbeats 4000000 in
theorem short_least (m : Nat) (e : Int) (w : World) (hm : 9223372036854775808 ≤ m) (hm' : m ≤ 18446744073709549568) (he : -1085 ≤ e) (he' : e ≤ 1000) (he2 : ¬ -1085 < e)
    (tst : ((m : Int) == 9223372036854775808) = true) (odd : Int) (hodd : bits .and .i64 ((m : Int) / 2048) 1 = odd) (ho0 : 0 ≤ odd) (ho1 : odd ≤ 1)
    (hw : 7 < w.heap.size) (L l : Int) (i hi lo s mn mx U1 U2 U3 : Nat) (hp : Hid ((e + 11) * 78913 / 262144 = L)) (hl : Hid ((-L) * 108853 / 32768 = l))
    (hL0 : -1000 ≤ L) (hL1 : L ≤ 1000) (hl0 : -5000 ≤ l) (hl1 : l ≤ 5000)
    (hp1 : Hid (-L + 348 = i)) (hi1 : i < 696) (h63 : 9223372036854775808 ≤ hi) (hh : hi ≤ 18446744073709551615) (hlo : lo ≤ 18446744073709551615) (hs : Hid (-(e + l + 3) = (s : Int))) (hs63 : s ≤ 63)
    (hmn : Hid ((m : Int) - 1024 = mn)) (hmx : Hid ((m : Int) + 1024 = mx)) (hm2 : 2 ≤ m) (hm3 : m ≤ 18446744073709551615) (hmn2 : 2 ≤ mn) (hmx2 : 2 ≤ mx) (hmn3 : mn ≤ 18446744073709551615) (hmx3 : mx ≤ 18446744073709551615)
    (hU1 : Hid (FB.usc mn hi lo s = U1)) (hU2 : Hid (FB.usc mx hi lo s = U2)) (hU3 : Hid (FB.usc m hi lo s = U3))
    (b1 : U1 ≤ 18446744073709550000) (b2 : U2 ≤ 18446744073709550000) (b3 : U3 ≤ 18446744073709550000) (b4 : 1 ≤ U2)
    (t0 : w.cell? ⟨7, i * 2, none⟩ = some (.int .u64 hi)) (t1 : w.cell? ⟨7, i * 2 + 1, none⟩ = some (.int .u64 lo)) :
    Calls Tryz.prog 43 #[.int .u64 m, .int .i64 e] w (SPost U1 U2 U3 odd (-L) w) := by
  go_enter Tryz.func43, Tryz.ntmps43
  go_wp2_with (first
    | (go_at_call 38; (with_reducible refine (log10Pow2_at _ L _ (by omega) (by omega) hp).mono ?_); rintro _ _ ⟨rfl, rfl⟩)
    | (go_at_call 68; (with_reducible refine (log2Pow10_at _ l _ (by omega) (by omega) hl).mono ?_); rintro _ _ ⟨rfl, rfl⟩)
    | (go_at_call 67; go_must ((with_reducible refine (prescale_new i hi lo s _ _ _ _ hw hp1.out hi1 (by omega) (by omega) (by omega) (by omega) hs.out t0 t1).mono ?_); rintro _ _ ⟨rfl, rfl⟩))
    | (go_at_call 69; first
        | ((with_reducible refine (uscale_new0 _ mn hi lo s U1 _ hmn.out hmn2 hmn3 h63 hh hlo hs63 hU1).mono ?_); rintro _ _ ⟨rfl, n1, rfl⟩)
        | ((with_reducible refine (uscale_new _ mx hi lo s U2 _ _ hmx.out hmx2 hmx3 h63 hh hlo hs63 hU2).mono ?_); rintro _ _ ⟨rfl, n2, rfl⟩)
        | go_must ((with_reducible refine (uscale_new _ m hi lo s U3 _ _ rfl hm2 hm3 h63 hh hlo hs63 hU3).mono ?_); rintro _ _ ⟨rfl, n3, rfl⟩))
    | (go_at_call 70; first
        | ((with_reducible refine (nudge_up _ _ _ (by omega) (by omega) ho0 ho1).mono ?_); rintro _ _ ⟨rfl, rfl⟩)
        | ((with_reducible refine (nudge_down _ _ _ (by omega) (by omega) ho0 ho1).mono ?_); rintro _ _ ⟨rfl, rfl⟩))
    | (go_at_call 71; ((with_reducible refine (ceil_any _ _ (by omega) (by omega)).mono ?_); rintro _ _ ⟨rfl, rfl⟩))
    | (go_at_call 72; ((with_reducible refine (floor_any _ _ (by omega) (by omega)).mono ?_); rintro _ _ ⟨rfl, rfl⟩))
    | (go_at_call 73; ((with_reducible refine (round_any _ _ (by omega) (by omega)).mono ?_); rintro _ _ ⟨rfl, rfl⟩))
    | fail)
  · have h1 : ((U1 : Int) + odd + 3) / 4 ≤ (U2 - odd) / 4 / 10 * 10 := by assumption
    go_ret2
    exact ⟨_, _, rfl, Or.inl ⟨h1, rfl, by omega⟩, below_drewN ((Below.refl _ _).alloc (Nat.le_refl _) _) _⟩
  · have h1 : ((U2 : Int) - odd) / 4 / 10 * 10 < (U1 + odd + 3) / 4 := by assumption
    have h2 : ((U1 : Int) + odd + 3) / 4 < (U2 - odd) / 4 := by assumption
    go_ret2
    exact ⟨_, _, rfl, Or.inr (Or.inl ⟨h1, h2, rfl, by omega⟩), below_drewN ((Below.refl _ _).alloc (Nat.le_refl _) _) _⟩
  · have h1 : ((U2 : Int) - odd) / 4 / 10 * 10 < (U1 + odd + 3) / 4 := by assumption
    have h2 : ((U2 : Int) - odd) / 4 ≤ (U1 + odd + 3) / 4 := by assumption
    go_ret2
    exact ⟨_, _, rfl, Or.inr (Or.inr ⟨h1, h2, rfl, by omega⟩), below_drewN ((Below.refl _ _).alloc (Nat.le_refl _) _) _⟩

set_option maxRecDepth 100000 in
set_option maxHeartbeats 4000000 in
theorem short_skew (m : Nat) (e : Int) (w : World) (hm : 9223372036854775808 ≤ m) (hm' : m ≤ 18446744073709549568) (he : -1085 ≤ e) (he' : e ≤ 1000)
    (he2 : -1085 < e) (tst : ((m : Int) == 9223372036854775808) = true) (odd : Int) (hodd : bits .and .i64 ((m : Int) / 2048) 1 = odd) (ho0 : 0 ≤ odd) (ho1 : odd ≤ 1)
    (hw : 7 < w.heap.size) (L l : Int) (i hi lo s mn mx U1 U2 U3 : Nat) (hp : Hid (((e + 11) * 631305 - 261663) / 2097152 = L)) (hl : Hid ((-L) * 108853 / 32768 = l))
    (hL0 : -1000 ≤ L) (hL1 : L ≤ 1000) (hl0 : -5000 ≤ l) (hl1 : l ≤ 5000)
    (hp1 : Hid (-L + 348 = i)) (hi1 : i < 696) (h63 : 9223372036854775808 ≤ hi) (hh : hi ≤ 18446744073709551615) (hlo : lo ≤ 18446744073709551615) (hs : Hid (-(e + l + 3) = (s : Int))) (hs63 : s ≤ 63)
    (hmn : Hid ((m : Int) - 512 = mn)) (hmx : Hid ((m : Int) + 1024 = mx)) (hm2 : 2 ≤ m) (hm3 : m ≤ 18446744073709551615) (hmn2 : 2 ≤ mn) (hmx2 : 2 ≤ mx) (hmn3 : mn ≤ 18446744073709551615) (hmx3 : mx ≤ 18446744073709551615)
    (hU1 : Hid (FB.usc mn hi lo s = U1)) (hU2 : Hid (FB.usc mx hi lo s = U2)) (hU3 : Hid (FB.usc m hi lo s = U3))
    (b1 : U1 ≤ 18446744073709550000) (b2 : U2 ≤ 18446744073709550000) (b3 : U3 ≤ 18446744073709550000) (b4 : 1 ≤ U2)
    (t0 : w.cell? ⟨7, i * 2, none⟩ = some (.int .u64 hi)) (t1 : w.cell? ⟨7, i * 2 + 1, none⟩ = some (.int .u64 lo)) :
    Calls Tryz.prog 43 #[.int .u64 m, .int .i64 e] w (SPost U1 U2 U3 odd (-L) w) := by
  go_enter Tryz.func43, Tryz.ntmps43
  go_wp2_with (first
    | (go_at_call 66; (with_reducible refine (skewed_at _ L _ (by omega) (by omega) hp).mono ?_); rintro _ _ ⟨rfl, rfl⟩)
    | (go_at_call 68; (with_reducible refine (log2Pow10_at _ l _ (by omega) (by omega) hl).mono ?_); rintro _ _ ⟨rfl, rfl⟩)
    | (go_at_call 67; go_must ((with_reducible refine (prescale_new i hi lo s _ _ _ _ hw hp1.out hi1 (by omega) (by omega) (by omega) (by omega) hs.out t0 t1).mono ?_); rintro _ _ ⟨rfl, rfl⟩))
    | (go_at_call 69; first
        | ((with_reducible refine (uscale_new0 _ mn hi lo s U1 _ hmn.out hmn2 hmn3 h63 hh hlo hs63 hU1).mono ?_); rintro _ _ ⟨rfl, n1, rfl⟩)
        | ((with_reducible refine (uscale_new _ mx hi lo s U2 _ _ hmx.out hmx2 hmx3 h63 hh hlo hs63 hU2).mono ?_); rintro _ _ ⟨rfl, n2, rfl⟩)
        | go_must ((with_reducible refine (uscale_new _ m hi lo s U3 _ _ rfl hm2 hm3 h63 hh hlo hs63 hU3).mono ?_); rintro _ _ ⟨rfl, n3, rfl⟩))
    | (go_at_call 70; first
        | ((with_reducible refine (nudge_up _ _ _ (by omega) (by omega) ho0 ho1).mono ?_); rintro _ _ ⟨rfl, rfl⟩)
        | ((with_reducible refine (nudge_down _ _ _ (by omega) (by omega) ho0 ho1).mono ?_); rintro _ _ ⟨rfl, rfl⟩))
    | (go_at_call 71; ((with_reducible refine (ceil_any _ _ (by omega) (by omega)).mono ?_); rintro _ _ ⟨rfl, rfl⟩))
    | (go_at_call 72; ((with_reducible refine (floor_any _ _ (by omega) (by omega)).mono ?_); rintro _ _ ⟨rfl, rfl⟩))
    | (go_at_call 73; ((with_reducible refine (round_any _ _ (by omega) (by omega)).mono ?_); rintro _ _ ⟨rfl, rfl⟩))
    | fail)
  · have h1 : ((U1 : Int) + odd + 3) / 4 ≤ (U2 - odd) / 4 / 10 * 10 := by assumption
    go_ret2
    exact ⟨_, _, rfl, Or.inl ⟨h1, rfl, by omega⟩, below_drewN ((Below.refl _ _).alloc (Nat.le_refl _) _) _⟩
  · have h1 : ((U2 : Int) - odd) / 4 / 10 * 10 < (U1 + odd + 3) / 4 := by assumption
    have h2 : ((U1 : Int) + odd + 3) / 4 < (U2 - odd) / 4 := by assumption
    go_ret2
    exact ⟨_, _, rfl, Or.inr (Or.inl ⟨h1, h2, rfl, by omega⟩), below_drewN ((Below.refl _ _).alloc (Nat.le_refl _) _) _⟩
  · have h1 : ((U2 : Int) - odd) / 4 / 10 * 10 < (U1 + odd + 3) / 4 := by assumption
    have h2 : ((U2 : Int) - odd) / 4 ≤ (U1 + odd + 3) / 4 := by assumption
    go_ret2
    exact ⟨_, _, rfl, Or.inr (Or.inr ⟨h1, h2, rfl, by omega⟩), below_drewN ((Below.refl _ _).alloc (Nat.le_refl _) _) _⟩


end Go.Proofs.YtdjjgnplpjoabaaGreatDoor
