/- A float is formatted as the shortest decimal without an exponent; its conditions: it is finite, and the tables are as the text lays them. -/
import Derived.Test.YtdjjgnplpjoabaaGreatDoorW7
import Derived.Test.YtdjjgnplpjoabaaGreatDoorWords
import Derived.Deep.DeepCutAuto
namespace Go.Proofs.YtdjjgnplpjoabaaGreatDoor
open Go.RowKit

def sgn (neg : Bool) : List Int := if neg then [45] else []
/-- The text of a decimal of nd digits with its point behind the dp-th. -/
def body (D : Nat → Int) (nd : Nat) (dp : Int) : List Int :=
  if dp ≤ 0 then [48, 46] ++ (List.replicate (-dp).toNat 48 ++ digs D 0 nd)
  else if dp < nd then digs D 0 dp.toNat ++ 46 :: digs D dp.toNat (nd - dp.toNat)
  else digs D 0 nd ++ List.replicate (dp.toNat - nd) 48

theorem fmt_any (neg : Bool) (B b nd : Nat) (dp q : Int) (cs : Array Value) (D : Nat → Int) (v0 : Value) (w0 w : World) (hnd1 : 1 ≤ nd) (hnd2 : nd ≤ 17) (hdp1 : -700 ≤ dp) (hdp2 : dp ≤ 700) (hq : q = max ((nd : Int) - dp) 0)
    (hD : ∀ j, j < nd → cs[j]? = some (.int .u8 (D j))) (h : Dst B b cs w0 w v0 []) :
    Calls Tryz.prog 33 #[v0, .bool neg, .slice (some ⟨b, 0, none⟩) 32 32, .int .i64 dp, .int .i64 nd, .int .i64 q, .int .u8 102, .bool true] w (Wrote B b cs (sgn neg ++ body D nd dp) w0) := by
  by_cases h1 : dp ≤ 0
  · obtain ⟨y, rfl⟩ : ∃ y : Nat, dp = -(y : Int) := ⟨(-dp).toNat, by omega⟩
    obtain ⟨qn, rfl⟩ : ∃ n : Nat, q = n := ⟨q.toNat, by omega⟩
    have e : body D nd (-(y : Int)) = [48, 46] ++ (List.replicate y 48 ++ digs D 0 nd) := by unfold body; rw [if_pos h1]; simp
    rw [e]
    cases neg
    · exact fmt_C B b nd y qn cs D v0 w0 w hnd1 hnd2 (by omega) (Lib.hid (by omega)) (by omega) (by omega) hD h
    · exact fmt_C_neg B b nd y qn cs D v0 w0 w hnd1 hnd2 (by omega) (Lib.hid (by omega)) (by omega) (by omega) hD h
  · obtain ⟨y, rfl⟩ : ∃ y : Nat, dp = y := ⟨dp.toNat, by omega⟩
    by_cases h2 : y < nd
    · obtain ⟨qn, rfl⟩ : ∃ n : Nat, q = n := ⟨q.toNat, by omega⟩
      have e : body D nd (y : Int) = digs D 0 y ++ 46 :: digs D y qn := by
        unfold body; rw [if_neg h1, if_pos (by omega)]; simp only [Int.toNat_natCast]
        have : nd - y = qn := by omega
        rw [this]
      rw [e]
      cases neg
      · exact fmt_B B b nd y qn cs D v0 w0 w hnd2 (by omega) h2 (Lib.hid (by omega)) (by omega) hD h
      · exact fmt_B_neg B b nd y qn cs D v0 w0 w hnd2 (by omega) h2 (Lib.hid (by omega)) (by omega) hD h
    · obtain rfl : q = 0 := by omega
      have e : body D nd (y : Int) = digs D 0 nd ++ List.replicate (y - nd) 48 := by
        unfold body; rw [if_neg h1, if_neg (by omega)]; simp
      rw [e]
      cases neg
      · exact fmt_A B b nd y cs D v0 w0 w hnd2 (by omega) (by omega) (by omega) hD h
      · exact fmt_A_neg B b nd y cs D v0 w0 w hnd2 (by omega) (by omega) (by omega) hD h

theorem run_bits30 (b : Nat) (w : World) : (callFunc 30 #[.float .f64 b]).run Tryz.prog w = .ok (.value (.int .u64 b)) w := by kernel_rfl
theorem run_bits7 (b : Nat) (w : World) : (callFunc 7 #[.float .f64 b]).run Tryz.prog w = .ok (.value (.int .u64 b)) w := by kernel_rfl
theorem run_bits119 (b : Nat) (w : World) : (callFunc 119 #[.int .u64 b]).run Tryz.prog w = .ok (.value (.float .f64 b)) w := by kernel_rfl
theorem run_bits16 (b : Nat) (w : World) : (callFunc 16 #[.int .u64 b]).run Tryz.prog w = .ok (.value (.float .f64 b)) w := by kernel_rfl

theorem len64_at (X : Int) (L : Nat) (w : World) (h0 : 0 ≤ X) (h1 : X ≤ 18446744073709551615) (hL : Hid (Lib.bitLen X.toNat = L)) :
    Calls Tryz.prog 34 #[.int .u64 X] w fun e w' => e = .returned (.int .i64 L) ∧ w = w' :=
  (Tryz.bits_Len64 X w h0 h1).mono fun _ _ h => ⟨by rw [h.1, hL.out], h.2.symm⟩

theorem shortFloat_at (X Y : Int) {mant : Nat} {E : Int} {z : Nat} (h : Hid (FB.Fin mant E z)) (hX : X = ((mant * 2 ^ z : Nat) : Int)) (hY : Y = E - z) (w : World) (hw : 7 < w.heap.size) (hT : Tab w) :
    Calls Tryz.prog 43 #[.int .u64 X, .int .i64 Y] w (Shortest mant E w) := by
  subst hX; subst hY
  exact shortFloat_any h.out w hw hT

/-- The tables that the printing reads. -/
structure Tabs (w : World) : Prop where
  tab : Tab w
  pow : Lib.TabIs Tryz.prog w "internal/strconv.uint64pow10" .u64 Lib.pow10Tab
  size : 24 ≤ w.heap.size

theorem Tabs.below {w w' : World} {B : Nat} (h : Tabs w) (hb : Below B w w') (hB : 24 ≤ B) : Tabs w' := by
  refine ⟨fun p h1 h2 => ?_, ?_, Nat.le_trans h.size hb.size⟩
  · obtain ⟨a, b⟩ := h.tab p h1 h2
    rw [hb.cell (p := ⟨7, _, none⟩) (by show 7 < B; omega), hb.cell (p := ⟨7, _, none⟩) (by show 7 < B; omega)]
    exact ⟨a, b⟩
  · exact var?_below hb (g := 3) (by kernel_rfl) (by omega) h.pow

theorem numDigits_at (X : Int) (d nd : Nat) (w : World) (hX : X = d) (h1 : 1 ≤ d) (h2 : d < 100000000000000000) (hT : Tabs w) (hnd : Hid (Lib.nDigits d = nd)) :
    Calls Tryz.prog 37 #[.int .u64 X] w fun e w' => e = .returned (.int .i64 nd) ∧ w = w' := by
  subst hX
  exact (Tryz.internal_strconv_numDigits d h1 (by omega) w hT.pow).mono fun _ _ h => ⟨by rw [h.1, hnd.out], h.2.symm⟩

end Go.Proofs.YtdjjgnplpjoabaaGreatDoor
