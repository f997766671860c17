/- A decimal's text is parsed as the float whose interval holds it; its conditions: the text is digits with at most one point, the tables are as the program's text lays them. -/
import Derived.Test.YtdjjgnplpjoabaaGreatDoorW15
namespace Go.Proofs.YtdjjgnplpjoabaaGreatDoor
open Go.RowKit

/-- Behind the reading of a prefix. -/
def AtofTo (r n : Nat) (w : World) (e : Ending) (w' : World) : Prop := e = .returned (.tuple #[.float .f64 r, .int .i64 n, .nilIface]) ∧ Below w.heap.size w w'

abbrev Special (s : ByteArray) : Prop := ∀ w : World, Calls Tryz.prog 110 #[.string s] w fun e w' => e = .returned (.tuple #[.float .f64 0, .int .i64 0, .bool false]) ∧ w = w'
abbrev ReadsTo (s : ByteArray) (d n : Nat) (p : Int) : Prop := ∀ w : World, Calls Tryz.prog 111 #[.string s] w fun e w' => e = .returned (.tuple #[.int .u64 d, .int .i64 p, .bool false, .bool false, .bool false, .int .i64 n, .bool true]) ∧ w = w'

set_option maxRecDepth 100000 in
set_option maxHeartbeats 1000000 in
theorem atof_A (s : ByteArray) (n d : Nat) (p : Int) (w : World) (hsp : Hid (Special s)) (hrd : Hid (ReadsTo s d n p)) (ho : w.cell? ⟨2, 0, none⟩ = some (.bool true)) (hd0 : ((d : Int) == 0) = true) :
    Calls Tryz.prog 96 #[.string s] w (AtofTo 0 n w) := by
  have hd : ∀ w : World, (callFunc 119 #[.int .u64 (bits .or .u64 (IntKind.u64.wrap (b2i false * 9223372036854775808)) 0)]).run Tryz.prog w = .ok (.value (.float .f64 0)) w := by
    intro w
    have hz : bits .or .u64 (IntKind.u64.wrap (b2i false * 9223372036854775808)) 0 = ((0 : Nat) : Int) := by decide
    rw [hz]
    exact run_bits119 0 w
  go_enter Tryz.func96, Tryz.ntmps96
  go_wp2_with (first | (go_at_call 110; (with_reducible refine (hsp.out _).mono ?_); rintro _ _ ⟨rfl, rfl⟩) | (go_at_call 111; (with_reducible refine (hrd.out _).mono ?_); rintro _ _ ⟨rfl, rfl⟩) | (go_at_call 103; (with_reducible refine (bool2_u64 _ _).mono ?_); rintro _ _ ⟨rfl, rfl⟩) | fail)
  go_ret3
  exact ⟨rfl, Below.refl _ _⟩

set_option maxRecDepth 100000 in
set_option maxHeartbeats 1000000 in
theorem atof_B (s : ByteArray) (n d r : Nat) (p : Int) (w : World) (hsp : Hid (Special s)) (hrd : Hid (ReadsTo s d n p)) (ho : w.cell? ⟨2, 0, none⟩ = some (.bool true)) (hd : ((d : Int) == 0) = false)
    (hp1 : ¬ 310 < p) (hp2 : ¬ p < -345) (hx : Hid (∀ w' : World, w = w' → Calls Tryz.prog 120 #[.int .u64 d, .int .i64 p, .bool false] w' fun e w' => e = .returned (.tuple #[.float .f64 r, .bool true]) ∧ w = w')) :
    Calls Tryz.prog 96 #[.string s] w (AtofTo r n w) := by
  go_enter Tryz.func96, Tryz.ntmps96
  go_wp2_with (first | (go_at_call 110; (with_reducible refine (hsp.out _).mono ?_); rintro _ _ ⟨rfl, rfl⟩) | (go_at_call 111; (with_reducible refine (hrd.out _).mono ?_); rintro _ _ ⟨rfl, rfl⟩) | (go_at_call 103; (with_reducible refine (bool2_u64 _ _).mono ?_); rintro _ _ ⟨rfl, rfl⟩) | (go_at_call 120; (with_reducible refine (hx.out _ rfl).mono ?_); rintro _ _ ⟨rfl, rfl⟩) | fail)
  go_ret3
  exact ⟨rfl, Below.refl _ _⟩

set_option maxRecDepth 100000 in
set_option maxHeartbeats 1000000 in
theorem atof_C (s : ByteArray) (n d r : Nat) (p : Int) (w : World) (hsp : Hid (Special s)) (hrd : Hid (ReadsTo s d n p)) (ho : w.cell? ⟨2, 0, none⟩ = some (.bool true)) (hd : ((d : Int) == 0) = false)
    (hp1 : ¬ 310 < p) (hp2 : ¬ p < -345) (hx : Hid (∀ w' : World, w = w' → Calls Tryz.prog 120 #[.int .u64 d, .int .i64 p, .bool false] w' (NotExact w)))
    (hy : Hid (∀ w' : World, w = w' → Calls Tryz.prog 121 #[.int .u64 d, .int .i64 p, .int .u64 (IntKind.u64.wrap (b2i false * 9223372036854775808))] w' (Parsed r w))) :
    Calls Tryz.prog 96 #[.string s] w (AtofTo r n w) := by
  go_enter Tryz.func96, Tryz.ntmps96
  go_wp2_with (first | (go_at_call 110; (with_reducible refine (hsp.out _).mono ?_); rintro _ _ ⟨rfl, rfl⟩) | (go_at_call 111; (with_reducible refine (hrd.out _).mono ?_); rintro _ _ ⟨rfl, rfl⟩) | (go_at_call 103; (with_reducible refine (bool2_u64 _ _).mono ?_); rintro _ _ ⟨rfl, rfl⟩) | (go_at_call 120; (with_reducible refine (hx.out _ rfl).mono ?_); rintro _ _ ⟨f, rfl, rfl⟩) | (go_at_call 121; (with_reducible refine (hy.out _ rfl).mono ?_); rintro _ wx ⟨rfl, hbel⟩) | fail)
  go_ret3
  exact ⟨rfl, hbel⟩

theorem atof_zero (s : ByteArray) (w : World) (hs : Dec s) (h1 : (FB.RF.run (nats s)).mant = 0) (h2 : (FB.RF.run (nats s)).trunc = false) (hT : RTabs w) :
    Calls Tryz.prog 96 #[.string s] w (AtofTo 0 s.size w) := by
  have h0 := hs.head hs.size1
  have h9 := hs.char 0 hs.size1
  refine atof_A s s.size 0 (FB.RF.run (nats s)).exp w (fun w => special_any s w hs.size1 hs.size2 _ rfl h0 (by omega)) (fun w => ?_) hT.opt (by decide)
  have := readFloat_any s w hs
  unfold ReadTo at this
  rw [h1, h2] at this
  exact this

theorem atof_any {mant : Nat} {E : Int} {z : Nat} (h : FB.Fin mant E z) (s : ByteArray) (w : World) (hs : Dec s) (d : Nat) (p : Int) (h1 : (FB.RF.run (nats s)).mant = d) (h2 : (FB.RF.run (nats s)).exp = p)
    (h3 : (FB.RF.run (nats s)).trunc = false) (hd1 : 1 ≤ d) (hd2 : d < 2 ^ 64) (hp1 : -330 ≤ p) (hp2 : p < 310) (hn : FB.Near mant E (d * 10 ^ p))
    (hg : ∀ k, 2 ^ 63 ≤ d * 2 ^ k → d * 2 ^ k < 2 ^ 64 → FB.Gap p (d * 2 ^ k)) (hpos : 0 < p → 2 ^ 52 ≤ d) (hT : RTabs w) :
    Calls Tryz.prog 96 #[.string s] w (AtofTo (FB.fw mant E) s.size w) := by
  have h0 := hs.head hs.size1
  have h9 := hs.char 0 hs.size1
  have hsp : Hid (Special s) := fun w => special_any s w hs.size1 hs.size2 _ rfl h0 (by omega)
  have hrd : Hid (ReadsTo s d s.size p) := fun w => by
    have := readFloat_any s w hs
    unfold ReadTo at this
    rw [h1, h2, h3] at this
    exact this
  have hd0 : ((d : Int) == 0) = false := by rw [beq_eq_false_iff_ne]; omega
  have hsz := hT.size
  have hy : Hid (∀ w' : World, w = w' → Calls Tryz.prog 121 #[.int .u64 d, .int .i64 p, .int .u64 (IntKind.u64.wrap (b2i false * 9223372036854775808))] w' (Parsed (FB.fw mant E) w)) := by
    rintro w' rfl
    exact parse64_any h d p w hd1 hd2 hp1 (by omega) hn hg (by omega) hT.tab
  by_cases hbig : 2 ^ 52 ≤ d
  · refine atof_C s s.size d (FB.fw mant E) p w hsp hrd hT.opt hd0 (by omega) (by omega) ?_ hy
    rintro w' rfl
    refine (exact_big d p w hT.info ?_).mono ?_
    · rw [bne_iff_ne]; omega
    · rintro _ _ ⟨rfl, rfl⟩; exact ⟨_, rfl, rfl⟩
  · have hb0 : ((d : Int) / 4503599627370496 != 0) = false := by rw [bne_eq_false_iff_eq]; omega
    have hp0 : ¬ 0 < p := fun hh => hbig (hpos hh)
    by_cases hpz : p = 0
    · subst hpz
      refine atof_B s s.size d (FB.fw mant E) 0 w hsp hrd hT.opt hd0 (by omega) (by omega) ?_
      rintro w' rfl
      have e : Ieee.double.nearest false d 0 = FB.fw mant E := by
        rw [FB.nearest_near h d 0 (by omega) hn false]
        rfl
      rw [← e]
      exact exact_zero d w hT.info hb0
    · by_cases hp22 : -22 ≤ p
      · obtain ⟨k, rfl⟩ : ∃ k : Nat, p = -(k : Int) := ⟨(-p).toNat, by omega⟩
        obtain ⟨g, off, t1, t2⟩ := hT.ten
        obtain ⟨m, i, r1, e1, m0⟩ := FB.whole_read d hd1 (by omega)
        obtain ⟨n, j, r2, e2, n0⟩ := FB.ten_read k (by omega)
        refine atof_B s s.size d (FB.fw mant E) _ w hsp hrd hT.opt hd0 (by omega) (by omega) ?_
        rintro w' rfl
        refine exact_div d k (FB.fw mant E) g off _ w hT.info hb0 (by omega) (by omega) ?_ (by omega) (by omega) (by omega) (by omega) t1 _ (t2 k (by omega)) (FB.div_near h _ _ m n i j r1 r2 m0 n0 ?_)
        · rw [beq_eq_false_iff_ne]; omega
        · rw [e1, e2]
          have : (d : Rat) / 10 ^ (k : Int) = d * 10 ^ (-(k : Int)) := by rw [Rat.div_def, Rat.zpow_neg]
          rw [this]; exact hn
      · refine atof_C s s.size d (FB.fw mant E) p w hsp hrd hT.opt hd0 (by omega) (by omega) ?_ hy
        rintro w' rfl
        exact exact_no d p w hT.info hb0 (by rw [beq_eq_false_iff_ne]; exact hpz) hp0 (by omega) hp22

set_option maxRecDepth 100000 in
set_option maxHeartbeats 1000000 in
theorem prefix_any (s : ByteArray) (r n : Nat) (w : World) (h : Hid (∀ w' : World, w = w' → Calls Tryz.prog 96 #[.string s] w' (AtofTo r n w))) :
    Calls Tryz.prog 58 #[.string s, .int .i64 64] w (AtofTo r n w) := by
  go_enter Tryz.func58, Tryz.ntmps58
  go_wp2_with (first | (go_at_call 96; (with_reducible refine (h.out _ rfl).mono ?_); rintro _ wx ⟨rfl, hbel⟩) | fail)
  go_ret3
  exact ⟨rfl, hbel⟩

set_option maxRecDepth 100000 in
set_option maxHeartbeats 1000000 in
theorem parseInt_any (s : ByteArray) (r : Nat) (w : World) (h : Hid (∀ w' : World, w = w' → Calls Tryz.prog 58 #[.string s, .int .i64 64] w' (AtofTo r s.size w))) :
    Calls Tryz.prog 27 #[.string s, .int .i64 64] w (Parsed r w) := by
  go_enter Tryz.func27, Tryz.ntmps27
  go_wp2_with (first | (go_at_call 58; (with_reducible refine (h.out _ rfl).mono ?_); rintro _ wx ⟨rfl, hbel⟩) | fail)
  go_ret2
  exact ⟨rfl, hbel⟩

set_option maxRecDepth 100000 in
set_option maxHeartbeats 1000000 in
theorem parseOut_any (s : ByteArray) (r : Nat) (w : World) (h : Hid (∀ w' : World, w = w' → Calls Tryz.prog 27 #[.string s, .int .i64 64] w' (Parsed r w))) :
    Calls Tryz.prog 19 #[.string s, .int .i64 64] w (Parsed r w) := by
  go_enter Tryz.func19, Tryz.ntmps19
  go_wp2_with (first | (go_at_call 27; (with_reducible refine (h.out _ rfl).mono ?_); rintro _ wx ⟨rfl, hbel⟩) | fail)
  go_ret2
  exact ⟨rfl, hbel⟩

/-- THE PARSING OF A DECIMAL's TEXT, from its reading. -/
theorem parseFloat_any (s : ByteArray) (r : Nat) (w : World) (h : Calls Tryz.prog 96 #[.string s] w (AtofTo r s.size w)) :
    Calls Tryz.prog 19 #[.string s, .int .i64 64] w (Parsed r w) := by
  refine parseOut_any s r w ?_
  rintro w' rfl
  refine parseInt_any s r w ?_
  rintro w' rfl
  refine prefix_any s r s.size w ?_
  rintro w' rfl
  exact h

end Go.Proofs.YtdjjgnplpjoabaaGreatDoor
