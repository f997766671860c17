/- A decimal's text is read into its leading digits and an exponent; its conditions: digits and at most one point, at most 1000 bytes, a digit ahead. -/
import Derived.Test.YtdjjgnplpjoabaaGreatDoorW1
import Derived.Test.YtdjjgnplpjoabaaGreatDoorRead
namespace Go.Proofs.YtdjjgnplpjoabaaGreatDoor
open Go.RowKit

/-- The bytes of a text as numbers. -/
def nats (s : ByteArray) : List Nat := s.data.toList.map UInt8.toNat

theorem nats_length (s : ByteArray) : (nats s).length = s.size := by
  unfold nats
  rw [List.length_map]
  rfl
theorem nats_take (s : ByteArray) (k : Nat) (h : k < s.size) : (nats s).take (k + 1) = (nats s).take k ++ [s[k].toNat] := by
  have h' : k < (nats s).length := by rw [nats_length]; exact h
  rw [List.take_succ_eq_append_getElem h']
  simp only [nats, List.getElem_map]
  rfl

theorem lower_any (c : Int) (w : World) : Calls Tryz.prog 65 #[.int .u8 c] w fun e w' => e = .returned (.int .u8 (bits .or .u8 c 32)) ∧ w = w' :=
  (Tryz.internal_strconv_lower c w).mono fun _ _ h => ⟨h.1, h.2.symm⟩

/-- A decimal's bytes. -/
structure Dec (s : ByteArray) : Prop where
  size1 : 1 ≤ s.size
  size2 : s.size ≤ 1000
  chars : ∀ c ∈ nats s, c = 46 ∨ 48 ≤ c ∧ c ≤ 57
  head : ∀ h : 0 < s.size, 48 ≤ s[0].toNat
  once : ∀ k (h : k < s.size), s[k].toNat = 46 → (FB.RF.run ((nats s).take k)).dot = false

theorem Dec.char {s : ByteArray} (h : Dec s) (k : Nat) (hk : k < s.size) : s[k].toNat = 46 ∨ 48 ≤ s[k].toNat ∧ s[k].toNat ≤ 57 := by
  refine h.chars _ ?_
  have h' : k < (nats s).length := by rw [nats_length]; exact hk
  have e : (nats s)[k] = s[k].toNat := by simp only [nats, List.getElem_map]; rfl
  rw [← e]
  exact List.getElem_mem h'

theorem Dec.ok {s : ByteArray} (h : Dec s) (k : Nat) (hk : k ≤ s.size) : (FB.RF.run ((nats s).take k)).Ok k := by
  have := FB.RF.run_ok ((nats s).take k) (fun c hc => h.chars c (List.mem_of_mem_take hc))
  rw [List.length_take, nats_length, Nat.min_eq_left hk] at this
  exact this

theorem or_lower (c : Nat) (h : c = 46 ∨ 48 ≤ c ∧ c ≤ 57) : bits .or .u8 (c : Int) 32 = c := by
  have : c = 46 ∨ c = 48 ∨ c = 49 ∨ c = 50 ∨ c = 51 ∨ c = 52 ∨ c = 53 ∨ c = 54 ∨ c = 55 ∨ c = 56 ∨ c = 57 := by omega
  rcases this with h | h | h | h | h | h | h | h | h | h | h <;> subst h <;> decide

/-- The state of the reading at the k-th byte. -/
def RFIs (s : ByteArray) (k m nd ndm : Nat) (dp : Int) (tr dt : Bool) : Prop := FB.RF.run ((nats s).take k) = ⟨m, nd, ndm, dp, tr, dt⟩

/-- One byte further. -/
theorem rfIs_step {s : ByteArray} {k m nd ndm : Nat} {dp : Int} {tr dt : Bool} (h : k < s.size) (hS : RFIs s k m nd ndm dp tr dt) {c : Nat} (hc : s[k].toNat = c) {m' nd' ndm' : Nat} {dp' : Int} {tr' dt' : Bool}
    (he : (⟨m, nd, ndm, dp, tr, dt⟩ : FB.RF).step c = ⟨m', nd', ndm', dp', tr', dt'⟩) : RFIs s (k + 1) m' nd' ndm' dp' tr' dt' := by
  unfold RFIs
  rw [nats_take s k h, FB.RF.run_snoc, hS, hc]
  exact he

/-- What the reading is good for. -/
def ReadTo (s : ByteArray) (w : World) (e : Ending) (w' : World) : Prop :=
  e = .returned (.tuple #[.int .u64 (FB.RF.run (nats s)).mant, .int .i64 (FB.RF.run (nats s)).exp, .bool false, .bool (FB.RF.run (nats s)).trunc, .bool false, .int .i64 s.size, .bool true]) ∧ w = w'

set_option maxRecDepth 100000 in
set_option maxHeartbeats 4000000 in
theorem readFloat_A (s : ByteArray) (w : World) (hs : Hid (Dec s)) (hs1 : 1 ≤ s.size) (hs2 : s.size ≤ 1000) (c0 : Nat) (h0 : (s[0]'(by omega)).toNat = c0) (h01 : 48 ≤ c0) (h02 : c0 ≤ 57) (h2 : ¬ 2 < s.size) :
    Calls Tryz.prog 111 #[.string s] w (ReadTo s w) := by
  have t1 : ((c0 : Int) == 43) = false := by rw [beq_eq_false_iff_ne]; omega
  have t2 : ((c0 : Int) == 45) = false := by rw [beq_eq_false_iff_ne]; omega
  have hpos : 0 < s.size := by omega
  have hne : ¬ s = ByteArray.empty := fun h => by subst h; simp at hpos
  go_enter Tryz.func111, Tryz.ntmps111
  go_wp2
  go_step3
  go_wp2_with (go_at_call 65; (with_reducible refine (lower_any _ _).mono ?_); rintro _ _ ⟨rfl, rfl⟩)
  go_step3
  go_wp2
  clear t1 t2 h0 h01 h02 hne 
  go_loop [2, 5, 7, 9, 13, 14, 15, 16, 17] (fun um ut ui u9 ud ug un uq up => ∃ (k m nd ndm : Nat) (dp : Int) (tr dt : Bool), k ≤ s.size ∧ ui = .int .i64 k ∧ um = .int .u64 m ∧ ut = .bool tr ∧ u9 = .bool false ∧ ud = .bool dt ∧ ug = .bool (decide (0 < k)) ∧ un = .int .i64 nd ∧ uq = .int .i64 ndm ∧ up = .int .i64 dp ∧ Hid (RFIs s k m nd ndm dp tr dt)) (fun _ _ i _ _ _ _ _ _ => s.size - (intOf i).toNat)
  case atStart => exact ⟨0, 0, 0, 0, 0, false, false, Nat.zero_le _, rfl, rfl, rfl, rfl, rfl, rfl, rfl, rfl, rfl, rfl⟩
  case round =>
    obtain ⟨k, m, nd, ndm, dp, tr, dt, hk, rfl, rfl, rfl, rfl, rfl, rfl, rfl, rfl, rfl, HS⟩ := hrel
    have hok := hs.out.ok k hk
    rw [HS.out] at hok
    have b1 : ndm ≤ 19 := hok.n
    have b2 : nd ≤ k := hok.le
    have b3 : -(k : Int) ≤ dp := hok.p1
    have b4 : dp ≤ k := hok.p2
    have b5 : ndm ≤ nd := hok.d
    have hm0 : m < 10 ^ ndm := hok.m
    by_cases hlt : k < s.size
    · have hch := hs.out.char k hlt
      have hon := hs.out.once k hlt
      rw [HS.out] at hon
      obtain ⟨c, hc⟩ : ∃ c, s[k].toNat = c := ⟨_, rfl⟩
      rw [hc] at hch hon
      have HC := Lib.hid hc
      have b6 : ndm < 19 → m ≤ 999999999999999999 := fun h => by
        have : 10 ^ ndm ≤ 10 ^ 18 := Nat.pow_le_pow_right (by decide) (by omega)
        omega
      clear hok hm0
      rcases hch with rfl | ⟨l1, l2⟩
      · obtain rfl : dt = false := hon rfl
        clear hon b6
        have hk0 : 0 < k := by
          refine Nat.pos_of_ne_zero fun h => ?_
          subst h
          have := hs.out.head hpos
          omega
        go_wp2
        go_round
        case rel => exact ⟨k + 1, m, nd, ndm, (nd : Int), tr, true, by omega, by go_num, by go_num, rfl, rfl, rfl, by simp [hk0], by go_num, by go_num, by go_num, rfIs_step hlt HS.out HC.out (rfl)⟩
        case measure => simp [intOf]; omega
      · clear hon
        by_cases hc48 : c = 48
        · subst hc48
          by_cases hn0 : nd = 0
          · subst hn0
            clear b6
            go_wp2
            go_round
            case rel => exact ⟨k + 1, m, 0, ndm, dp - 1, tr, dt, by omega, by go_num, by go_num, rfl, rfl, rfl, by simp, by go_num, by go_num, by go_num, rfIs_step hlt HS.out HC.out (rfl)⟩
            case measure => simp [intOf]; omega
          · have hn1 : ((nd : Int) == 0) = false := by rw [beq_eq_false_iff_ne]; omega
            by_cases h19 : ndm < 19
            · have b7 := b6 h19
              clear b6
              go_wp2
              go_round
              case rel => exact ⟨k + 1, m * 10 + 0, nd + 1, ndm + 1, dp, tr, dt, by omega, by go_num, by go_num, rfl, rfl, rfl, by simp, by go_num, by go_num, by go_num, rfIs_step hlt HS.out HC.out (by unfold FB.RF.step; rw [if_neg (by decide), if_neg (by simp; exact hn0), if_pos h19])⟩
              case measure => simp [intOf]; omega
            · exfalso; omega
        · have hc1 : ((c : Int) == 48) = false := by rw [beq_eq_false_iff_ne]; omega
          have hc2 : ((c : Int) == 46) = false := by rw [beq_eq_false_iff_ne]; omega
          have hc3 : ((c : Int) == 95) = false := by rw [beq_eq_false_iff_ne]; omega
          by_cases h19 : ndm < 19
          · have b7 := b6 h19
            clear b6
            go_wp2
            go_round
            case rel => exact ⟨k + 1, m * 10 + (c - 48), nd + 1, ndm + 1, dp, tr, dt, by omega, by go_num, by go_num, rfl, rfl, rfl, by simp, by go_num, by go_num, by go_num, rfIs_step hlt HS.out HC.out (by unfold FB.RF.step; rw [if_neg (by omega), if_neg (by omega), if_pos h19])⟩
            case measure => simp [intOf]; omega
          · exfalso; omega
    · obtain rfl : k = s.size := by omega
      have hfull : FB.RF.run (nats s) = ⟨m, nd, ndm, dp, tr, dt⟩ := by
        have := HS.out
        unfold RFIs at this
        rwa [List.take_of_length_le (by rw [nats_length]; exact Nat.le_refl _)] at this
      have HF := Lib.hid hfull
      have hdg : decide (0 < s.size) = true := decide_eq_true hpos
      clear hfull hok
      by_cases hm : m = 0
      all_goals cases dt
      · subst hm
        go_wp2
        try rw [Exit.noGoto_ret]
        refine bodyPost_ret (v := .tuple #[.int .u64 0, .int .i64 0, .bool false, .bool tr, .bool false, .int .i64 s.size, .bool true]) (by simp [results, Tryz.results111, go_sem]) rfl ⟨?_, rfl⟩
        rw [HF.out]; rfl
      · subst hm
        go_wp2
        try rw [Exit.noGoto_ret]
        refine bodyPost_ret (v := .tuple #[.int .u64 0, .int .i64 0, .bool false, .bool tr, .bool false, .int .i64 s.size, .bool true]) (by simp [results, Tryz.results111, go_sem]) rfl ⟨?_, rfl⟩
        rw [HF.out]; rfl
      · have tm : ((m : Int) != 0) = true := by rw [bne_iff_ne]; omega
        go_wp2
        try rw [Exit.noGoto_ret]
        refine bodyPost_ret (v := .tuple #[.int .u64 m, .int .i64 ((nd : Int) - ndm), .bool false, .bool tr, .bool false, .int .i64 s.size, .bool true]) (by simp [results, Tryz.results111, go_sem]) rfl ⟨?_, rfl⟩
        rw [HF.out]; unfold FB.RF.exp; simp [hm]
      · have tm : ((m : Int) != 0) = true := by rw [bne_iff_ne]; omega
        go_wp2
        try rw [Exit.noGoto_ret]
        refine bodyPost_ret (v := .tuple #[.int .u64 m, .int .i64 (dp - ndm), .bool false, .bool tr, .bool false, .int .i64 s.size, .bool true]) (by simp [results, Tryz.results111, go_sem]) rfl ⟨?_, rfl⟩
        rw [HF.out]; unfold FB.RF.exp; simp [hm]

set_option maxRecDepth 100000 in
set_option maxHeartbeats 4000000 in
theorem readFloat_B (s : ByteArray) (w : World) (hs : Hid (Dec s)) (hs1 : 1 ≤ s.size) (hs2 : s.size ≤ 1000) (c0 : Nat) (h0 : (s[0]'(by omega)).toNat = c0) (h01 : 48 ≤ c0) (h02 : c0 ≤ 57) (hc48 : ¬ (c0 : Int) = 48) (h2 : 2 < s.size) :
    Calls Tryz.prog 111 #[.string s] w (ReadTo s w) := by
  have t1 : ((c0 : Int) == 43) = false := by rw [beq_eq_false_iff_ne]; omega
  have t2 : ((c0 : Int) == 45) = false := by rw [beq_eq_false_iff_ne]; omega
  have hpos : 0 < s.size := by omega
  have hne : ¬ s = ByteArray.empty := fun h => by subst h; simp at hpos
  go_enter Tryz.func111, Tryz.ntmps111
  go_wp2
  go_step3
  go_wp2_with (go_at_call 65; (with_reducible refine (lower_any _ _).mono ?_); rintro _ _ ⟨rfl, rfl⟩)
  go_step3
  go_wp2
  clear t1 t2 h0 h01 h02 hne hc48 h2
  go_loop [2, 5, 7, 9, 13, 14, 15, 16, 17] (fun um ut ui u9 ud ug un uq up => ∃ (k m nd ndm : Nat) (dp : Int) (tr dt : Bool), k ≤ s.size ∧ ui = .int .i64 k ∧ um = .int .u64 m ∧ ut = .bool tr ∧ u9 = .bool false ∧ ud = .bool dt ∧ ug = .bool (decide (0 < k)) ∧ un = .int .i64 nd ∧ uq = .int .i64 ndm ∧ up = .int .i64 dp ∧ Hid (RFIs s k m nd ndm dp tr dt)) (fun _ _ i _ _ _ _ _ _ => s.size - (intOf i).toNat)
  case atStart => exact ⟨0, 0, 0, 0, 0, false, false, Nat.zero_le _, rfl, rfl, rfl, rfl, rfl, rfl, rfl, rfl, rfl, rfl⟩
  case round =>
    obtain ⟨k, m, nd, ndm, dp, tr, dt, hk, rfl, rfl, rfl, rfl, rfl, rfl, rfl, rfl, rfl, HS⟩ := hrel
    have hok := hs.out.ok k hk
    rw [HS.out] at hok
    have b1 : ndm ≤ 19 := hok.n
    have b2 : nd ≤ k := hok.le
    have b3 : -(k : Int) ≤ dp := hok.p1
    have b4 : dp ≤ k := hok.p2
    have b5 : ndm ≤ nd := hok.d
    have hm0 : m < 10 ^ ndm := hok.m
    by_cases hlt : k < s.size
    · have hch := hs.out.char k hlt
      have hon := hs.out.once k hlt
      rw [HS.out] at hon
      obtain ⟨c, hc⟩ : ∃ c, s[k].toNat = c := ⟨_, rfl⟩
      rw [hc] at hch hon
      have HC := Lib.hid hc
      have b6 : ndm < 19 → m ≤ 999999999999999999 := fun h => by
        have : 10 ^ ndm ≤ 10 ^ 18 := Nat.pow_le_pow_right (by decide) (by omega)
        omega
      clear hok hm0
      rcases hch with rfl | ⟨l1, l2⟩
      · obtain rfl : dt = false := hon rfl
        clear hon b6
        have hk0 : 0 < k := by
          refine Nat.pos_of_ne_zero fun h => ?_
          subst h
          have := hs.out.head hpos
          omega
        go_wp2
        go_round
        case rel => exact ⟨k + 1, m, nd, ndm, (nd : Int), tr, true, by omega, by go_num, by go_num, rfl, rfl, rfl, by simp [hk0], by go_num, by go_num, by go_num, rfIs_step hlt HS.out HC.out (rfl)⟩
        case measure => simp [intOf]; omega
      · clear hon
        by_cases hc48 : c = 48
        · subst hc48
          by_cases hn0 : nd = 0
          · subst hn0
            clear b6
            go_wp2
            go_round
            case rel => exact ⟨k + 1, m, 0, ndm, dp - 1, tr, dt, by omega, by go_num, by go_num, rfl, rfl, rfl, by simp, by go_num, by go_num, by go_num, rfIs_step hlt HS.out HC.out (rfl)⟩
            case measure => simp [intOf]; omega
          · have hn1 : ((nd : Int) == 0) = false := by rw [beq_eq_false_iff_ne]; omega
            by_cases h19 : ndm < 19
            · have b7 := b6 h19
              clear b6
              go_wp2
              go_round
              case rel => exact ⟨k + 1, m * 10 + 0, nd + 1, ndm + 1, dp, tr, dt, by omega, by go_num, by go_num, rfl, rfl, rfl, by simp, by go_num, by go_num, by go_num, rfIs_step hlt HS.out HC.out (by unfold FB.RF.step; rw [if_neg (by decide), if_neg (by simp; exact hn0), if_pos h19])⟩
              case measure => simp [intOf]; omega
            · obtain rfl : ndm = 19 := by omega
              clear b6
              go_wp2
              go_round
              case rel => exact ⟨k + 1, m, nd + 1, 19, dp, tr, dt, by omega, by go_num, by go_num, rfl, rfl, rfl, by simp, by go_num, by go_num, by go_num, rfIs_step hlt HS.out HC.out (by unfold FB.RF.step; rw [if_neg (by decide), if_neg (by simp; exact hn0), if_neg (by simp)]; simp)⟩
              case measure => simp [intOf]; omega
        · have hc1 : ((c : Int) == 48) = false := by rw [beq_eq_false_iff_ne]; omega
          have hc2 : ((c : Int) == 46) = false := by rw [beq_eq_false_iff_ne]; omega
          have hc3 : ((c : Int) == 95) = false := by rw [beq_eq_false_iff_ne]; omega
          by_cases h19 : ndm < 19
          · have b7 := b6 h19
            clear b6
            go_wp2
            go_round
            case rel => exact ⟨k + 1, m * 10 + (c - 48), nd + 1, ndm + 1, dp, tr, dt, by omega, by go_num, by go_num, rfl, rfl, rfl, by simp, by go_num, by go_num, by go_num, rfIs_step hlt HS.out HC.out (by unfold FB.RF.step; rw [if_neg (by omega), if_neg (by omega), if_pos h19])⟩
            case measure => simp [intOf]; omega
          · obtain rfl : ndm = 19 := by omega
            clear b6
            go_wp2
            go_round
            case rel => exact ⟨k + 1, m, nd + 1, 19, dp, true, dt, by omega, by go_num, by go_num, rfl, rfl, rfl, by simp, by go_num, by go_num, by go_num, rfIs_step hlt HS.out HC.out (by unfold FB.RF.step; rw [if_neg (by omega), if_neg (by omega), if_neg (by simp)]; simp; omega)⟩
            case measure => simp [intOf]; omega
    · obtain rfl : k = s.size := by omega
      have hfull : FB.RF.run (nats s) = ⟨m, nd, ndm, dp, tr, dt⟩ := by
        have := HS.out
        unfold RFIs at this
        rwa [List.take_of_length_le (by rw [nats_length]; exact Nat.le_refl _)] at this
      have HF := Lib.hid hfull
      have hdg : decide (0 < s.size) = true := decide_eq_true hpos
      clear hfull hok
      by_cases hm : m = 0
      all_goals cases dt
      · subst hm
        go_wp2
        try rw [Exit.noGoto_ret]
        refine bodyPost_ret (v := .tuple #[.int .u64 0, .int .i64 0, .bool false, .bool tr, .bool false, .int .i64 s.size, .bool true]) (by simp [results, Tryz.results111, go_sem]) rfl ⟨?_, rfl⟩
        rw [HF.out]; rfl
      · subst hm
        go_wp2
        try rw [Exit.noGoto_ret]
        refine bodyPost_ret (v := .tuple #[.int .u64 0, .int .i64 0, .bool false, .bool tr, .bool false, .int .i64 s.size, .bool true]) (by simp [results, Tryz.results111, go_sem]) rfl ⟨?_, rfl⟩
        rw [HF.out]; rfl
      · have tm : ((m : Int) != 0) = true := by rw [bne_iff_ne]; omega
        go_wp2
        try rw [Exit.noGoto_ret]
        refine bodyPost_ret (v := .tuple #[.int .u64 m, .int .i64 ((nd : Int) - ndm), .bool false, .bool tr, .bool false, .int .i64 s.size, .bool true]) (by simp [results, Tryz.results111, go_sem]) rfl ⟨?_, rfl⟩
        rw [HF.out]; unfold FB.RF.exp; simp [hm]
      · have tm : ((m : Int) != 0) = true := by rw [bne_iff_ne]; omega
        go_wp2
        try rw [Exit.noGoto_ret]
        refine bodyPost_ret (v := .tuple #[.int .u64 m, .int .i64 (dp - ndm), .bool false, .bool tr, .bool false, .int .i64 s.size, .bool true]) (by simp [results, Tryz.results111, go_sem]) rfl ⟨?_, rfl⟩
        rw [HF.out]; unfold FB.RF.exp; simp [hm]

set_option maxRecDepth 100000 in
set_option maxHeartbeats 4000000 in
theorem readFloat_C (s : ByteArray) (w : World) (hs : Hid (Dec s)) (hs1 : 1 ≤ s.size) (hs2 : s.size ≤ 1000) (c0 : Nat) (h0 : (s[0]'(by omega)).toNat = c0) (h01 : 48 ≤ c0) (h02 : c0 ≤ 57) (hc48 : c0 = 48) (h2 : 2 < s.size) (hx : (bits BinOp.or IntKind.u8 ((s[1].toNat : Nat) : Int) 32 == 120) = false) :
    Calls Tryz.prog 111 #[.string s] w (ReadTo s w) := by
  have t1 : ((c0 : Int) == 43) = false := by rw [beq_eq_false_iff_ne]; omega
  have t2 : ((c0 : Int) == 45) = false := by rw [beq_eq_false_iff_ne]; omega
  have hpos : 0 < s.size := by omega
  have hne : ¬ s = ByteArray.empty := fun h => by subst h; simp at hpos
  subst hc48
  go_enter Tryz.func111, Tryz.ntmps111
  go_wp2
  go_step3
  go_wp2_with (go_at_call 65; (with_reducible refine (lower_any _ _).mono ?_); rintro _ _ ⟨rfl, rfl⟩)
  go_step3
  go_wp2
  clear t1 t2 h0 h01 h02 hne h2 hx
  go_loop [2, 5, 7, 9, 13, 14, 15, 16, 17] (fun um ut ui u9 ud ug un uq up => ∃ (k m nd ndm : Nat) (dp : Int) (tr dt : Bool), k ≤ s.size ∧ ui = .int .i64 k ∧ um = .int .u64 m ∧ ut = .bool tr ∧ u9 = .bool false ∧ ud = .bool dt ∧ ug = .bool (decide (0 < k)) ∧ un = .int .i64 nd ∧ uq = .int .i64 ndm ∧ up = .int .i64 dp ∧ Hid (RFIs s k m nd ndm dp tr dt)) (fun _ _ i _ _ _ _ _ _ => s.size - (intOf i).toNat)
  case atStart => exact ⟨0, 0, 0, 0, 0, false, false, Nat.zero_le _, rfl, rfl, rfl, rfl, rfl, rfl, rfl, rfl, rfl, rfl⟩
  case round =>
    obtain ⟨k, m, nd, ndm, dp, tr, dt, hk, rfl, rfl, rfl, rfl, rfl, rfl, rfl, rfl, rfl, HS⟩ := hrel
    have hok := hs.out.ok k hk
    rw [HS.out] at hok
    have b1 : ndm ≤ 19 := hok.n
    have b2 : nd ≤ k := hok.le
    have b3 : -(k : Int) ≤ dp := hok.p1
    have b4 : dp ≤ k := hok.p2
    have b5 : ndm ≤ nd := hok.d
    have hm0 : m < 10 ^ ndm := hok.m
    by_cases hlt : k < s.size
    · have hch := hs.out.char k hlt
      have hon := hs.out.once k hlt
      rw [HS.out] at hon
      obtain ⟨c, hc⟩ : ∃ c, s[k].toNat = c := ⟨_, rfl⟩
      rw [hc] at hch hon
      have HC := Lib.hid hc
      have b6 : ndm < 19 → m ≤ 999999999999999999 := fun h => by
        have : 10 ^ ndm ≤ 10 ^ 18 := Nat.pow_le_pow_right (by decide) (by omega)
        omega
      clear hok hm0
      rcases hch with rfl | ⟨l1, l2⟩
      · obtain rfl : dt = false := hon rfl
        clear hon b6
        have hk0 : 0 < k := by
          refine Nat.pos_of_ne_zero fun h => ?_
          subst h
          have := hs.out.head hpos
          omega
        go_wp2
        go_round
        case rel => exact ⟨k + 1, m, nd, ndm, (nd : Int), tr, true, by omega, by go_num, by go_num, rfl, rfl, rfl, by simp [hk0], by go_num, by go_num, by go_num, rfIs_step hlt HS.out HC.out (rfl)⟩
        case measure => simp [intOf]; omega
      · clear hon
        by_cases hc48 : c = 48
        · subst hc48
          by_cases hn0 : nd = 0
          · subst hn0
            clear b6
            go_wp2
            go_round
            case rel => exact ⟨k + 1, m, 0, ndm, dp - 1, tr, dt, by omega, by go_num, by go_num, rfl, rfl, rfl, by simp, by go_num, by go_num, by go_num, rfIs_step hlt HS.out HC.out (rfl)⟩
            case measure => simp [intOf]; omega
          · have hn1 : ((nd : Int) == 0) = false := by rw [beq_eq_false_iff_ne]; omega
            by_cases h19 : ndm < 19
            · have b7 := b6 h19
              clear b6
              go_wp2
              go_round
              case rel => exact ⟨k + 1, m * 10 + 0, nd + 1, ndm + 1, dp, tr, dt, by omega, by go_num, by go_num, rfl, rfl, rfl, by simp, by go_num, by go_num, by go_num, rfIs_step hlt HS.out HC.out (by unfold FB.RF.step; rw [if_neg (by decide), if_neg (by simp; exact hn0), if_pos h19])⟩
              case measure => simp [intOf]; omega
            · obtain rfl : ndm = 19 := by omega
              clear b6
              go_wp2
              go_round
              case rel => exact ⟨k + 1, m, nd + 1, 19, dp, tr, dt, by omega, by go_num, by go_num, rfl, rfl, rfl, by simp, by go_num, by go_num, by go_num, rfIs_step hlt HS.out HC.out (by unfold FB.RF.step; rw [if_neg (by decide), if_neg (by simp; exact hn0), if_neg (by simp)]; simp)⟩
              case measure => simp [intOf]; omega
        · have hc1 : ((c : Int) == 48) = false := by rw [beq_eq_false_iff_ne]; omega
          have hc2 : ((c : Int) == 46) = false := by rw [beq_eq_false_iff_ne]; omega
          have hc3 : ((c : Int) == 95) = false := by rw [beq_eq_false_iff_ne]; omega
          by_cases h19 : ndm < 19
          · have b7 := b6 h19
            clear b6
            go_wp2
            go_round
            case rel => exact ⟨k + 1, m * 10 + (c - 48), nd + 1, ndm + 1, dp, tr, dt, by omega, by go_num, by go_num, rfl, rfl, rfl, by simp, by go_num, by go_num, by go_num, rfIs_step hlt HS.out HC.out (by unfold FB.RF.step; rw [if_neg (by omega), if_neg (by omega), if_pos h19])⟩
            case measure => simp [intOf]; omega
          · obtain rfl : ndm = 19 := by omega
            clear b6
            go_wp2
            go_round
            case rel => exact ⟨k + 1, m, nd + 1, 19, dp, true, dt, by omega, by go_num, by go_num, rfl, rfl, rfl, by simp, by go_num, by go_num, by go_num, rfIs_step hlt HS.out HC.out (by unfold FB.RF.step; rw [if_neg (by omega), if_neg (by omega), if_neg (by simp)]; simp; omega)⟩
            case measure => simp [intOf]; omega
    · obtain rfl : k = s.size := by omega
      have hfull : FB.RF.run (nats s) = ⟨m, nd, ndm, dp, tr, dt⟩ := by
        have := HS.out
        unfold RFIs at this
        rwa [List.take_of_length_le (by rw [nats_length]; exact Nat.le_refl _)] at this
      have HF := Lib.hid hfull
      have hdg : decide (0 < s.size) = true := decide_eq_true hpos
      clear hfull hok
      by_cases hm : m = 0
      all_goals cases dt
      · subst hm
        go_wp2
        try rw [Exit.noGoto_ret]
        refine bodyPost_ret (v := .tuple #[.int .u64 0, .int .i64 0, .bool false, .bool tr, .bool false, .int .i64 s.size, .bool true]) (by simp [results, Tryz.results111, go_sem]) rfl ⟨?_, rfl⟩
        rw [HF.out]; rfl
      · subst hm
        go_wp2
        try rw [Exit.noGoto_ret]
        refine bodyPost_ret (v := .tuple #[.int .u64 0, .int .i64 0, .bool false, .bool tr, .bool false, .int .i64 s.size, .bool true]) (by simp [results, Tryz.results111, go_sem]) rfl ⟨?_, rfl⟩
        rw [HF.out]; rfl
      · have tm : ((m : Int) != 0) = true := by rw [bne_iff_ne]; omega
        go_wp2
        try rw [Exit.noGoto_ret]
        refine bodyPost_ret (v := .tuple #[.int .u64 m, .int .i64 ((nd : Int) - ndm), .bool false, .bool tr, .bool false, .int .i64 s.size, .bool true]) (by simp [results, Tryz.results111, go_sem]) rfl ⟨?_, rfl⟩
        rw [HF.out]; unfold FB.RF.exp; simp [hm]
      · have tm : ((m : Int) != 0) = true := by rw [bne_iff_ne]; omega
        go_wp2
        try rw [Exit.noGoto_ret]
        refine bodyPost_ret (v := .tuple #[.int .u64 m, .int .i64 (dp - ndm), .bool false, .bool tr, .bool false, .int .i64 s.size, .bool true]) (by simp [results, Tryz.results111, go_sem]) rfl ⟨?_, rfl⟩
        rw [HF.out]; unfold FB.RF.exp; simp [hm]

/-- THE READING OF A DECIMAL's TEXT. -/
theorem readFloat_any (s : ByteArray) (w : World) (hs : Dec s) : Calls Tryz.prog 111 #[.string s] w (ReadTo s w) := by
  have h1 := hs.size1
  have h2 := hs.size2
  have hc := hs.char 0 h1
  have hh := hs.head h1
  by_cases hl : 2 < s.size
  · by_cases h48 : s[0].toNat = 48
    · have hx := or_lower s[1].toNat (hs.char 1 (by omega))
      refine readFloat_C s w hs h1 h2 _ rfl hh (by omega) h48 hl ?_
      rw [hx, beq_eq_false_iff_ne]
      have := hs.char 1 (by omega)
      omega
    · exact readFloat_B s w hs h1 h2 _ rfl hh (by omega) (by omega) hl
  · exact readFloat_A s w hs h1 h2 _ rfl hh (by omega) hl

end Go.Proofs.YtdjjgnplpjoabaaGreatDoor
