/- The digits of a number are laid into a buffer, zeros at their end counted off; its conditions: the buffer has 32 places and the number at most 17 digits. -/
import Derived.Test.YtdjjgnplpjoabaaGreatDoorW5
namespace Go.Proofs.YtdjjgnplpjoabaaGreatDoor
open Go.RowKit
open Go.Lib (nDigits nDigits_small nDigits_big nDigits_pos lt_pow_nDigits dg FmtInv)
open Go.Sort (Holds putRow holds_putRow cell?_putRow size_putRow)

theorem nDigits_le : ∀ (n u : Nat), 1 ≤ n → u < 10 ^ n → nDigits u ≤ n
  | 0, _, h, _ => absurd h (by decide)
  | n + 1, u, _, hu => by
    by_cases h : u < 10
    · rw [nDigits_small h]; omega
    · rw [nDigits_big h]
      have hn : 1 ≤ n := by
        rcases Nat.eq_zero_or_pos n with h0 | h0
        · subst h0; simp at hu; omega
        · exact h0
      have := nDigits_le n (u / 10) hn (by rw [Nat.pow_succ] at hu; omega)
      omega

/-- A row of bytes. -/
abbrev encB : UInt8 → Value := fun (b : UInt8) => Value.int .u8 (b.toNat : Int)

theorem holds_zero (w : World) (b nd : Nat) (h : ∀ j, j < nd → w.cell? ⟨b, j, none⟩ = some (.int .u8 0) ∧ w.frozen? ⟨b, j, none⟩ = false) : Holds encB w b 0 (Array.replicate nd 0) := by
  intro j hj
  simp only [Array.size_replicate] at hj
  rw [Nat.zero_add]
  obtain ⟨h1, h2⟩ := h j hj
  refine ⟨?_, h2⟩
  rw [h1, getElem!_pos _ j (by simpa using hj)]
  simp

theorem below_putRow (w : World) (b off : Nat) (d : Array UInt8) : Below b w (putRow encB w b off d) := by
  refine ⟨rfl, rfl, rfl, by simp, fun k hk => ?_⟩
  unfold Go.Sort.putRow Go.Sort.mapBlock
  simp only [Array.getElem?_modify]
  rw [if_neg (by omega)]

/-- The j-th digit of u from the left, of nd. -/
def digAt (u nd j : Nat) : Nat := u / 10 ^ (nd - 1 - j) % 10

theorem dg_toNat (u j : Nat) : (dg u j).toNat = 48 + u / 10 ^ j % 10 := by
  unfold dg
  have : u / 10 ^ j % 10 < 10 := Nat.mod_lt _ (by decide)
  simp
  omega

/-- What setDigits is good for. -/
def Digits (b d nd : Nat) (p : Int) (w : World) (e : Ending) (w' : World) : Prop :=
  ∃ nd' : Nat, e = .returned (.tuple #[.int .i64 (nd + p), .int .i64 nd']) ∧ 1 ≤ nd' ∧ nd' ≤ nd ∧ d % 10 ^ (nd - nd') = 0 ∧
    (∀ j, j < nd' → w'.cell? ⟨b, j, none⟩ = some (.int .u8 ((48 + digAt d nd j : Nat) : Int))) ∧ (∃ cs, w'.heap[b]? = some (.cells cs 81 (0, 0))) ∧ Below b w w' ∧ w'.heap.size = w.heap.size

set_option maxRecDepth 100000 in
set_option maxHeartbeats 1000000 in
theorem setDigits_any (b d nd : Nat) (p : Int) (w : World) (hd1 : 1 ≤ d) (hd : d < 100000000000000000) (hnd : nd = nDigits d) (hp1 : -10000 ≤ p) (hp2 : p ≤ 10000)
    (cs0 : Array Value) (hblk : w.heap[b]? = some (.cells cs0 81 (0, 0))) (hz : ∀ j, j < 32 → w.cell? ⟨b, j, none⟩ = some (.int .u8 0) ∧ w.frozen? ⟨b, j, none⟩ = false) :
    Calls Tryz.prog 36 #[.slice (some ⟨b, 0, none⟩) 32 32, .int .u64 d, .int .i64 p, .int .i64 nd] w (Digits b d nd p w) := by
  have hn1 : 1 ≤ nd := by rw [hnd]; exact nDigits_pos d
  have hn2 : nd ≤ 17 := by rw [hnd]; exact nDigits_le 17 d (by decide) (by omega)
  have hlt : d < 10 ^ nd := by rw [hnd]; exact lt_pow_nDigits d
  clear hnd
  have HH := Lib.hid (holds_zero w b nd (fun j hj => hz j (by omega)))
  have HZ := Lib.hid hz
  have HB := Lib.hid hblk
  have HL := Lib.hid hlt
  have HD := Lib.hid hd1
  clear hz hlt hd1 hblk
  go_enter Tryz.func36, Tryz.ntmps36
  go_wp2_with (go_at_call 74; have hs : (Array.replicate nd (0 : UInt8)).size = nd := by simp
               have hc := Tryz.internal_strconv_formatBase10 b 0 32 d (Array.replicate nd 0) w HH.out (by rw [hs]; exact HL.out) (by omega) (by rw [hs]; omega)
               rw [hs] at hc
               refine hc.mono ?_; rintro _ w1 ⟨rfl, n, v', dk, hw1, HI⟩; have HW1 := Lib.hid hw1; have HI1 := Lib.hid HI; clear hw1 HI hs hc)
  have K0 : Hid ((∀ j, j < nd → w1.cell? ⟨b, j, none⟩ = some (.int .u8 ((48 + digAt d nd j : Nat) : Int))) ∧ (∃ cs, w1.heap[b]? = some (.cells cs 81 (0, 0))) ∧ Below b w w1 ∧ w1.heap.size = w.heap.size) := by
    have e := HW1.out
    subst e
    have hs0 : (Array.replicate nd (0 : UInt8)).size = nd := by simp
    refine ⟨fun j hj => ?_, ?_, below_drewN (below_putRow w b 0 dk) n, by show (putRow encB w b 0 dk).heap.size = _; simp⟩
    · show (putRow encB w b 0 dk).cell? _ = _
      have := cell?_putRow encB w b 0 (Array.replicate nd 0) dk HH.out (by rw [hs0]; exact HI1.out.size) j (by rw [HI1.out.size]; exact hj)
      rw [Nat.zero_add] at this
      rw [this, HI1.out.done j (Nat.zero_le _) hj]
      simp only [encB, dg_toNat]
      rfl
    · have := HB.out
      refine ⟨Go.Sort.putCells encB 0 dk cs0, ?_⟩
      show (putRow encB w b 0 dk).heap[b]? = _
      unfold Go.Sort.putRow Go.Sort.mapBlock
      simp only [Array.getElem?_modify, this]
      rfl
  clear HW1 HI1 HH HZ HB
  go_loop [3] (fun c => ∃ k : Nat, k ≤ nd ∧ 1 ≤ k ∧ c = .int .i64 k ∧ Hid (d % 10 ^ (nd - k) = 0)) (fun c => (intOf c).toNat)
  case atStart => exact ⟨nd, Nat.le_refl _, hn1, rfl, by show d % 10 ^ (nd - nd) = 0; simp [Nat.mod_one]⟩
  case round =>
    obtain ⟨k, hk, hk1, rfl, HM⟩ := hrel
    obtain ⟨m, rfl⟩ : ∃ m, k = m + 1 := ⟨k - 1, by omega⟩
    have hc := K0.out.1 m (by omega)
    by_cases h0 : digAt d nd m = 0
    · have hm1 : 1 ≤ m := by
        refine Nat.pos_of_ne_zero fun hm0 => ?_
        subst hm0
        -- all digits behind are 0 and so is the first: the number is 0
        have hM := HM.out
        unfold digAt at h0
        have hlt := HL.out
        have h1 := HD.out
        rw [show nd - (0 + 1) = nd - 1 by omega] at hM
        rw [Nat.sub_zero] at h0
        have e : 10 ^ nd = 10 ^ (nd - 1) * 10 := by rw [← Nat.pow_succ]; congr 1; omega
        have hq : d / 10 ^ (nd - 1) < 10 := by rw [Nat.div_lt_iff_lt_mul (Nat.pow_pos (by decide)), Nat.mul_comm, ← e]; exact hlt
        rw [Nat.mod_eq_of_lt hq] at h0
        have := Nat.div_add_mod d (10 ^ (nd - 1))
        rw [h0, hM] at this
        omega
      rw [h0] at hc
      go_wp2
      go_round
      case rel =>
        refine ⟨m, by omega, hm1, by go_num, ?_⟩
        have hM := HM.out
        unfold digAt at h0
        show d % 10 ^ (nd - m) = 0
        rw [show nd - m = nd - (m + 1) + 1 by omega, Nat.pow_succ, Nat.mod_mul, hM]
        rw [show nd - 1 - m = nd - (m + 1) by omega] at h0
        rw [h0]; simp
      case measure => simp [intOf]
    · have hn0 : ((((48 + digAt d nd m : Nat) : Int)) == 48) = false := by rw [beq_eq_false_iff_ne]; omega
      go_wp2
      go_ret2
      exact ⟨m + 1, rfl, hk1, hk, HM.out, fun j hj => K0.out.1 j (by omega), K0.out.2.1, K0.out.2.2.1, K0.out.2.2.2⟩

end Go.Proofs.YtdjjgnplpjoabaaGreatDoor
