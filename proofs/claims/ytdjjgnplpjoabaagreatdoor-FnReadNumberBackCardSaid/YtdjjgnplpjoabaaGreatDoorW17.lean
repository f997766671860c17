/- What the text of a decimal is read as: the same number. In plain Lean. -/
import Derived.Test.YtdjjgnplpjoabaaGreatDoorW16
namespace Go.Proofs.YtdjjgnplpjoabaaGreatDoor
open Go.RowKit

theorem nats_str (l : List Int) (h : ∀ c ∈ l, 0 ≤ c ∧ c < 256) : nats (strOfNums l) = l.map Int.toNat := by
  unfold nats strOfNums
  show List.map UInt8.toNat (l.map fun n => UInt8.ofNat n.toNat) = _
  rw [List.map_map]
  refine List.map_congr_left fun c hc => ?_
  obtain ⟨h1, h2⟩ := h c hc
  show (UInt8.ofNat c.toNat).toNat = c.toNat
  rw [UInt8.toNat_ofNat']
  omega

def dl (d nd a n : Nat) : List Nat := (List.range n).map fun i => 48 + digAt d nd (a + i)
theorem dl_length (d nd a n : Nat) : (dl d nd a n).length = n := by simp [dl]
theorem dl_succ (d nd a n : Nat) : dl d nd a (n + 1) = dl d nd a n ++ [48 + digAt d nd (a + n)] := by simp [dl, List.range_succ]
theorem digAt_lt (d nd j : Nat) : digAt d nd j < 10 := Nat.mod_lt _ (by decide)
theorem dl_mem (d nd a n c : Nat) (h : c ∈ dl d nd a n) : 48 ≤ c ∧ c ≤ 57 := by
  unfold dl at h
  obtain ⟨i, _, rfl⟩ := List.mem_map.1 h
  have := digAt_lt d nd (a + i)
  omega

def St (d nd k : Nat) (dp : Int) (dot : Bool) : FB.RF := ⟨d / 10 ^ (nd - k), k, k, dp, false, dot⟩

theorem st_step (d nd k : Nat) (dp : Int) (dot : Bool) (hk : k < nd) (h19 : k < 19) (h0 : 1 ≤ digAt d nd 0) : FB.RF.step (St d nd k dp dot) (48 + digAt d nd k) = St d nd (k + 1) dp dot := by
  have hl := digAt_lt d nd k
  unfold FB.RF.step
  rw [if_neg (by omega), if_neg (by rintro ⟨h1, h2⟩; simp only [St] at h2; subst h2; omega), if_pos (by exact h19)]
  unfold St
  have e : nd - k = nd - (k + 1) + 1 := by omega
  have e2 : d / 10 ^ (nd - k) * 10 + (48 + digAt d nd k - 48) = d / 10 ^ (nd - (k + 1)) := by
    unfold digAt
    rw [e, Nat.pow_succ, ← Nat.div_div_eq_div_mul, show nd - 1 - k = nd - (k + 1) by omega]
    omega
  simp only [e2]

theorem st_run (d nd i : Nat) (dp : Int) (dot : Bool) (h0 : 1 ≤ digAt d nd 0) : ∀ n, i + n ≤ nd → i + n ≤ 19 → (dl d nd i n).foldl FB.RF.step (St d nd i dp dot) = St d nd (i + n) dp dot
  | 0, _, _ => rfl
  | n + 1, h1, h2 => by
    rw [dl_succ, List.foldl_append, st_run d nd i dp dot h0 n (by omega) (by omega)]
    exact st_step d nd (i + n) dp dot (by omega) (by omega) h0

theorem zeros_before (dot : Bool) : ∀ (y : Nat) (dp : Int), (List.replicate y 48).foldl FB.RF.step ⟨0, 0, 0, dp, false, dot⟩ = ⟨0, 0, 0, dp - y, false, dot⟩
  | 0, dp => by simp
  | y + 1, dp => by
    rw [List.replicate_succ, List.foldl_cons]
    have : FB.RF.step ⟨0, 0, 0, dp, false, dot⟩ 48 = ⟨0, 0, 0, dp - 1, false, dot⟩ := rfl
    rw [this, zeros_before dot y]
    congr 1
    omega

def Zt (m n t : Nat) (dp : Int) : FB.RF := ⟨m * 10 ^ (min t 19 - n), t, min t 19, dp, false, false⟩

theorem zt_step (m n t : Nat) (dp : Int) (hn : n ≤ 19) (h1 : 1 ≤ n) (hnt : n ≤ t) : FB.RF.step (Zt m n t dp) 48 = Zt m n (t + 1) dp := by
  unfold FB.RF.step
  rw [if_neg (by decide), if_neg (by rintro ⟨_, h2⟩; simp only [Zt] at h2; omega)]
  by_cases h19 : t < 19
  · rw [if_pos (by show min t 19 < 19; omega)]
    unfold Zt
    have e1 : min t 19 = t := by omega
    have e2 : min (t + 1) 19 = t + 1 := by omega
    have e3 : t + 1 - n = t - n + 1 := by omega
    simp only [e1, e2, e3, Nat.pow_succ, Nat.sub_self, Nat.add_zero, Nat.mul_assoc]
  · rw [if_neg (by show ¬ min t 19 < 19; omega)]
    unfold Zt
    have e1 : min t 19 = 19 := by omega
    have e2 : min (t + 1) 19 = 19 := by omega
    simp [e1, e2]

theorem zt_run (m n : Nat) (dp : Int) (hn : n ≤ 19) (h1 : 1 ≤ n) : ∀ (y t : Nat), n ≤ t → (List.replicate y 48).foldl FB.RF.step (Zt m n t dp) = Zt m n (t + y) dp
  | 0, _, _ => rfl
  | y + 1, t, ht => by
    rw [List.replicate_succ, List.foldl_cons, zt_step m n t dp hn h1 ht, zt_run m n dp hn h1 y (t + 1) (by omega)]
    congr 1
    omega

theorem no_dot : ∀ (l : List Nat) (s : FB.RF), (∀ c ∈ l, c ≠ 46) → s.dot = false → (l.foldl FB.RF.step s).dot = false
  | [], _, _, h => h
  | c :: l, s, h, hs => by
    rw [List.foldl_cons]
    refine no_dot l _ (fun x hx => h x (by simp [hx])) ?_
    have hc := h c (by simp)
    unfold FB.RF.step
    rw [if_neg hc]
    split
    · exact hs
    · split <;> exact hs

/-- Digits, and digits with one point, are a decimal's text. -/
theorem dec_plain (s : ByteArray) (l : List Nat) (hl : nats s = l) (h1 : 1 ≤ l.length) (h2 : l.length ≤ 1000) (hc : ∀ c ∈ l, 48 ≤ c ∧ c ≤ 57) : Dec s := by
  have hlen : s.size = l.length := by rw [← nats_length, hl]
  refine ⟨by omega, by omega, ?_, ?_, ?_⟩
  · intro c hcm
    rw [hl] at hcm
    exact Or.inr (hc c hcm)
  · intro h
    have hm := hc s[0].toNat (by rw [← hl]; have := nats_take s 0 h; simp at this; exact List.mem_of_mem_take (i := 1) (by rw [this]; simp))
    omega
  · intro k hk h46
    have hm := hc s[k].toNat (by rw [← hl]; have := nats_take s k hk; exact List.mem_of_mem_take (i := k + 1) (by rw [this]; simp))
    omega

theorem dec_point (s : ByteArray) (a b : List Nat) (hl : nats s = a ++ 46 :: b) (h1 : 1 ≤ a.length) (h2 : a.length + b.length ≤ 900) (ha : ∀ c ∈ a, 48 ≤ c ∧ c ≤ 57) (hb : ∀ c ∈ b, 48 ≤ c ∧ c ≤ 57) : Dec s := by
  have hlen : s.size = a.length + (b.length + 1) := by rw [← nats_length, hl]; simp
  have hat : ∀ k (hk : k < s.size), (nats s)[k]'(by rw [nats_length]; exact hk) = s[k].toNat := by
    intro k hk
    have h1 := nats_take s k hk
    have hk' : k < (nats s).length := by rw [nats_length]; exact hk
    rw [List.take_succ_eq_append_getElem hk'] at h1
    have := List.append_cancel_left h1
    simpa using this
  refine ⟨by omega, by omega, ?_, ?_, ?_⟩
  · intro c hcm
    rw [hl] at hcm
    rcases List.mem_append.1 hcm with h | h
    · exact Or.inr (ha c h)
    · rcases List.mem_cons.1 h with h | h
      · exact Or.inl h
      · exact Or.inr (hb c h)
  · intro h
    have e := hat 0 h
    have e2 : (nats s)[0]'(by rw [nats_length]; exact h) = a[0]'(by omega) := by
      simp only [hl]
      rw [List.getElem_append_left (by omega)]
    have := ha (a[0]'(by omega)) (List.getElem_mem _)
    omega
  · intro k hk h46
    have e := hat k hk
    rcases Nat.lt_trichotomy k a.length with hlt | heq | hgt
    · have e2 : (nats s)[k]'(by rw [nats_length]; exact hk) = a[k] := by
        simp only [hl]
        rw [List.getElem_append_left hlt]
      have := ha a[k] (List.getElem_mem _)
      omega
    · have : (nats s).take k = a := by rw [hl, heq]; simp
      rw [this]
      exact no_dot a _ (fun c hc => by have := ha c hc; omega) rfl
    · have e2 : (nats s)[k]'(by rw [nats_length]; exact hk) = b[k - a.length - 1]'(by omega) := by
        simp only [hl]
        rw [List.getElem_append_right (by omega)]
        rw [List.getElem_cons]
        rw [dif_neg (by omega)]
      have := hb (b[k - a.length - 1]'(by omega)) (List.getElem_mem _)
      omega

/-- What a text is good for: it is a decimal's, and reads as D * 10^P, which lies where v lies. -/
def Reads (l : List Int) (v : Rat) : Prop :=
  Dec (strOfNums l) ∧ ∃ (D : Nat) (P : Int), (FB.RF.run (nats (strOfNums l))).mant = D ∧ (FB.RF.run (nats (strOfNums l))).exp = P ∧ (FB.RF.run (nats (strOfNums l))).trunc = false ∧
    1 ≤ D ∧ D < 2 ^ 64 ∧ -330 ≤ P ∧ P < 310 ∧ (D : Rat) * 10 ^ P = v ∧ (∀ k, 2 ^ 63 ≤ D * 2 ^ k → D * 2 ^ k < 2 ^ 64 → FB.Gap P (D * 2 ^ k)) ∧ (0 < P → 2 ^ 52 ≤ D)

theorem gap_small (D : Nat) (P : Int) (h1 : -330 ≤ P) (h2 : P < 330) (hD : D < 100000000000000000) (k : Nat) (k1 : 2 ^ 63 ≤ D * 2 ^ k) (k2 : D * 2 ^ k < 2 ^ 64) : FB.Gap P (D * 2 ^ k) := by
  have hk : 7 ≤ k := by
    refine Nat.le_of_not_lt fun hlt => ?_
    have : D * 2 ^ k ≤ D * 2 ^ 6 := Nat.mul_le_mul_left _ (Nat.pow_le_pow_right (by decide) (by omega))
    omega
  have e : D * 2 ^ k = D * 2 ^ (k - 7) * 128 := by
    rw [Nat.mul_assoc, show (128 : Nat) = 2 ^ 7 from rfl, ← Nat.pow_add]
    congr 2
    omega
  rw [e]
  exact FB.gapA P h1 h2 _ (by omega)

theorem gap_zero (x : Nat) : FB.Gap 0 x := by
  intro y
  have hn : FB.num 0 = 2 ^ 127 := by decide
  have hd : FB.den 0 = 1 := by decide
  rw [hn, hd]
  rcases Nat.lt_trichotomy x (y * 64) with h | h | h
  · right; right
    have : (x + 1) * 2 ^ 127 ≤ y * 64 * 2 ^ 127 := Nat.mul_le_mul_right _ h
    omega
  · left; omega
  · right; left
    have : (y * 64 + 1) * 2 ^ 127 ≤ x * 2 ^ 127 := Nat.mul_le_mul_right _ h
    omega

theorem gap_big (m a : Nat) (P : Int) (h1 : 1 ≤ P) (h2 : P < 300) (k : Nat) (k2 : m * 10 ^ (a + 2) * 2 ^ k < 2 ^ 64) : FB.Gap P (m * 10 ^ (a + 2) * 2 ^ k) := by
  have e : m * 10 ^ (a + 2) * 2 ^ k = m * 10 ^ a * 2 ^ k * 100 := by
    rw [Nat.pow_add]
    show m * (10 ^ a * 100) * 2 ^ k = _
    rw [← Nat.mul_assoc, Nat.mul_right_comm]
  rw [e] at k2 ⊢
  exact FB.gapB P h1 h2 _ k2

theorem ten_shift (m a : Nat) (d : Nat) (q P : Int) (h : m * 10 ^ a = d) (hP : P = q + a) : (m : Rat) * 10 ^ P = d * 10 ^ q := by
  subst h hP
  rw [Rat.zpow_add FB.ten0, Rat.natCast_mul, Rat.natCast_pow, Rat.zpow_natCast]
  have f : ((10 : Nat) : Rat) = 10 := rfl
  rw [f]
  grind

/-- THE TEXT OF A DECIMAL IS READ AS THAT DECIMAL. -/
theorem body_reads (d nd nd' : Nat) (q : Int) (hnd : Lib.nDigits d = nd) (hd1 : 1 ≤ d) (hd2 : d < 100000000000000000) (hn1 : 1 ≤ nd') (hn2 : nd' ≤ nd) (hn3 : nd ≤ 17) (hm : d % 10 ^ (nd - nd') = 0) (hq1 : -330 ≤ q) (hq2 : q ≤ 301) :
    Reads (body (fun j => ((48 + digAt d nd j : Nat) : Int)) nd' (nd + q)) (d * 10 ^ q) := by
  have hlt : d < 10 ^ nd := by rw [← hnd]; exact Lib.lt_pow_nDigits d
  have hge : 10 ^ (nd - 1) ≤ d := by
    refine Nat.le_of_not_lt fun hc => ?_
    by_cases h1 : nd = 1
    · rw [h1] at hc; simp at hc; omega
    · have := nDigits_le (nd - 1) d (by omega) hc
      omega
  have h0 : 1 ≤ digAt d nd 0 := by
    unfold digAt
    rw [Nat.sub_zero]
    have a1 : 1 ≤ d / 10 ^ (nd - 1) := (Nat.le_div_iff_mul_le (Nat.pow_pos (by decide))).2 (by rw [Nat.one_mul]; exact hge)
    have a2 : d / 10 ^ (nd - 1) < 10 := by
      rw [Nat.div_lt_iff_lt_mul (Nat.pow_pos (by decide)), Nat.mul_comm, ← Nat.pow_succ]
      rw [show (nd - 1).succ = nd by omega]; exact hlt
    omega
  obtain ⟨m, hmm⟩ : ∃ m, m = d / 10 ^ (nd - nd') := ⟨_, rfl⟩
  have hmd : m * 10 ^ (nd - nd') = d := by rw [hmm]; exact Nat.div_mul_cancel (Nat.dvd_of_mod_eq_zero hm)
  have hm17 : m < 100000000000000000 := Nat.lt_of_le_of_lt (by rw [hmm]; exact Nat.div_le_self _ _) hd2
  have hm1 : 1 ≤ m := by
    refine Nat.pos_of_ne_zero fun h => ?_
    rw [h, Nat.zero_mul] at hmd; omega
  have hmlo : 10 ^ (nd' - 1) ≤ m := by
    rw [hmm, Nat.le_div_iff_mul_le (Nat.pow_pos (by decide)), ← Nat.pow_add, show nd' - 1 + (nd - nd') = nd - 1 by omega]
    exact hge
  have hmhi : m < 10 ^ nd' := by
    rw [hmm, Nat.div_lt_iff_lt_mul (Nat.pow_pos (by decide)), ← Nat.pow_add, show nd' + (nd - nd') = nd by omega]
    exact hlt
  have s0 : ∀ dp dot, St d nd 0 dp dot = ⟨0, 0, 0, dp, false, dot⟩ := by
    intro dp dot
    unfold St
    rw [Nat.sub_zero, Nat.div_eq_of_lt hlt]
  have hdl : ∀ a n, (digs (fun j => ((48 + digAt d nd j : Nat) : Int)) a n).map Int.toNat = dl d nd a n := by
    intro a n
    unfold digs dl
    rw [List.map_map]
    rfl
  have hdr : ∀ a n, ∀ c ∈ digs (fun j => ((48 + digAt d nd j : Nat) : Int)) a n, 0 ≤ c ∧ c < 256 := by
    intro a n c hc
    unfold digs at hc
    obtain ⟨i, _, rfl⟩ := List.mem_map.1 hc
    have := digAt_lt d nd (a + i)
    simp only
    omega
  have hrr : ∀ y, ∀ c ∈ List.replicate y (48 : Int), 0 ≤ c ∧ c < 256 := by
    intro y c hc
    obtain ⟨_, rfl⟩ := List.mem_replicate.1 hc
    omega
  have hrm : ∀ y, (List.replicate y (48 : Int)).map Int.toNat = List.replicate y 48 := by intro y; simp
  have hrn : ∀ y, ∀ c ∈ List.replicate y 48, 48 ≤ c ∧ c ≤ 57 := by
    intro y c hc
    obtain ⟨_, rfl⟩ := List.mem_replicate.1 hc
    omega
  have hlr := fun a n => dl_mem d nd a n
  unfold body
  by_cases c1 : (nd : Int) + q ≤ 0
  · rw [if_pos c1]
    obtain ⟨y, hy⟩ : ∃ y : Nat, (-((nd : Int) + q)).toNat = y := ⟨_, rfl⟩
    rw [hy]
    have e : nats (strOfNums ([48, 46] ++ (List.replicate y 48 ++ digs (fun j => ((48 + digAt d nd j : Nat) : Int)) 0 nd'))) = [48] ++ 46 :: (List.replicate y 48 ++ dl d nd 0 nd') := by
      rw [nats_str]
      · rw [List.map_append, List.map_append, hrm, hdl]; rfl
      · intro c hc
        rcases List.mem_append.1 hc with h | h
        · rcases List.mem_cons.1 h with h | h
          · omega
          · rw [List.mem_singleton.1 h]; omega
        · rcases List.mem_append.1 h with h | h
          · exact hrr _ c h
          · exact hdr _ _ c h
    have er : FB.RF.run ([48] ++ 46 :: (List.replicate y 48 ++ dl d nd 0 nd')) = St d nd nd' (-(y : Int)) true := by
      unfold FB.RF.run
      rw [List.foldl_append]
      have a1 : List.foldl FB.RF.step FB.RF.init [48] = ⟨0, 0, 0, -1, false, false⟩ := rfl
      rw [a1, List.foldl_cons]
      have a2 : FB.RF.step ⟨0, 0, 0, -1, false, false⟩ 46 = ⟨0, 0, 0, 0, false, true⟩ := rfl
      rw [a2, List.foldl_append, zeros_before]
      have := st_run d nd 0 (0 - (y : Int)) true h0 nd' (by omega) (by omega)
      rw [s0, Nat.zero_add] at this
      rw [this]
      congr 1
      omega
    refine ⟨dec_point _ [48] _ e (by decide) (by simp [dl_length]; omega) (by intro c hc; rw [List.mem_singleton.1 hc]; omega) ?_, m, q + (nd - nd' : Nat), ?_⟩
    · intro c hc
      rcases List.mem_append.1 hc with h | h
      · exact hrn _ c h
      · exact hlr _ _ c h
    · rw [e, er]
      refine ⟨hmm.symm, ?_, rfl, hm1, by omega, by omega, by omega, ten_shift m _ d q _ hmd rfl, fun k k1 k2 => gap_small m _ (by omega) (by omega) hm17 k k1 k2, by omega⟩
      unfold FB.RF.exp
      simp only [St]
      rw [← hmm, if_neg (by omega), if_pos trivial]
      omega
  · rw [if_neg c1]
    by_cases c2 : (nd : Int) + q < nd'
    · rw [if_pos c2]
      obtain ⟨t, ht⟩ : ∃ t : Nat, ((nd : Int) + q).toNat = t := ⟨_, rfl⟩
      rw [ht]
      have e : nats (strOfNums (digs (fun j => ((48 + digAt d nd j : Nat) : Int)) 0 t ++ 46 :: digs (fun j => ((48 + digAt d nd j : Nat) : Int)) t (nd' - t))) = dl d nd 0 t ++ 46 :: dl d nd t (nd' - t) := by
        rw [nats_str]
        · rw [List.map_append, List.map_cons, hdl, hdl]; rfl
        · intro c hc
          rcases List.mem_append.1 hc with h | h
          · exact hdr _ _ c h
          · rcases List.mem_cons.1 h with h | h
            · omega
            · exact hdr _ _ c h
      have er : FB.RF.run (dl d nd 0 t ++ 46 :: dl d nd t (nd' - t)) = St d nd nd' (t : Int) true := by
        unfold FB.RF.run
        rw [List.foldl_append]
        have a1 := st_run d nd 0 0 false h0 t (by omega) (by omega)
        rw [s0, Nat.zero_add] at a1
        have a0 : FB.RF.init = ⟨0, 0, 0, 0, false, false⟩ := rfl
        rw [a0, a1, List.foldl_cons]
        have a2 : FB.RF.step (St d nd t 0 false) 46 = St d nd t (t : Int) true := rfl
        rw [a2]
        have a3 := st_run d nd t (t : Int) true h0 (nd' - t) (by omega) (by omega)
        rw [a3]
        congr 1
        omega
      refine ⟨dec_point _ _ _ e (by rw [dl_length]; omega) (by simp only [dl_length]; omega) (hlr _ _) (hlr _ _), m, q + (nd - nd' : Nat), ?_⟩
      rw [e, er]
      refine ⟨hmm.symm, ?_, rfl, hm1, by omega, by omega, by omega, ten_shift m _ d q _ hmd rfl, fun k k1 k2 => gap_small m _ (by omega) (by omega) hm17 k k1 k2, by omega⟩
      unfold FB.RF.exp
      simp only [St]
      rw [← hmm, if_neg (by omega), if_pos trivial]
      omega
    · rw [if_neg c2]
      obtain ⟨t, ht⟩ : ∃ t : Nat, ((nd : Int) + q).toNat = t := ⟨_, rfl⟩
      rw [ht]
      have e : nats (strOfNums (digs (fun j => ((48 + digAt d nd j : Nat) : Int)) 0 nd' ++ List.replicate (t - nd') 48)) = dl d nd 0 nd' ++ List.replicate (t - nd') 48 := by
        rw [nats_str]
        · rw [List.map_append, hdl, hrm]
        · intro c hc
          rcases List.mem_append.1 hc with h | h
          · exact hdr _ _ c h
          · exact hrr _ c h
      have er : FB.RF.run (dl d nd 0 nd' ++ List.replicate (t - nd') 48) = Zt m nd' t 0 := by
        unfold FB.RF.run
        rw [List.foldl_append]
        have a1 := st_run d nd 0 0 false h0 nd' (by omega) (by omega)
        rw [s0, Nat.zero_add] at a1
        have a0 : FB.RF.init = ⟨0, 0, 0, 0, false, false⟩ := rfl
        rw [a0, a1]
        have a2 : St d nd nd' 0 false = Zt m nd' nd' 0 := by
          unfold St Zt
          rw [show min nd' 19 = nd' by omega, Nat.sub_self, Nat.pow_zero, Nat.mul_one, hmm]
        rw [a2, zt_run m nd' 0 (by omega) hn1 _ _ (Nat.le_refl _)]
        congr 1
        omega
      have hD : m * 10 ^ (min t 19 - nd') < 10 ^ 19 := by
        refine Nat.lt_of_lt_of_le (Nat.mul_lt_mul_of_pos_right hmhi (Nat.pow_pos (by decide))) ?_
        rw [← Nat.pow_add]
        exact Nat.pow_le_pow_right (by decide) (by omega)
      have hp : 1 ≤ 10 ^ (min t 19 - nd') := Nat.pow_pos (by decide)
      have hD1 : 1 ≤ m * 10 ^ (min t 19 - nd') := Nat.mul_pos hm1 hp
      refine ⟨dec_plain _ _ e (by simp [dl_length]; omega) (by simp [dl_length]; omega) ?_, m * 10 ^ (min t 19 - nd'), (t - min t 19 : Nat), ?_⟩
      · intro c hc
        rcases List.mem_append.1 hc with h | h
        · exact hlr _ _ c h
        · exact hrn _ c h
      · rw [e, er]
        refine ⟨rfl, ?_, rfl, hD1, by omega, by omega, by omega, ?_, ?_, ?_⟩
        · unfold FB.RF.exp
          show (if m * 10 ^ (min t 19 - nd') = 0 then (0 : Int) else (if false = true then (0 : Int) else (t : Int)) - ((min t 19 : Nat) : Int)) = _
          rw [if_neg (by omega), if_neg (by decide)]
          omega
        · rw [← ten_shift m (nd - nd') d q (q + (nd - nd' : Nat)) hmd rfl, Rat.natCast_mul, Rat.natCast_pow]
          have f : ((10 : Nat) : Rat) = 10 := rfl
          rw [f, ← Rat.zpow_natCast, Rat.mul_assoc, ← Rat.zpow_add FB.ten0]
          congr 2
          omega
        · intro k k1 k2
          by_cases h19 : t ≤ 19
          · have : ((t - min t 19 : Nat) : Int) = 0 := by omega
            rw [this]
            exact gap_zero _
          · have e19 : min t 19 - nd' = (17 - nd') + 2 := by omega
            rw [e19] at k2 ⊢
            exact gap_big m _ _ (by omega) (by omega) k k2
        · intro hP
          have e19 : min t 19 = 19 := by omega
          have : 10 ^ (nd' - 1) * 10 ^ (19 - nd') ≤ m * 10 ^ (19 - nd') := Nat.mul_le_mul_right _ hmlo
          rw [← Nat.pow_add, show nd' - 1 + (19 - nd') = 18 by omega] at this
          rw [e19]
          omega

end Go.Proofs.YtdjjgnplpjoabaaGreatDoor
