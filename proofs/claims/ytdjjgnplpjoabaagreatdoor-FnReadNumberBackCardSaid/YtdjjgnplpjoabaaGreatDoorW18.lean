/- A float's text, without its sign, is parsed back as that float; its conditions: the tables are as the program's text lays them. -/
import Derived.Test.YtdjjgnplpjoabaaGreatDoorW17
namespace Go.Proofs.YtdjjgnplpjoabaaGreatDoor
open Go.RowKit

/-- What a scanner has to know of a decimal's text. -/
structure Tok (t : List Int) : Prop where
  dec : Dec (strOfNums t)
  chars : ∀ c ∈ t, c = 46 ∨ 48 ≤ c ∧ c ≤ 57
  zero : ∀ r, t = 48 :: r → r = [] ∨ ∃ r', r = 46 :: r'

theorem parse_text {bs : Nat} {l : List Int} (h : TextOf bs l) : ∃ t, l = sgn (decide (2 ^ 63 ≤ bs)) ++ t ∧ Tok t ∧
    (∀ w : World, RTabs w → Calls Tryz.prog 19 #[.string (strOfNums t), .int .i64 64] w (Parsed (bs % 2 ^ 63) w)) ∧ (bs % 2 ^ 63 = 0 ∨ ∃ (mant : Nat) (E : Int) (z : Nat), FB.Fin mant E z ∧ FB.fw mant E = bs % 2 ^ 63) := by
  rcases h with ⟨hz, hl⟩ | ⟨mant, E, z, d, nd, nd', q, hf, hfw, hl, hnd, hd1, hd2, hn1, hn2, hn3, hm, hn, hq1, hq2⟩
  · have e : nats (strOfNums [48]) = [48] := rfl
    have hdec : Dec (strOfNums [48]) := dec_plain _ [48] e (by decide) (by decide) (by intro c hc; rw [List.mem_singleton.1 hc]; omega)
    refine ⟨[48], hl, ⟨hdec, ?_, ?_⟩, ?_, Or.inl hz⟩
    · intro c hc; rw [List.mem_singleton.1 hc]; omega
    · intro r hr; left; simpa using hr.symm
    · intro w hT
      rw [hz]
      exact parseFloat_any _ _ w (atof_zero _ w hdec (by rw [e]; rfl) (by rw [e]; rfl) hT)
  · obtain ⟨hdec, D, P, r1, r2, r3, hD1, hD2, hP1, hP2, hv, hg, hpos⟩ := body_reads d nd nd' q hnd hd1 hd2 hn1 hn2 hn3 hm hq1 hq2
    refine ⟨_, hl, ⟨hdec, ?_, ?_⟩, ?_, Or.inr ⟨mant, E, z, hf, hfw⟩⟩
    · have hdg : ∀ a n, ∀ c ∈ digs (fun j => ((48 + digAt d nd j : Nat) : Int)) a n, 48 ≤ c ∧ c ≤ 57 := by
        intro a n c hc
        unfold digs at hc
        obtain ⟨i, _, rfl⟩ := List.mem_map.1 hc
        have := digAt_lt d nd (a + i)
        simp only
        omega
      intro c hc
      unfold body at hc
      split at hc
      · rcases List.mem_append.1 hc with h | h
        · rcases List.mem_cons.1 h with h | h
          · omega
          · rw [List.mem_singleton.1 h]; omega
        · rcases List.mem_append.1 h with h | h
          · obtain ⟨_, rfl⟩ := List.mem_replicate.1 h; omega
          · exact Or.inr (hdg _ _ c h)
      · split at hc
        · rcases List.mem_append.1 hc with h | h
          · exact Or.inr (hdg _ _ c h)
          · rcases List.mem_cons.1 h with h | h
            · exact Or.inl h
            · exact Or.inr (hdg _ _ c h)
        · rcases List.mem_append.1 hc with h | h
          · exact Or.inr (hdg _ _ c h)
          · obtain ⟨_, rfl⟩ := List.mem_replicate.1 h; omega
    · have hlt : d < 10 ^ nd := by rw [← hnd]; exact Lib.lt_pow_nDigits d
      have hge : 10 ^ (nd - 1) ≤ d := by
        refine Nat.le_of_not_lt fun hc => ?_
        by_cases h1 : nd = 1
        · rw [h1] at hc; simp at hc; omega
        · have := nDigits_le (nd - 1) d (by omega) hc
          omega
      have h0 : 1 ≤ digAt d nd 0 := by
        unfold digAt
        rw [Nat.sub_zero]
        have a1 : 1 ≤ d / 10 ^ (nd - 1) := (Nat.le_div_iff_mul_le (Nat.pow_pos (by decide))).2 (by rw [Nat.one_mul]; exact hge)
        have a2 : d / 10 ^ (nd - 1) < 10 := by
          rw [Nat.div_lt_iff_lt_mul (Nat.pow_pos (by decide)), Nat.mul_comm, ← Nat.pow_succ]
          rw [show (nd - 1).succ = nd by omega]; exact hlt
        omega
      have hh : ∀ n r x, 1 ≤ n → digs (fun j => ((48 + digAt d nd j : Nat) : Int)) 0 n ++ x = 48 :: r → False := by
        intro n r x hn he
        obtain ⟨n', rfl⟩ : ∃ n', n = n' + 1 := ⟨n - 1, by omega⟩
        have : (digs (fun j => ((48 + digAt d nd j : Nat) : Int)) 0 (n' + 1) ++ x).head? = some 48 := by rw [he]; rfl
        unfold digs at this
        rw [List.range_succ_eq_map, List.map_cons] at this
        simp at this
        omega
      intro r hr
      unfold body at hr
      split at hr
      · right
        simp only [List.cons_append, List.nil_append] at hr
        exact ⟨_, (List.cons.inj hr).2.symm⟩
      · split at hr
        · exact absurd hr fun h => hh _ _ _ (by omega) h
        · exact absurd hr fun h => hh _ _ _ hn1 h
    · intro w hT
      rw [← hfw]
      exact parseFloat_any _ _ w (atof_any hf _ w hdec D P r1 r2 r3 hD1 hD2 hP1 hP2 (by rw [hv]; exact hn) hg hpos hT)

end Go.Proofs.YtdjjgnplpjoabaaGreatDoor
