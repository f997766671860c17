/- A decimal's text as the scanner meets it: its digits, its dot, and which number is read; its conditions: the text is a float's. -/
import Derived.Test.YtdjjgnplpjoabaaGreatDoorW32
namespace Go.Proofs.YtdjjgnplpjoabaaGreatDoor
open Go.RowKit

theorem chAt_str (l : List Int) (h : ∀ c ∈ l, 0 ≤ c ∧ c < 256) (i : Nat) (hi : i < l.length) : chAt (strOfNums l) i = l[i] := by
  obtain ⟨h1, h2⟩ := h l[i] (List.getElem_mem hi)
  unfold chAt
  have hl : i < (strOfNums l).data.toList.length := by rw [strOfNums_data, List.length_map]; exact hi
  rw [dif_pos hl]
  have e : (strOfNums l).data.toList[i] = UInt8.ofNat l[i].toNat := by simp [strOfNums_data]
  rw [e, show (UInt8.ofNat l[i].toNat).toNat = l[i].toNat % 256 from UInt8.toNat_ofNat', Nat.mod_eq_of_lt (by omega)]
  omega

theorem drop_str (l : List Int) (q : Nat) : (⟨((strOfNums l).data.toList.drop q).toArray⟩ : ByteArray) = strOfNums (l.drop q) := by
  rw [strOfNums_data, ← List.map_drop]; rfl

theorem dot_fold : ∀ (l : List Nat) (s : FB.RF), s.dot = true → (l.foldl FB.RF.step s).dot = true
  | [], s, h => h
  | c :: l, s, h => by
    rw [List.foldl_cons]
    refine dot_fold l _ ?_
    unfold FB.RF.step
    split
    · rfl
    · split
      · exact h
      · split <;> exact h
theorem dot_run (l : List Nat) (h : 46 ∈ l) : (FB.RF.run l).dot = true := by
  obtain ⟨a, b, rfl⟩ := List.append_of_mem h
  unfold FB.RF.run
  rw [List.foldl_append, List.foldl_cons]
  refine dot_fold b _ ?_
  unfold FB.RF.step
  rw [if_pos rfl]

/-- Digits, or digits, a dot and digits. -/
structure Parts (t : List Int) (m : Nat) : Prop where
  pos : 0 < m
  le : m ≤ t.length
  int : ∀ i (h : i < t.length), i < m → 48 ≤ t[i] ∧ t[i] ≤ 57
  dot : ∀ h : m < t.length, t[m] = 46
  frac : ∀ i (h : i < t.length), m < i → 48 ≤ t[i] ∧ t[i] ≤ 57
  zero : ∀ h : 0 < t.length, t[0] = 48 → m = 1

theorem parts_of {t : List Int} (h : Tok t) : ∃ m, Parts t m := by
  have hb : ∀ c ∈ t, 0 ≤ c ∧ c < 256 := fun c hc => by rcases h.chars c hc with h | h <;> omega
  have hsz : (strOfNums t).size = t.length := strOfNums_size t
  have h1 : 1 ≤ t.length := by have := h.dec.size1; omega
  have hnat : ∀ i (hi : i < t.length), ((strOfNums t)[i]'(by omega)).toNat = t[i].toNat := fun i hi => by
    have e : (nats (strOfNums t))[i]'(by rw [nats_length]; omega) = ((strOfNums t)[i]'(by omega)).toNat := by simp only [nats, List.getElem_map]; rfl
    rw [← e]
    have e2 := nats_str t hb
    simp only [e2, List.getElem_map]
  have h0 : t[0] ≠ 46 := by
    intro he
    have := h.dec.head (by omega)
    rw [hnat 0 (by omega), he] at this
    exact absurd this (by decide)
  refine ⟨t.findIdx (· == 46), ?_, List.findIdx_le_length, ?_, ?_, ?_, ?_⟩
  · rcases Nat.eq_zero_or_pos (t.findIdx (· == 46)) with e | e
    · have hlt : t.findIdx (· == 46) < t.length := by omega
      have := List.findIdx_getElem (w := hlt)
      simp only [e] at this
      exact absurd (by simpa using this) h0
    · exact e
  · intro i hi hlt
    have := List.not_of_lt_findIdx hlt
    rcases h.chars t[i] (List.getElem_mem hi) with h | h
    · simp [h] at this
    · exact h
  · intro hlt
    have := List.findIdx_getElem (w := hlt)
    simpa using this
  · intro i hi hlt
    rcases h.chars t[i] (List.getElem_mem hi) with hd | hd
    · exfalso
      have hlt' : t.findIdx (· == 46) < t.length := by omega
      have hm : t[t.findIdx (· == 46)] = 46 := by simpa using List.findIdx_getElem (w := hlt')
      have ho := h.dec.once i (by omega) (by rw [hnat i hi, hd]; rfl)
      rw [dot_run] at ho
      · cases ho
      · rw [nats_str t hb]
        refine List.mem_iff_getElem.2 ⟨t.findIdx (· == 46), by simp; omega, ?_⟩
        simp [hm]
    · exact hd
  · intro hh hz
    obtain ⟨a, r, rfl⟩ : ∃ a r, t = a :: r := by
      cases t with
      | nil => simp at h1
      | cons a r => exact ⟨a, r, rfl⟩
    simp only [List.getElem_cons_zero] at hz
    subst hz
    rcases h.zero r rfl with rfl | ⟨r', rfl⟩
    · rfl
    · simp [List.findIdx_cons]

/-- A scanner before a number: what it reads. -/
theorem num_any {T : TypeId} {B b r : Nat} {ea : Addr} {t : List Int} (neg : Bool) (ht : Tok t) : ∃ (c tok : Int), -4 ≤ tok ∧ tok ≤ -3 ∧ chAt (strOfNums (sgn neg ++ t)) (sgn neg).length = c ∧ 48 ≤ c ∧ c ≤ 57 ∧
    ∀ R3 w3, Env B b r (strOfNums (sgn neg ++ t)) ea R3 w3 → Cur T B b r (strOfNums (sgn neg ++ t)) (sgn neg).length R3 w3 (sgn neg).length w3 → R3 1041 = some (.int .u64 28) → Calls Tryz.prog 50 #[.pointer (some ⟨b, 0, none⟩), .int .i32 c, .bool false] w3 (Num T B b r (strOfNums (sgn neg ++ t)) (sgn neg).length R3 w3 tok) := by
  obtain ⟨m, hp⟩ := parts_of ht
  have hb : ∀ c ∈ sgn neg ++ t, 0 ≤ c ∧ c < 256 := fun c hc => by
    rcases List.mem_append.1 hc with h | h
    · cases neg
      · cases h
      · have : c = 45 := by simpa [sgn] using h
        omega
    · rcases ht.chars c h with h | h <;> omega
  have hch : ∀ i (h : i < t.length), chAt (strOfNums (sgn neg ++ t)) ((sgn neg).length + i) = t[i] := fun i h => by
    rw [chAt_str _ hb _ (by simp; omega), List.getElem_append_right (by omega)]
    congr 1
    omega
  have hsz : (strOfNums (sgn neg ++ t)).size = (sgn neg).length + t.length := by rw [strOfNums_size, List.length_append]
  generalize (sgn neg).length = q at *
  generalize strOfNums (sgn neg ++ t) = s at *
  have hle := hp.le
  have hpos := hp.pos
  have h0 := hch 0 (by omega)
  rw [Nat.add_zero] at h0
  obtain ⟨d1, d2⟩ := hp.int 0 (by omega) hpos
  have hint : ∀ i, q ≤ i → i < q + m → 48 ≤ chAt s i ∧ chAt s i ≤ 57 := fun i h1 h2 => by
    have := hch (i - q) (by omega)
    rw [show q + (i - q) = i by omega] at this
    rw [this]
    exact hp.int _ _ (by omega)
  have hfrac : ∀ i, q + m + 1 ≤ i → i < s.size → 48 ≤ chAt s i ∧ chAt s i ≤ 57 := fun i h1 h2 => by
    have := hch (i - q) (by omega)
    rw [show q + (i - q) = i by omega] at this
    rw [this]
    exact hp.frac _ _ (by omega)
  have hdot : m < t.length → chAt s (q + m) = 46 := fun h => (hch m h).trans (hp.dot h)
  by_cases hz : t[0] = 48
  · have hm1 := hp.zero (by omega) hz
    subst hm1
    have hc : chAt s q = 48 := h0.trans hz
    by_cases hl : t.length = 1
    · exact ⟨48, -3, by omega, by omega, hc, by omega, by omega, fun R3 w3 hE hC hM => num_B1 hE w3 hC hM hc (show q + 1 = s.size by omega)⟩
    · by_cases hl2 : t.length = 2
      · exact ⟨48, -4, by omega, by omega, hc, by omega, by omega, fun R3 w3 hE hC hM => num_B2n hE w3 hC hM hc (by omega) (hdot (by omega)) (show q + 1 + 1 = s.size by omega)⟩
      · exact ⟨48, -4, by omega, by omega, hc, by omega, by omega, fun R3 w3 hE hC hM => num_B2s hE w3 hC hM hc (by omega) (hdot (by omega)) _ rfl (by omega) (fun i h1 h2 => hfrac i h1 h2)⟩
  · have hne : (t[0] == 48) = false := beq_eq_false_iff_ne.2 hz
    by_cases hl : m = t.length
    · exact ⟨t[0], -3, by omega, by omega, h0, d1, d2, fun R3 w3 hE hC hM => num_A1 hE w3 hC hM _ h0 (by omega) (fun i h1 h2 => hint i h1 (by omega)) hne⟩
    · by_cases hl2 : m + 1 = t.length
      · exact ⟨t[0], -4, by omega, by omega, h0, d1, d2, fun R3 w3 hE hC hM => num_A2n hE w3 hC hM _ (q + m) h0 (by omega) (by omega) (fun i h1 h2 => hint i h1 h2) hne (hdot (by omega)) (show q + m + 1 = s.size by omega)⟩
      · exact ⟨t[0], -4, by omega, by omega, h0, d1, d2, fun R3 w3 hE hC hM => num_A2s hE w3 hC hM _ (q + m) h0 (by omega) (by omega) (fun i h1 h2 => hint i h1 h2) hne (hdot (by omega)) _ rfl (by omega) (fun i h1 h2 => hfrac i h1 h2)⟩

end Go.Proofs.YtdjjgnplpjoabaaGreatDoor
