/- How a decimal's bytes are read, in plain numbers. -/
namespace Go.Proofs.YtdjjgnplpjoabaaGreatDoor.FB

/-- What has been read of a decimal: its leading digits as a number, how many digits there were, how many of them are in the number, where the point stands. -/
structure RF where
  mant : Nat
  nd : Nat
  ndm : Nat
  dp : Int
  trunc : Bool
  dot : Bool

def RF.init : RF := ⟨0, 0, 0, 0, false, false⟩
def RF.step (s : RF) (c : Nat) : RF :=
  if c = 46 then { s with dot := true, dp := s.nd }
  else if c = 48 ∧ s.nd = 0 then { s with dp := s.dp - 1 }
  else if s.ndm < 19 then { s with nd := s.nd + 1, mant := s.mant * 10 + (c - 48), ndm := s.ndm + 1 }
  else { s with nd := s.nd + 1, trunc := s.trunc || c != 48 }
def RF.run (l : List Nat) : RF := l.foldl RF.step RF.init

theorem RF.run_snoc (l : List Nat) (c : Nat) : RF.run (l ++ [c]) = (RF.run l).step c := by simp [RF.run]

/-- What stays true as long as digits and points come. -/
structure RF.Ok (s : RF) (k : Nat) : Prop where
  m : s.mant < 10 ^ s.ndm
  n : s.ndm ≤ 19
  d : s.ndm ≤ s.nd
  le : s.nd ≤ k
  p1 : -(k : Int) ≤ s.dp
  p2 : s.dp ≤ k
  t : s.nd < 19 → s.ndm = s.nd

theorem RF.Ok.step {s : RF} {k c : Nat} (h : s.Ok k) (hc : c = 46 ∨ 48 ≤ c ∧ c ≤ 57) : (s.step c).Ok (k + 1) := by
  obtain ⟨h1, h2, h3, h4, h5, h6, h7⟩ := h
  unfold RF.step
  split
  · exact ⟨h1, h2, h3, by simp; omega, by simp; omega, by simp; omega, h7⟩
  · split
    · exact ⟨h1, h2, h3, by simp; omega, by simp; omega, by simp; omega, h7⟩
    · split
      · refine ⟨?_, by simp; omega, by simp; omega, by simp; omega, by simp; omega, by simp; omega, ?_⟩
        · show s.mant * 10 + (c - 48) < 10 ^ (s.ndm + 1)
          rw [Nat.pow_succ]; omega
        · intro hlt; simp at hlt ⊢; omega
      · exact ⟨h1, h2, by simp; omega, by simp; omega, by simp; omega, by simp; omega, by intro hlt; simp at hlt; omega⟩

theorem RF.run_ok : ∀ (l : List Nat), (∀ c ∈ l, c = 46 ∨ 48 ≤ c ∧ c ≤ 57) → (RF.run l).Ok l.length := by
  intro l
  suffices all : ∀ (l : List Nat) (s : RF) (k : Nat), s.Ok k → (∀ c ∈ l, c = 46 ∨ 48 ≤ c ∧ c ≤ 57) → (l.foldl RF.step s).Ok (k + l.length) by
    intro h
    have := all l RF.init 0 ⟨by decide, by decide, by decide, by decide, by decide, by decide, fun _ => rfl⟩ h
    rw [Nat.zero_add] at this
    exact this
  intro l
  induction l with
  | nil => intro s k h _; exact h
  | cons c l ih =>
    intro s k h hl
    simp only [List.foldl_cons, List.length_cons]
    have := ih (s.step c) (k + 1) (h.step (hl c (by simp))) (fun x hx => hl x (by simp [hx]))
    rw [show k + (l.length + 1) = k + 1 + l.length by omega]
    exact this

/-- The number that is read: its leading digits and its exponent. -/
def RF.exp (s : RF) : Int := if s.mant = 0 then 0 else (if s.dot then s.dp else s.nd) - s.ndm

end Go.Proofs.YtdjjgnplpjoabaaGreatDoor.FB
