namespace Go.Proofs.Qxb6605670a

/-- The run of backslashes that ends ahead of place k (place 0 does not count). -/
def run (b : Nat → Nat) : Nat → Nat
  | 0 => 0
  | k + 1 => if 1 ≤ k ∧ b k = 92 then run b k + 1 else 0

/-- A double quote at j with an even run of backslashes ahead of it. -/
def Good (b : Nat → Nat) (n j : Nat) : Prop := 1 ≤ j ∧ j < n ∧ b j = 34 ∧ run b j % 2 = 0

/-- The answer: one past the first good place; -1 when there is none. -/
def EndIs (b : Nat → Nat) (n : Nat) (r : Int) : Prop :=
  (r = -1 ∧ ∀ j, ¬ Good b n j) ∨ ∃ j, Good b n j ∧ (∀ i, i < j → ¬ Good b n i) ∧ r = (j : Int) + 1

theorem EndIs.unique {b : Nat → Nat} {n : Nat} {r r' : Int} (h : EndIs b n r) (h' : EndIs b n r') : r = r' := by
  rcases h with ⟨rfl, h⟩ | ⟨j, hj, hf, rfl⟩
  · rcases h' with ⟨rfl, _⟩ | ⟨j, hj, _, _⟩
    · rfl
    · exact absurd hj (h j)
  · rcases h' with ⟨rfl, h'⟩ | ⟨j', hj', hf', rfl⟩
    · exact absurd hj (h' j)
    · have : j = j' := by
        rcases Nat.lt_trichotomy j j' with h | h | h
        · exact absurd hj (hf' j h)
        · exact h
        · exact absurd hj' (hf j' h)
      rw [this]

/-- What holds where the scan stands at i. -/
def Inv (b : Nat → Nat) (n i : Nat) : Prop := 1 ≤ i ∧ run b i % 2 = 0 ∧ ∀ j, j < i → ¬ Good b n j

theorem Inv.start (b : Nat → Nat) (n : Nat) : Inv b n 1 := by
  refine ⟨by omega, by simp [run], fun j hj hg => ?_⟩
  have := hg.1
  omega

theorem Inv.esc {b : Nat → Nat} {n i : Nat} (h : Inv b n i) (hb : b i = 92) : Inv b n (i + 2) := by
  obtain ⟨h1, h2, h3⟩ := h
  have r1 : run b (i + 1) = run b i + 1 := by simp [run, h1, hb]
  refine ⟨by omega, ?_, fun j hj hg => ?_⟩
  · show run b ((i + 1) + 1) % 2 = 0
    unfold run
    split <;> omega
  · by_cases hji : j < i
    · exact h3 j hji hg
    · obtain ⟨_, _, g3, g4⟩ := hg
      by_cases hj2 : j = i
      · subst hj2; omega
      · have : j = i + 1 := by omega
        subst this
        omega

theorem Inv.plain {b : Nat → Nat} {n i : Nat} (h : Inv b n i) (hb : b i ≠ 92) (hq : b i ≠ 34) : Inv b n (i + 1) := by
  obtain ⟨h1, h2, h3⟩ := h
  refine ⟨by omega, by simp [run, hb], fun j hj hg => ?_⟩
  by_cases hji : j < i
  · exact h3 j hji hg
  · have : j = i := by omega
    subst this
    exact hq hg.2.2.1

theorem Inv.found {b : Nat → Nat} {n i : Nat} (h : Inv b n i) (hb : b i = 34) (hi : i < n) : EndIs b n ((i : Int) + 1) :=
  .inr ⟨i, ⟨h.1, hi, hb, h.2.1⟩, h.2.2, rfl⟩

theorem Inv.none {b : Nat → Nat} {n i : Nat} (h : Inv b n i) (hi : n ≤ i) : EndIs b n (-1) :=
  .inl ⟨rfl, fun j hg => h.2.2 j (by have := hg.2.1; omega) hg⟩

/-- The model's own look: no good place ahead of j. -/
def NoneTo (b : Nat → Nat) (n j : Nat) : Prop := 1 ≤ j ∧ ∀ i, i < j → ¬ Good b n i
theorem NoneTo.start (b : Nat → Nat) (n : Nat) : NoneTo b n 1 := ⟨by omega, fun j hj hg => by have := hg.1; omega⟩
theorem NoneTo.skip {b : Nat → Nat} {n j : Nat} (h : NoneTo b n j) (hg : ¬ Good b n j) : NoneTo b n (j + 1) :=
  ⟨by omega, fun i hi g => by
    by_cases e : i < j
    · exact h.2 i e g
    · have : i = j := by omega
      subst this; exact hg g⟩
theorem NoneTo.other {b : Nat → Nat} {n j : Nat} (h : NoneTo b n j) (hb : b j ≠ 34) : NoneTo b n (j + 1) := h.skip fun g => hb g.2.2.1
theorem NoneTo.odd {b : Nat → Nat} {n j : Nat} (h : NoneTo b n j) (hr : run b j % 2 ≠ 0) : NoneTo b n (j + 1) := h.skip fun g => hr g.2.2.2
theorem NoneTo.found {b : Nat → Nat} {n j : Nat} (h : NoneTo b n j) (hj : j < n) (hb : b j = 34) (hr : run b j % 2 = 0) : EndIs b n ((j : Int) + 1) :=
  .inr ⟨j, ⟨h.1, hj, hb, hr⟩, h.2, rfl⟩
theorem NoneTo.none {b : Nat → Nat} {n j : Nat} (h : NoneTo b n j) (hj : n ≤ j) : EndIs b n (-1) :=
  .inl ⟨rfl, fun i hg => h.2 i (by have := hg.2.1; omega) hg⟩

theorem run_le (b : Nat → Nat) : ∀ k, run b k ≤ k
  | 0 => Nat.le_refl _
  | k + 1 => by
    have := run_le b k
    unfold run
    split <;> omega
theorem run_more {b : Nat → Nat} {k : Nat} (h1 : 1 ≤ k) (hb : b k = 92) : run b (k + 1) = run b k + 1 := by simp [run, h1, hb]
theorem run_stop {b : Nat → Nat} {k : Nat} (h : ¬ (1 ≤ k ∧ b k = 92)) : run b (k + 1) = 0 := by simp [run, h]

end Go.Proofs.Qxb6605670a
