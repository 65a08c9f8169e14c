namespace Go.Proofs.Qxb6605793a

abbrev Bytes := List UInt8

/-- A pattern: the last byte is the star. -/
def pat (l : Bytes) : Bool := l.getLast? == some 42
/-- What stands ahead of the last byte begins p. -/
def pre (l p : Bytes) : Bool := l.dropLast.isPrefixOf p

/-- The documented rule. -/
def Ans (es : List Bytes) (p r : Bytes) (ok : Bool) : Prop :=
  (p ∈ es ∧ pat p = false ∧ r = p ∧ ok = true) ∨
  (¬ (p ∈ es ∧ pat p = false) ∧ ok = true ∧ r ∈ es ∧ pat r = true ∧ pre r p = true ∧ ∀ e ∈ es, pat e = true → pre e p = true → e.length ≤ r.length) ∨
  (¬ (p ∈ es ∧ pat p = false) ∧ ok = false ∧ r = [] ∧ ∀ e ∈ es, pat e = true → pre e p = false)

theorem pat_split {l : Bytes} (h : pat l = true) : l = l.dropLast ++ [42] := by
  unfold pat at h
  have h' : l.getLast? = some 42 := by simpa using h
  cases l with
  | nil => simp at h'
  | cons a t =>
    have hne : a :: t ≠ [] := by simp
    have := List.dropLast_concat_getLast hne
    rw [List.getLast?_eq_some_getLast hne] at h'
    rw [Option.some.inj h'] at this
    exact this.symm
theorem pat_length {l : Bytes} (h : pat l = true) : 1 ≤ l.length := by
  rw [pat_split h]; simp

theorem pat_unique {a b p : Bytes} (ha : pat a = true) (hb : pat b = true) (pa : pre a p = true) (pb : pre b p = true) (hl : a.length = b.length) : a = b := by
  unfold pre at pa pb
  rw [List.isPrefixOf_iff_prefix] at pa pb
  have e : a.dropLast = b.dropLast := List.prefix_of_prefix_length_le pa pb (by simp; omega) |>.eq_of_length (by simp; omega)
  rw [pat_split ha, pat_split hb, e]

theorem Ans.unique {es : List Bytes} {p r r' : Bytes} {ok ok' : Bool} (h : Ans es p r ok) (h' : Ans es p r' ok') : r = r' ∧ ok = ok' := by
  rcases h with ⟨h1, h2, rfl, rfl⟩ | ⟨h1, rfl, h3, h4, h5, h6⟩ | ⟨h1, rfl, rfl, h4⟩
  · rcases h' with ⟨g1, g2, rfl, rfl⟩ | ⟨g1, _⟩ | ⟨g1, _⟩
    · exact ⟨rfl, rfl⟩
    · exact absurd ⟨h1, h2⟩ g1
    · exact absurd ⟨h1, h2⟩ g1
  · rcases h' with ⟨g1, g2, _⟩ | ⟨g1, rfl, g3, g4, g5, g6⟩ | ⟨g1, rfl, rfl, g4⟩
    · exact absurd ⟨g1, g2⟩ h1
    · refine ⟨pat_unique h4 g4 h5 g5 ?_, rfl⟩
      have a := h6 _ g3 g4 g5
      have b := g6 _ h3 h4 h5
      omega
    · have := g4 _ h3 h4
      rw [h5] at this; cases this
  · rcases h' with ⟨g1, g2, _⟩ | ⟨g1, rfl, g3, g4, g5, g6⟩ | ⟨g1, rfl, rfl, g4⟩
    · exact absurd ⟨g1, g2⟩ h1
    · have := h4 _ g3 g4
      rw [g5] at this; cases this
    · exact ⟨rfl, rfl⟩

theorem pat_star : pat [42] = true := rfl
theorem pre_star (p : Bytes) : pre [42] p = true := rfl
theorem pre_self (p : Bytes) : pre p p = true := by
  unfold pre
  rw [List.isPrefixOf_iff_prefix]
  exact List.dropLast_prefix p

/-- '*' added: an old answer stays. -/
theorem Ans.star_yes {es : List Bytes} {p r : Bytes} (h : Ans es p r true) : Ans (es ++ [[42]]) p r true := by
  have hx : ∀ {q : Bytes}, ¬ (q ∈ es ∧ pat q = false) → ¬ (q ∈ es ++ [[42]] ∧ pat q = false) := by
    intro q hn hq
    rw [List.mem_append, List.mem_singleton] at hq
    rcases hq with ⟨h | rfl, hp⟩
    · exact hn ⟨h, hp⟩
    · rw [pat_star] at hp; cases hp
  rcases h with ⟨h1, h2, rfl, _⟩ | ⟨h1, _, h3, h4, h5, h6⟩ | ⟨_, h, _⟩
  · exact .inl ⟨List.mem_append_left _ h1, h2, rfl, rfl⟩
  · refine .inr (.inl ⟨hx h1, rfl, List.mem_append_left _ h3, h4, h5, fun e he pe me => ?_⟩)
    rw [List.mem_append, List.mem_singleton] at he
    rcases he with he | rfl
    · exact h6 e he pe me
    · exact pat_length h4
  · cases h
/-- .. and where there was none it is the star. -/
theorem Ans.star_no {es : List Bytes} {p r : Bytes} (h : Ans es p r false) : Ans (es ++ [[42]]) p [42] true := by
  rcases h with ⟨_, _, _, h⟩ | ⟨_, h, _⟩ | ⟨h1, _, _, h4⟩
  · cases h
  · cases h
  · refine .inr (.inl ⟨?_, rfl, by simp, pat_star, pre_star p, fun e he pe me => ?_⟩)
    · intro hq
      rw [List.mem_append, List.mem_singleton] at hq
      rcases hq with ⟨h | h, hp⟩
      · exact h1 ⟨h, hp⟩
      · rw [h, pat_star] at hp; cases hp
    · rw [List.mem_append, List.mem_singleton] at he
      rcases he with he | rfl
      · rw [h4 e he pe] at me; cases me
      · simp
theorem Ans.star_ok {es : List Bytes} {p r : Bytes} {ok : Bool} (h : Ans (es ++ [[42]]) p r ok) : ok = true := by
  rcases h with ⟨_, _, _, h⟩ | ⟨_, h, _⟩ | ⟨_, _, _, h4⟩
  · exact h
  · exact h
  · have := h4 [42] (by simp) pat_star
    rw [pre_star] at this; cases this
/-- The path itself added. -/
theorem Ans.own_plain {es : List Bytes} {p r : Bytes} {ok : Bool} (hp : pat p = false) (h : Ans (es ++ [p]) p r ok) : ok = true ∧ r = p := by
  rcases h with ⟨_, _, h, h'⟩ | ⟨h, _⟩ | ⟨h, _⟩
  · exact ⟨h', h⟩
  · exact absurd ⟨by simp, hp⟩ h
  · exact absurd ⟨by simp, hp⟩ h
theorem Ans.own_pat {es : List Bytes} {p r : Bytes} {ok : Bool} (hp : pat p = true) (h : Ans (es ++ [p]) p r ok) : ok = true ∧ pat r = true ∧ p.length ≤ r.length ∧ pre r p = true := by
  rcases h with ⟨_, h, _⟩ | ⟨_, h, _, h4, h5, h6⟩ | ⟨_, _, _, h4⟩
  · rw [hp] at h; cases h
  · exact ⟨h, h4, h6 p (by simp) hp (pre_self p), h5⟩
  · have := h4 p (by simp) hp
    rw [pre_self] at this; cases this

/-! ### The model's one pass -/
/-- What the model holds when the entries 'pr' are behind it. -/
def Pass (pr : List Bytes) (p best : Bytes) (found : Bool) : Prop :=
  ¬ (p ∈ pr ∧ pat p = false) ∧
  ((found = true ∧ best ∈ pr ∧ pat best = true ∧ pre best p = true ∧ ∀ e ∈ pr, pat e = true → pre e p = true → e.length ≤ best.length) ∨
   (found = false ∧ best = [] ∧ ∀ e ∈ pr, pat e = true → pre e p = false))
theorem Pass.start (p : Bytes) : Pass [] p [] false := ⟨by simp, .inr ⟨rfl, rfl, by simp⟩⟩
theorem Pass.done {es : List Bytes} {p best : Bytes} {found : Bool} (h : Pass es p best found) : Ans es p best found := by
  obtain ⟨h1, h2 | h2⟩ := h
  · exact .inr (.inl ⟨h1, h2⟩)
  · exact .inr (.inr ⟨h1, h2⟩)
theorem ans_exact {es : List Bytes} {p : Bytes} (hm : p ∈ es) (hp : pat p = false) : Ans es p p true := .inl ⟨hm, hp, rfl, rfl⟩
theorem Pass.plain {pr : List Bytes} {p best e : Bytes} {found : Bool} (h : Pass pr p best found) (he : pat e = false) (hne : e ≠ p) : Pass (pr ++ [e]) p best found := by
  obtain ⟨h1, h2⟩ := h
  refine ⟨fun ⟨hm, hp⟩ => ?_, ?_⟩
  · rw [List.mem_append, List.mem_singleton] at hm
    rcases hm with hm | rfl
    · exact h1 ⟨hm, hp⟩
    · exact hne rfl
  · rcases h2 with ⟨g1, g2, g3, g4, g5⟩ | ⟨g1, g2, g3⟩
    · refine .inl ⟨g1, List.mem_append_left _ g2, g3, g4, fun x hx px mx => ?_⟩
      rw [List.mem_append, List.mem_singleton] at hx
      rcases hx with hx | rfl
      · exact g5 x hx px mx
      · rw [he] at px; cases px
    · refine .inr ⟨g1, g2, fun x hx px => ?_⟩
      rw [List.mem_append, List.mem_singleton] at hx
      rcases hx with hx | rfl
      · exact g3 x hx px
      · rw [he] at px; cases px
theorem Pass.other {pr : List Bytes} {p best e : Bytes} {found : Bool} (h : Pass pr p best found) (he : pat e = true) (hno : pre e p = false ∨ (found = true ∧ e.length ≤ best.length)) : Pass (pr ++ [e]) p best found := by
  obtain ⟨h1, h2⟩ := h
  refine ⟨fun ⟨hm, hp⟩ => ?_, ?_⟩
  · rw [List.mem_append, List.mem_singleton] at hm
    rcases hm with hm | rfl
    · exact h1 ⟨hm, hp⟩
    · rw [he] at hp; cases hp
  · rcases h2 with ⟨g1, g2, g3, g4, g5⟩ | ⟨g1, g2, g3⟩
    · refine .inl ⟨g1, List.mem_append_left _ g2, g3, g4, fun x hx px mx => ?_⟩
      rw [List.mem_append, List.mem_singleton] at hx
      rcases hx with hx | rfl
      · exact g5 x hx px mx
      · rcases hno with hno | hno
        · rw [hno] at mx; cases mx
        · exact hno.2
    · refine .inr ⟨g1, g2, fun x hx px => ?_⟩
      rw [List.mem_append, List.mem_singleton] at hx
      rcases hx with hx | rfl
      · exact g3 x hx px
      · rcases hno with hno | hno
        · exact hno
        · rw [g1] at hno; exact absurd hno.1 (by simp)
theorem Pass.take {pr : List Bytes} {p best e : Bytes} {found : Bool} (h : Pass pr p best found) (he : pat e = true) (hm : pre e p = true) (hl : found = false ∨ best.length < e.length) : Pass (pr ++ [e]) p e true := by
  obtain ⟨h1, h2⟩ := h
  refine ⟨fun ⟨hm, hp⟩ => ?_, .inl ⟨rfl, by simp, he, hm, fun x hx px mx => ?_⟩⟩
  · rw [List.mem_append, List.mem_singleton] at hm
    rcases hm with hm | rfl
    · exact h1 ⟨hm, hp⟩
    · rw [he] at hp; cases hp
  · rw [List.mem_append, List.mem_singleton] at hx
    rcases hx with hx | rfl
    · rcases h2 with ⟨g1, _, _, _, g5⟩ | ⟨g1, _, g3⟩
      · have := g5 x hx px mx
        rcases hl with hl | hl
        · rw [g1] at hl; cases hl
        · omega
      · rw [g3 x hx px] at mx; cases mx
    · exact Nat.le_refl _

/-! ### The path set: the exact entries, and the patterns, longest first -/
/-- 'ps' holds the patterns of es, longest first. -/
def Longest (es ps : List Bytes) : Prop := (∀ x, x ∈ ps ↔ x ∈ es ∧ pat x = true) ∧ ∀ i j (hi : i < ps.length) (hj : j < ps.length), i < j → ps[j].length ≤ ps[i].length
theorem Longest.hit {es ps : List Bytes} {p : Bytes} (h : Longest es ps) (hx : ¬ (p ∈ es ∧ pat p = false)) (k : Nat) (hk : k < ps.length) (hno : ∀ i (hi : i < ps.length), i < k → pre ps[i] p = false) (hm : pre ps[k] p = true) :
    Ans es p ps[k] true := by
  have hmem := (h.1 ps[k]).1 (List.getElem_mem hk)
  refine .inr (.inl ⟨hx, rfl, hmem.1, hmem.2, hm, fun e he pe me => ?_⟩)
  obtain ⟨i, hi, rfl⟩ := List.getElem_of_mem ((h.1 e).2 ⟨he, pe⟩)
  rcases Nat.lt_trichotomy i k with hik | hik | hik
  · rw [hno i hi hik] at me; cases me
  · subst hik; exact Nat.le_refl _
  · exact h.2 k i hk hi hik
theorem Longest.miss {es ps : List Bytes} {p : Bytes} (h : Longest es ps) (hx : ¬ (p ∈ es ∧ pat p = false)) (hno : ∀ i (hi : i < ps.length), pre ps[i] p = false) : Ans es p [] false := by
  refine .inr (.inr ⟨hx, rfl, rfl, fun e he pe => ?_⟩)
  obtain ⟨i, hi, rfl⟩ := List.getElem_of_mem ((h.1 e).2 ⟨he, pe⟩)
  exact hno i hi
end Go.Proofs.Qxb6605793a
