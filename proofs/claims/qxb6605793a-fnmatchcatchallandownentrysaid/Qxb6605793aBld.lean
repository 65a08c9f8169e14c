import Derived.Test.Qxb6605793aIter
import Derived.Test.Qxb6605793aExact
import Derived.Test.Qxb6605793aSort0
namespace Go.Proofs.Qxb6605793a
open Go.RowKit Go.Shelf
set_option linter.unusedVariables false

def pats (ss : List ByteArray) : List ByteArray := ss.filter fun s => pat (bs s)
def plains (ss : List ByteArray) : List ByteArray := ss.filter fun s => !pat (bs s)
/-- The set in the making: k entries are in. The result's block, the set's block, the loop's two blocks, the rest. -/
def BldAt (w : World) (ss : List ByteArray) (k : Nat) (W : World) (mo : Option Nat) (v : Value) : Prop :=
  W.heap[w.heap.size]? = some (.cells #[.map none, .slice none 0 0] 60) ∧ Below w.heap.size w W ∧ w.heap.size + 4 ≤ W.heap.size ∧
  W.heap[w.heap.size + 1]? = some (.cells #[.map mo, v] 60) ∧ ExactAt W mo (plains (ss.take k)) ∧ (∀ M, mo = some M → w.heap.size + 4 ≤ M) ∧
  W.ownsRow (w.heap.size + 4) 9 1 v (pats (ss.take k)).length ((pats (ss.take k)).map .string)
def Bld (w : World) (ss : List ByteArray) (k : Nat) (W : World) : Prop := ∃ mo v, BldAt w ss k W mo v
/-- The loop's two blocks lie as they lay. -/
def Kept (w W W' : World) : Prop := W'.heap[w.heap.size + 2]? = W.heap[w.heap.size + 2]? ∧ W'.heap[w.heap.size + 2 + 1]? = W.heap[w.heap.size + 2 + 1]? ∧ Below w.heap.size W W'

theorem Kept.trans {w A B C : World} (h : Kept w A B) (k : Kept w B C) : Kept w A C := ⟨k.1.trans h.1, k.2.1.trans h.2.1, h.2.2.trans k.2.2⟩
theorem Kept.refl (w A : World) : Kept w A A := ⟨rfl, rfl, Below.refl _ _⟩

theorem take_next {ss : List ByteArray} {k : Nat} (hk : k < ss.length) : ss.take (k + 1) = ss.take k ++ [ss.getD k ByteArray.empty] := by
  rw [List.take_add_one, List.getD_eq_getElem?_getD, List.getElem?_eq_getElem hk]; rfl
theorem pats_yes {ss : List ByteArray} {k : Nat} (hk : k < ss.length) (h : pat (bs (ss.getD k ByteArray.empty)) = true) : pats (ss.take (k + 1)) = pats (ss.take k) ++ [ss.getD k ByteArray.empty] ∧ plains (ss.take (k + 1)) = plains (ss.take k) := by
  rw [take_next hk]; unfold pats plains
  rw [List.filter_append, List.filter_append]
  simp only [List.filter_cons, List.filter_nil, h, Bool.not_true, if_true, Bool.false_eq_true, if_false, List.append_nil]
  exact ⟨trivial, trivial⟩
theorem pats_no {ss : List ByteArray} {k : Nat} (hk : k < ss.length) (h : pat (bs (ss.getD k ByteArray.empty)) = false) : pats (ss.take (k + 1)) = pats (ss.take k) ∧ plains (ss.take (k + 1)) = plains (ss.take k) ++ [ss.getD k ByteArray.empty] := by
  rw [take_next hk]; unfold pats plains
  rw [List.filter_append, List.filter_append]
  simp only [List.filter_cons, List.filter_nil, h, Bool.not_false, if_true, Bool.false_eq_true, if_false, List.append_nil]
  exact ⟨trivial, trivial⟩

theorem ownsRow_via {W W' : World} {base : Nat} {e : TypeId} {size : Nat} {v : Value} {n : Nat} {xs : List Value} (h : W.ownsRow base e size v n xs) (hh : ∀ j, base ≤ j → j < W.heap.size → W'.heap[j]? = W.heap[j]?) : W'.ownsRow base e size v n xs := by
  refine ⟨h.1, ?_⟩
  rcases h.2 with h | ⟨g, cap, cur, hv, hb, hg, r⟩
  · exact .inl h
  · exact .inr ⟨g, cap, cur, hv, hb, (hh g hb (Array.getElem?_eq_some_iff.1 hg).1).trans hg, r⟩

theorem BldAt.via {w W W' : World} {ss : List ByteArray} {k : Nat} {mo : Option Nat} {v : Value} (h : BldAt w ss k W mo v) (hB : Below w.heap.size W W')
    (hh : ∀ j, j < W.heap.size → j ≠ w.heap.size + 3 → W'.heap[j]? = W.heap[j]?) : BldAt w ss k W' mo v := by
  obtain ⟨h1, h2, h3, h4, h5, h6, h7⟩ := h
  refine ⟨(hh _ (by omega) (by omega)).trans h1, h2.trans hB, Nat.le_trans h3 hB.size, (hh _ (by omega) (by omega)).trans h4, h5.heap fun M es c hm hM => ?_, h6, ownsRow_via h7 fun j hj hl => hh j hl (by omega)⟩
  have := h6 M hm
  exact (hh M (Array.getElem?_eq_some_iff.1 hM).1 (by omega)).trans hM

theorem Bld.put {w W : World} {ss : List ByteArray} {k : Nat} (h : Bld w ss k W) (o : Obj) : Bld w ss k (W.putObj (w.heap.size + 2 + 1) o) := by
  obtain ⟨mo, v, h⟩ := h
  exact ⟨mo, v, h.via (below_putLoop (Below.refl _ _) (by omega) _) fun j _ hj => World.putObj_heap_other (by omega)⟩

/-- The map is made. -/
theorem BldAt.make {w W : World} {ss : List ByteArray} {k : Nat} {v : Value} (h : BldAt w ss k W none v) :
    BldAt w ss k ((W.alloc (.map #[] 0)).setCell ⟨w.heap.size + 1, 0, none⟩ (.map (some W.heap.size))) (some W.heap.size) v ∧ Kept w W ((W.alloc (.map #[] 0)).setCell ⟨w.heap.size + 1, 0, none⟩ (.map (some W.heap.size))) := by
  obtain ⟨h1, h2, h3, h4, h5, h6, h7⟩ := h
  have hB : Below w.heap.size W ((W.alloc (.map #[] 0)).setCell ⟨w.heap.size + 1, 0, none⟩ (.map (some W.heap.size))) :=
    ((Below.refl _ W).alloc (by omega) _).setCell (p := ⟨w.heap.size + 1, 0, none⟩) (by simp) _
  have old : ∀ j, j < W.heap.size → j ≠ w.heap.size + 1 → ((W.alloc (.map #[] 0)).setCell ⟨w.heap.size + 1, 0, none⟩ (.map (some W.heap.size))).heap[j]? = W.heap[j]? := fun j hj hne =>
    (Below.heap_setCell _ _ _ j hne).trans (Below.heap_alloc _ _ _ hj)
  have hks : plains (ss.take k) = [] := by
    rcases h5 with ⟨_, h⟩ | ⟨M, _, _, h, _⟩
    · exact h
    · cases h
  refine ⟨⟨(old _ (by omega) (by omega)).trans h1, h2.trans hB, Nat.le_trans h3 hB.size, ?_, ?_, fun M hM => ?_, ownsRow_via h7 fun j hj hl => old j hl (by omega)⟩, old _ (by omega) (by omega), old _ (by omega) (by omega), hB⟩
  · have := heap_cell_set ((Below.heap_alloc W (.map #[] 0) (w.heap.size + 1) (by omega)).trans h4) 0 (.map (some W.heap.size))
    exact this
  · rw [hks]
    exact .inr ⟨W.heap.size, #[], 0, rfl, (Below.heap_setCell _ _ _ _ (by show W.heap.size ≠ w.heap.size + 1; omega)).trans (World.alloc_heap_new W _), fun e he => by simp at he, fun k hk => by simp at hk⟩
  · cases hM; exact h3

/-- An exact entry is put. -/
theorem BldAt.entry {w W : World} {ss : List ByteArray} {k M : Nat} {v : Value} (h : BldAt w ss k W (some M) v) (hk : k < ss.length) (hp : pat (bs (ss.getD k ByteArray.empty)) = false) :
    ∃ es c, (Instr.mapUpdate 58 (.map (some M)) (.string (ss.getD k ByteArray.empty)) (.bool true)).run Try.prog W = .ok () (putMap W M (.map es c)) ∧ BldAt w ss (k + 1) (putMap W M (.map es c)) (some M) v ∧ Kept w W (putMap W M (.map es c)) := by
  obtain ⟨h1, h2, h3, h4, h5, h6, h7⟩ := h
  obtain ⟨es, c, hr, hE⟩ := upd58 h5 (ss.getD k ByteArray.empty)
  have hMb := h6 M rfl
  have hMm : ∃ es c, W.heap[M]? = some (.map es c) := by
    rcases h5 with ⟨h, _⟩ | ⟨M', es, c, h, hM, _⟩
    · cases h
    · cases h; exact ⟨es, c, hM⟩
  have old : ∀ j, j ≠ M → (putMap W M (.map es c)).heap[j]? = W.heap[j]? := fun j hne => by
    unfold putMap
    show (W.heap.setIfInBounds M _)[j]? = _
    rw [Array.getElem?_setIfInBounds, if_neg (Ne.symm hne)]
  have hsz : (putMap W M (.map es c)).heap.size = W.heap.size := by simp [putMap]
  have hB : Below w.heap.size W (putMap W M (.map es c)) := ⟨rfl, rfl, rfl, by rw [hsz]; exact Nat.le_refl _, fun j hj => old j (by omega)⟩
  obtain ⟨e1, e2⟩ := pats_no hk hp
  refine ⟨es, c, hr, ⟨(old _ (by omega)).trans h1, h2.trans hB, by rw [hsz]; exact h3, (old _ (by omega)).trans h4, by rw [e2]; exact hE, h6, ?_⟩, old _ (by omega), old _ (by omega), hB⟩
  rw [e1]
  refine ⟨h7.1, ?_⟩
  rcases h7.2 with h | ⟨g, cap, cur, hv, hb, hg, r⟩
  · exact .inl h
  · obtain ⟨es', c', hM'⟩ := hMm
    exact .inr ⟨g, cap, cur, hv, hb, (old g (fun e => by rw [e, hM'] at hg; cases hg)).trans hg, r⟩

/-- A pattern is appended. -/
theorem BldAt.pattern {w W w1 : World} {ss : List ByteArray} {k : Nat} {mo : Option Nat} {v v' : Value} {tmp : Obj} (h : BldAt w ss k W mo v) (hk : k < ss.length) (hp : pat (bs (ss.getD k ByteArray.empty)) = true)
    (hown : w1.ownsRow (w.heap.size + 4) 9 1 v' ((pats (ss.take k)).length + 1) ((pats (ss.take k)).map .string ++ [.string (ss.getD k ByteArray.empty)])) (hgrow : (W.alloc tmp).grownBy w1 v.ownBlock) :
    (w1.cell? ⟨w.heap.size + 1, 1, none⟩ = some v ∧ w1.frozen? ⟨w.heap.size + 1, 1, none⟩ = false) ∧ BldAt w ss (k + 1) (w1.setCell ⟨w.heap.size + 1, 1, none⟩ v') mo v' ∧ Kept w W (w1.setCell ⟨w.heap.size + 1, 1, none⟩ v') := by
  obtain ⟨h1, h2, h3, h4, h5, h6, h7⟩ := h
  have hrow : ∀ g, v.ownBlock = some g → w.heap.size + 4 ≤ g ∧ ∃ cur, W.heap[g]? = some (.cells cur 9 (0, 0)) := by
    intro g hg
    rcases h7.2 with ⟨rfl, _⟩ | ⟨g', cap, cur, rfl, hb, hgb, _⟩
    · simp [Value.ownBlock] at hg
    · obtain rfl : g' = g := by simpa [Value.ownBlock] using hg
      exact ⟨hb, cur, hgb⟩
  have o1 : ∀ j, j < W.heap.size → some j ≠ v.ownBlock → w1.heap[j]? = W.heap[j]? := fun j hj hne =>
    (hgrow.block j (by simp; omega) hne).trans (Below.heap_alloc _ _ _ hj)
  have low : ∀ j, j < w.heap.size + 4 → w1.heap[j]? = W.heap[j]? := fun j hj => o1 j (by omega) (fun e => by have := (hrow j e.symm).1; omega)
  have hS := (low (w.heap.size + 1) (by omega)).trans h4
  have hB1 : Below w.heap.size W w1 := ((Below.refl _ W).alloc (by omega) tmp).grown hgrow (by simp; omega) fun g hg => by have := (hrow g hg).1; omega
  have hB : Below w.heap.size W (w1.setCell ⟨w.heap.size + 1, 1, none⟩ v') := hB1.setCell (p := ⟨w.heap.size + 1, 1, none⟩) (by simp) _
  have set : ∀ j, j ≠ w.heap.size + 1 → (w1.setCell ⟨w.heap.size + 1, 1, none⟩ v').heap[j]? = w1.heap[j]? := fun j hne => Below.heap_setCell _ _ _ j hne
  obtain ⟨e1, e2⟩ := pats_yes hk hp
  refine ⟨⟨by simp [World.cell?, hS], by simp [World.frozen?, hS]⟩, ⟨(set _ (by omega)).trans ((low _ (by omega)).trans h1), h2.trans hB, Nat.le_trans h3 hB.size, ?_, ?_, h6, ?_⟩, (set _ (by omega)).trans (low _ (by omega)), (set _ (by omega)).trans (low _ (by omega)), hB⟩
  · exact heap_cell_set hS 1 v'
  · rw [e2]
    refine h5.heap fun M es c hm hM => ?_
    have hMb := h6 M hm
    refine (set M (by omega)).trans ((o1 M (Array.getElem?_eq_some_iff.1 hM).1 fun e => ?_).trans hM)
    obtain ⟨_, cur, hc⟩ := hrow M e.symm
    rw [hM] at hc; cases hc
  · rw [e1, List.length_append, List.map_append]
    exact ownsRow_setCell_below hown (by show w.heap.size + 1 < _; omega) _

/-- The set is made and sorted. -/
def Done (w : World) (ss : List ByteArray) (W : World) (mo : Option Nat) (a : Option Addr) (cap : Nat) (ps : List ByteArray) : Prop :=
  W.heap[w.heap.size]? = some (.cells #[.map none, .slice none 0 0] 60) ∧ Below w.heap.size w W ∧ w.heap.size + 4 ≤ W.heap.size ∧ W.heap[w.heap.size + 2]? = some (.deferred (some [])) ∧
  W.heap[w.heap.size + 1]? = some (.cells #[.map mo, .slice a ps.length cap] 60) ∧ ExactAt W mo (plains ss) ∧ (∀ M, mo = some M → w.heap.size + 4 ≤ M) ∧ Strs W a ps ∧ (∀ ad, a = some ad → w.heap.size + 4 ≤ ad.block) ∧ ps.Perm (pats ss) ∧ ∀ i j (hi : i < ps.length) (hj : j < ps.length), i < j → ps[j].size ≤ ps[i].size

theorem longest_of {ss ps : List ByteArray} (hp : ps.Perm (pats ss)) (hs : ∀ i j (hi : i < ps.length) (hj : j < ps.length), i < j → ps[j].size ≤ ps[i].size) : Longest (bss ss) (bss ps) := by
  refine ⟨fun x => ?_, fun i j hi hj hij => ?_⟩
  · rw [mem_bss, mem_bss]
    constructor
    · rintro ⟨s, h, rfl⟩
      have := List.mem_filter.1 (hp.mem_iff.1 h)
      exact ⟨⟨s, this.1, rfl⟩, this.2⟩
    · rintro ⟨⟨s, h, rfl⟩, h2⟩
      exact ⟨s, hp.mem_iff.2 (List.mem_filter.2 ⟨h, h2⟩), rfl⟩
  · have hi' : i < ps.length := by simpa [bss] using hi
    have hj' : j < ps.length := by simpa [bss] using hj
    have := hs i j hi' hj' hij
    simp only [bss, List.getElem_map, bs_length]
    exact this

theorem Done.setOf {w W W' : World} {ss : List ByteArray} {mo : Option Nat} {a : Option Addr} {cap : Nat} {ps : List ByteArray} (h : Done w ss W mo a cap ps) (hh : ∀ j, w.heap.size + 4 ≤ j → W'.heap[j]? = W.heap[j]?) (hl : ss.length ≤ 65537) (hz : ∀ s ∈ ss, s.size ≤ 1048576) :
    SetOf W' ss (.agg #[.map mo, .slice a ps.length cap]) := by
  obtain ⟨h1, h2, h3, h4, h5, h6, h7, h8, h9, h10, h11⟩ := h
  refine ⟨mo, a, cap, ps, rfl, h6.heap fun M es c hm hM => (hh M (h7 M hm)).trans hM, ?_, longest_of h10 h11, ?_, fun s hs => ?_⟩
  · rcases h8 with h | ⟨b, off, ha, hc⟩
    · exact .inl h
    · exact .inr ⟨b, off, ha, fun i hi => (World.cell?_of_block (a := ⟨b, off + i, none⟩) (hh b (h9 _ ha))).trans (hc i hi)⟩
  · have := List.length_filter_le (fun s => pat (bs s)) ss
    have := h10.length_eq
    unfold pats at this
    omega
  · exact hz s (List.mem_filter.1 (h10.mem_iff.1 hs)).1

/-- No pattern: the sort does nothing. -/
theorem BldAt.done0 {w W : World} {ss : List ByteArray} {mo : Option Nat} (h : BldAt w ss ss.length W mo (.slice none 0 0)) (hK : W.heap[w.heap.size + 2]? = some (.deferred (some []))) : Done w ss W mo none 0 [] := by
  obtain ⟨h1, h2, h3, h4, h5, h6, h7⟩ := h
  rw [List.take_length] at h5 h7
  have h0 : (pats ss).length = 0 := by
    rcases h7.2 with ⟨_, h⟩ | ⟨g, cap, cur, hv, _⟩
    · exact h
    · cases hv
  have h0' : pats ss = [] := List.length_eq_zero_iff.1 h0
  exact ⟨h1, h2, h3, hK, h4, h5, h6, .inl rfl, fun ad h => (by cases h), by rw [h0'], fun i j hi => absurd hi (Nat.not_lt_zero i)⟩

theorem getD_map_string (ps : List ByteArray) (i : Nat) (hi : i < ps.length) : (ps.map Value.string)[i]? = some (.string (ps.getD i ByteArray.empty)) := by
  rw [List.getElem?_map, List.getD_eq_getElem?_getD, List.getElem?_eq_getElem hi]; rfl

/-- What the sort asks. -/
theorem BldAt.row {w W : World} {ss : List ByteArray} {mo : Option Nat} {g n cap : Nat} (h : BldAt w ss ss.length W mo (.slice (some ⟨g, 0, none⟩) n cap)) :
    n = (pats ss).length ∧ g < W.heap.size ∧ w.heap.size + 4 ≤ g ∧ ∀ i, i < (pats ss).length → W.cell? ⟨g, 0 + i, none⟩ = some (.string ((pats ss).getD i ByteArray.empty)) ∧ W.frozen? ⟨g, 0 + i, none⟩ = false := by
  obtain ⟨h1, h2, h3, h4, h5, h6, h7⟩ := h
  rw [List.take_length] at h7
  rcases h7.2 with ⟨h, _⟩ | ⟨g', cap', cur, hv, hb, hg, hr⟩
  · cases h
  · simp only [Value.slice.injEq, Option.some.injEq, Addr.mk.injEq] at hv
    obtain ⟨⟨rfl, _⟩, rfl, rfl⟩ := hv
    refine ⟨rfl, (Array.getElem?_eq_some_iff.1 hg).1, hb, fun i hi => ⟨?_, ?_⟩⟩
    · rw [Nat.zero_add, World.ownsRow.cellAt h7 i (by omega), getD_map_string _ _ hi]
    · rw [Nat.zero_add]; exact World.ownsRow.frozenAt h7 i

theorem BldAt.done {w W W' : World} {ss : List ByteArray} {mo : Option Nat} {g n cap : Nat} {e : Ending} (h : BldAt w ss ss.length W mo (.slice (some ⟨g, 0, none⟩) n cap)) (hK : W.heap[w.heap.size + 2]? = some (.deferred (some [])))
    (hs : Sorted W g 0 (pats ss) e W') : e = .returned (.tuple #[]) ∧ ∃ ps, n = ps.length ∧ Done w ss W' mo (some ⟨g, 0, none⟩) cap ps := by
  obtain ⟨r1, r2, r3, r4⟩ := h.row
  obtain ⟨h1, h2, h3, h4, h5, h6, h7⟩ := h
  rw [List.take_length] at h5 h7
  obtain ⟨he, ps', hp, hsz, hst, hg⟩ := hs
  have old : ∀ j, j < W.heap.size → j ≠ g → W'.heap[j]? = W.heap[j]? := fun j hj hne => hg.block j hj (fun e => hne (by simpa using e))
  have hn : n = ps'.length := by rw [r1, hp.length_eq]
  refine ⟨he, ps', hn, (old _ (by omega) (by omega)).trans h1, h2.trans ((Below.refl _ W).grown hg (by omega) fun k hk => by cases hk; omega), Nat.le_trans h3 hg.size, (old _ (by omega) (by omega)).trans hK, ?_, ?_, h6, hst, fun ad had => by cases had; exact r3, hp, hsz⟩
  · rw [← hn]; exact (old _ (by omega) (by omega)).trans h4
  · refine h5.heap fun M es c hm hM => ?_
    refine (old M (Array.getElem?_eq_some_iff.1 hM).1 fun e => ?_).trans hM
    rcases h7.2 with ⟨h, _⟩ | ⟨g', cap', cur, hv, hb, hgb, hr⟩
    · cases h
    · simp only [Value.slice.injEq, Option.some.injEq, Addr.mk.injEq] at hv
      obtain ⟨⟨rfl, _⟩, rfl, rfl⟩ := hv
      rw [e, hgb] at hM; cases hM
end Go.Proofs.Qxb6605793a
