import Derived.RangeFuncNested
import Derived.RangeFuncBound
import Derived.RangeFuncCalls
import Derived.RangeFuncLeaves
import Derived.Shelf.Abstract
import Derived.WalkKit
import Derived.OwnWalkIn
import Derived.TacticsInMore
import Derived.LoopNIn
import Derived.LoopIn
import Derived.Test.Qxb6605793aModel
namespace Go.Proofs.Qxb6605793a
open Go.RowKit Go.Shelf
set_option linter.unusedVariables false
attribute [local go_sem] Oper.semAt_some

/-- How a round's body that never leaves the loop ends: the loop's two own blocks lie as they lay. -/
def goesOn (N n₀ k : Nat) (I : Nat → World → Prop) (W : World) : Exit → Act → World → Prop
  | .normal, _, W' => W'.heap[N]? = W.heap[N]? ∧ W'.heap[N + 1]? = W.heap[N + 1]? ∧ Below n₀ W W' ∧ I (k + 1) W'
  | _, _, _ => False

theorem below_putLoop {n₀ l : Nat} {A W : World} (h : Below n₀ A W) (hl : n₀ ≤ l) (o : Obj) : Below n₀ A (W.putObj l o) :=
  ⟨h.os, h.tape, h.output, by simpa [World.putObj] using h.size, fun k hk => by
    rw [World.putObj_heap_other (by omega)]; exact h.block k hk⟩

/-- A range over an iterator of 'len' values, whose body never leaves it. -/
theorem range_all {P : Program} {F : Fence} {n : Nat} {g : Operand} {ps : Array Tmp} {assign body : Code} {Q : Exit → Act → World → Prop} {a : Act} {w : World}
    (hro : F.round = none) (h1 : 1 ≤ n) {gf : Nat} {lb : Array Value} (hg : a.eval g = .func (.func gf) #[] lb) (hFg : F.fn gf) (eg : ∀ args w, (callFunc gf args).run P w = .ok (.enter gf args) w)
    (vals : Nat → Array Value) (len n₀ : Nat) (hn₀ : n₀ ≤ w.heap.size) (hps : ∀ k, (vals k).size = ps.size)
    (hiter : ∀ (l : Nat) (J : Nat → World → Prop) (W : World), Below n₀ w W → w.heap.size ≤ W.heap.size → J 0 W →
      (∀ k W, J k W → k < len → YieldAt F (n - 1 - 1) P l (vals k) W fun e W' => e = .returned (.bool true) ∧ J (k + 1) W' ∧ Below n₀ W W') →
      CallsIn F (n - 1) P gf (#[.func (.yield l) #[] #[]] ++ lb) W fun e W' => (∃ v, e = .returned v) ∧ J len W')
    (I : Nat → World → Prop) (h0 : ∀ r, I 0 ((w.alloc (.deferred (some []))).alloc (.loop r)))
    (hput : ∀ k W r r', I k W → W.heap[w.heap.size + 1]? = some (.loop r) → I k (W.putObj (w.heap.size + 1) (.loop r')))
    (a₁ : Nat → Act)
    (hassign : ∀ (l k : Nat) (W : World) (K : Act → World → Prop), K (a₁ k) W →
      assign.wpIn (F.inRound l) (n - 1 - 1) P (Exit.then K (fun _ _ _ => False)) { tmps := (ps.zip (vals k)).foldl (fun t (p, v) => t.setIfInBounds p v) a.tmps, defers := [] } W)
    (hbody : ∀ (l k : Nat) (W : World), I k W → k < len → (∃ r, W.heap[w.heap.size + 1]? = some (.loop r)) → body.wpIn (F.inRound l) (n - 1 - 1) P (goesOn w.heap.size n₀ k I W) (a₁ k) W)
    (hdone : ∀ (W : World), I len W → W.heap[w.heap.size]? = some (.deferred (some [])) → Q .normal { a with defers := { target := .collected w.heap.size, args := #[] } :: a.defers } W) :
    (Code.rangeFunc g ps assign body).wpIn F n P Q a w := by
  refine wpIn_rangeFunc ?_
  intro fn hfn
  rw [hro]
  obtain ⟨rec, hrec⟩ : ∃ rec : LoopState → Loop, rec = fun st => { state := st, pending := none, fn, tmps := a.tmps, params := ps, assign, body, defers := w.heap.size } := ⟨_, rfl⟩
  obtain ⟨W1, hW1⟩ : ∃ W1, (w.alloc (.deferred (some []))).alloc (.loop (rec .ready)) = W1 := ⟨_, rfl⟩
  have hL1 : W1.heap[w.heap.size + 1]? = some (.loop (rec .ready)) := by
    rw [← hW1]
    have := World.alloc_heap_new (w.alloc (.deferred (some []))) (.loop (rec .ready))
    rwa [World.size_alloc] at this
  have hK1 : W1.heap[w.heap.size]? = some (.deferred (some [])) := by
    rw [← hW1]; exact (Below.heap_alloc _ _ _ (by simp)).trans (World.alloc_heap_new w _)
  have hB1 : Below n₀ w W1 := by
    rw [← hW1]; exact ((Below.refl n₀ w).alloc hn₀ _).alloc (by simp; omega) _
  have hz1 : w.heap.size ≤ W1.heap.size := hB1.size
  refine ⟨w.heap.size + 1, [{ target := .collected w.heap.size, args := #[] }], W1, { target := .fn (.func gf) lb, args := #[.func (.yield (w.heap.size + 1)) #[] #[]] }, W1, gf,
    #[.func (.yield (w.heap.size + 1)) #[] #[]] ++ lb, W1, ?_, ?_, ?_, ?_, fun _ => h1, ?_⟩
  · rw [← hW1, hrec]; exact run_enterLoop_outer _ _ _ _ _
  · simp only [resolve, hg]
    simp [go_sem]
  · intro f' hf'; simp [Target.leads] at hf'; subst hf'; exact hFg
  · simp [invoke, go_sem, eg]
  refine (hiter (w.heap.size + 1) (fun k W => I k W ∧ W.heap[w.heap.size + 1]? = some (.loop (rec .ready)) ∧ W.heap[w.heap.size]? = some (.deferred (some []))) W1 hB1 hz1
    ⟨by rw [← hW1]; exact h0 _, hL1, hK1⟩ ?_).mono ?_
  · rintro k W ⟨hi, hl, hk⟩ hlen
    have hlt : w.heap.size + 1 < W.heap.size := (Array.getElem?_eq_some_iff.1 hl).1
    have hy := run_yield (P := P) (args := vals k) hl (by rw [hrec]; exact hps k)
    rw [hrec] at hy
    refine ⟨fn, _, assign, body, hy, roundIn_of_wpIn hfn (hassign _ k W _ ⟨_, run_beginRound hl (by rw [hrec]), ?_⟩)⟩
    have hl2 : (W.putObj (w.heap.size + 1) (.loop { rec .ready with state := .busy })).heap[w.heap.size + 1]? = some (.loop { rec .ready with state := .busy }) := World.putObj_heap_same hlt
    have hk2 : (W.putObj (w.heap.size + 1) (.loop { rec .ready with state := .busy })).heap[w.heap.size]? = some (.deferred (some [])) := (World.putObj_heap_other (by omega)).trans hk
    refine wpIn_mono (hbody _ k _ (hput k W _ _ hi hl) hlen ⟨_, hl2⟩) ?_
    rintro e a3 W3 hp
    cases e with
    | normal =>
      obtain ⟨p1, p2, p3, p4⟩ := hp
      have hl3 := p2.trans hl2
      have hk3 := p1.trans hk2
      have hr := run_endRound (P := P) none hl3
      have hlt3 : w.heap.size + 1 < W3.heap.size := (Array.getElem?_eq_some_iff.1 hl3).1
      refine ⟨_, _, hr, rfl, ⟨hput _ _ _ _ p4 hl3, ?_, ?_⟩, ?_⟩
      · rw [World.putObj_heap_same hlt3, hrec]; rfl
      · exact (World.putObj_heap_other (by omega)).trans hk3
      · exact below_putLoop ((below_putLoop (Below.refl n₀ W) (by omega) _).trans p3) (by omega) _
    | ret => exact hp.elim
    | exit id => exact hp.elim
    | goto t => exact hp.elim
    | panic ch => exact hp.elim
    | outgrown => exact hp.elim
  · rintro e W2 ⟨⟨v, rfl⟩, hi, hl, hk⟩
    have hend := run_endLoop (P := P) hl (by rw [hrec]; simp)
    have hpend : (rec .ready).pending = none := by rw [hrec]
    rw [hpend] at hend
    exact ⟨none, _, hend, hdone _ (hput _ _ _ _ hi hl) ((World.putObj_heap_other (by omega)).trans hk)⟩
end Go.Proofs.Qxb6605793a
