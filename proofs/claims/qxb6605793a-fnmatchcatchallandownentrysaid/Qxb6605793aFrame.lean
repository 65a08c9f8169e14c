import Derived.Test.Qxb6605793aSlc
import Derived.SliceStrings
import Derived.WalkKit
import Derived.ProofKit
import Derived.OpenShut
import Derived.ShutString
import Derived.Below
namespace Go.Proofs.Qxb6605793a
open Go.ChangeShapes Go.WideShapes Go.ChangeAt Go.RowKit Go.WideMaps Go.WideElems
set_option linter.unusedVariables false

theorem cells9 : Try.prog.cellsOf 9 = 1 := by kernel_rfl
theorem ownKnob0 : ownKnob Try.prog.godebug = none := by kernel_rfl
theorem laidOut0 : laidOutB Try.prog = true := by kernel_rfl

/-- What a slice of strings that came in holds. -/
theorem open_ss {H : Type} {enc : TypeId × Value → H} {W : World} {base : Nat} {spare : Nat → Bool} {held : Bool} {fuel : Nat} {a0 : Option Addr} {len cap : Nat} {x : DataW H × List MemPlace}
    (h : DataW.trod enc Try.prog W base spare held fuel 22 (Value.slice a0 len cap).cells.toList = some x) :
    ∃ ss : List ByteArray, len = ss.length ∧ Strs W a0 ss ∧ (a0 = none → ss = []) ∧ ss.length ≤ maxLen ∧ ∀ s ∈ ss, s.size ≤ maxLen := by
  rcases open_strings Try.underlying22 Try.underlying9 cells9 h with ⟨hcs, _⟩ | ⟨a, len', cap', ss, hcs, _, hl, hm, hz, _, hcell, hws⟩
  · simp [Value.cells] at hcs
    obtain ⟨rfl, rfl, rfl⟩ := hcs
    exact ⟨[], rfl, .inl rfl, fun _ => rfl, Nat.zero_le _, fun s hs => by cases hs⟩
  · simp [Value.cells] at hcs
    obtain ⟨rfl, rfl, rfl⟩ := hcs
    have hle : len ≤ ss.length := by rw [hz]; split <;> omega
    have hlen : (ss.take len).length = len := by rw [List.length_take]; omega
    refine ⟨ss.take len, hlen.symm, ?_, fun h => (by cases h), (by rw [hlen]; omega), fun s hs => hws s (List.mem_of_mem_take hs)⟩
    by_cases h0 : len = 0
    · exact .inl (by rw [h0]; rfl)
    · have hsp : a.spot = none := by
        have := hcell 0 (by omega)
        simp only [Addr.add, if_true, World.cell?] at this
        cases hs : a.spot with
        | none => rfl
        | some y =>
          rw [hs] at this
          revert this
          cases W.heap[a.block]? with
          | none => simp
          | some o => cases o <;> simp
      obtain ⟨b, off, sp⟩ := a
      simp only at hsp
      subst hsp
      refine .inr ⟨b, off, rfl, fun i hi => ?_⟩
      have := hcell i (by omega)
      have e1 : (⟨b, off, none⟩ : Addr).add i = ⟨b, off + i, none⟩ := by
        unfold Addr.add
        by_cases hi0 : i = 0
        · subst hi0; rfl
        · rw [if_neg hi0]
      rw [e1] at this
      rw [this, List.getD_eq_getElem?_getD, List.getD_eq_getElem?_getD, List.getElem?_take_of_lt (by omega)]
end Go.Proofs.Qxb6605793a
