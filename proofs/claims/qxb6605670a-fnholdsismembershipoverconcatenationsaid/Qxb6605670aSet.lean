import Derived.Test.Qxb6605670aHolds
import Derived.ProofKit
import Derived.OpenShut
namespace Go.Proofs.Qxb6605670a
open Go.ChangeShapes Go.WideShapes Go.ChangeAt Go.RowKit

theorem cells26 : Try.prog.cellsOf 26 = 256 := by kernel_rfl
theorem cells4 : Try.prog.cellsOf 4 = 1 := by kernel_rfl
/-- An array of 256 bools that came in: its cells are 'tab f'. -/
theorem open_set {H : Type} {enc : TypeId × Value → H} {W : World} {base j : Nat} {v : Value} {d : DataW H} {p : List MemPlace}
    (hv : Value.okWide Try.prog W .any j 26 v) (h : DataW.Trod enc Try.prog W base (fun _ => true) true 26 v d p) : ∃ f, v = .agg (tab f) := by
  unfold Value.okWide at hv
  rw [Try.underlying26] at hv
  obtain ⟨cs, rfl, hsz, _⟩ := hv
  rw [cells26] at hsz
  obtain ⟨fuel, hf⟩ := h
  obtain ⟨xs, m, _, _, _, hl, hx⟩ := DataW.trod_array Try.underlying26 hf
  have hb : ∀ i : Nat, i < 256 → ∃ b, cs[i]? = some (.bool b) := by
    intro i hi
    have h1 := hx i hi
    rw [cells4] at h1
    have hi' : i < cs.size := by omega
    have e : ((Value.agg cs).cells.toList.drop (i * 1)).take 1 = [cs[i]] := by
      simp only [Value.cells, Nat.mul_one]
      rw [List.drop_eq_getElem_cons (by simpa using hi')]
      simp
    rw [e, List.getElem?_eq_getElem (by omega)] at h1
    obtain ⟨b, hb, _⟩ := DataW.trod_bool Try.underlying4 h1
    exact ⟨b, by rw [Array.getElem?_eq_getElem hi']; simpa using hb⟩
  refine ⟨fun i => if h : i < 256 then (hb i h).choose else false, ?_⟩
  refine congrArg Value.agg (Array.ext_getElem? fun i => ?_)
  by_cases h : i < 256
  · rw [tab_get _ _ h, dif_pos h]
    exact (hb i h).choose_spec
  · rw [Array.getElem?_eq_none (by omega), Array.getElem?_eq_none (by rw [tab_size]; omega)]

end Go.Proofs.Qxb6605670a
