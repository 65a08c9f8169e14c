import Derived.Test.Qxb6605793aShelf
import Derived.Test.Qxb6605793aModel
namespace Go.Proofs.Qxb6605793a
open Go.RowKit Go.Shelf Go.Sort
set_option linter.unusedVariables false

theorem cmpLen_lt (x y : ByteArray) : ltOf cmpLen x y = decide (y.size < x.size) := by
  unfold ltOf cmpLen
  by_cases h1 : y.size < x.size
  · simp [h1]
  · by_cases h2 : x.size < y.size
    · simp [h1, h2]
    · simp [h1, h2]
theorem cmpLen_swo : SWO (ltOf cmpLen) :=
  ⟨fun x => by rw [cmpLen_lt]; simp, fun x y z h1 h2 => by rw [cmpLen_lt] at *; simp at *; omega, fun x y z h1 h2 => by rw [cmpLen_lt] at *; simp at *; omega⟩

theorem cmpReads32 (blk off size : Nat) (w : World) : CmpReads Try.prog 32 #[] Value.string cmpLen blk off size w :=
  fun m os dk hs x y => (cmp32_any x y _).mono fun e w' ⟨he, hw⟩ => ⟨he, 0, by rw [hw]; rfl⟩

/-- What the sort leaves. -/
def Sorted (w : World) (blk off : Nat) (ps : List ByteArray) (e : Ending) (w' : World) : Prop :=
  e = .returned (.tuple #[]) ∧ ∃ ps' : List ByteArray, ps'.Perm ps ∧ (∀ i j (hi : i < ps'.length) (hj : j < ps'.length), i < j → ps'[j].size ≤ ps'[i].size) ∧ Strs w' (some ⟨blk, off, none⟩) ps' ∧ w.grownBy w' (some blk)

theorem sort31 (blk off cap : Nat) (ps : List ByteArray) (w : World) (hc : ∀ i, i < ps.length → w.cell? ⟨blk, off + i, none⟩ = some (.string (ps.getD i ByteArray.empty)) ∧ w.frozen? ⟨blk, off + i, none⟩ = false)
    (hblk : blk < w.heap.size) (hn : ps.length ≤ 65537) :
    Calls Try.prog 31 #[.slice (some ⟨blk, off, none⟩) ps.length cap, .func (.func 32) #[] #[]] w fun e w' => Sorted w blk off ps e w' := by
  have eg : ∀ args w, (callFunc 32 args).run Try.prog w = .ok (.enter 32 args) w := enters_of Try.func32 (by kernel_rfl) rfl
  have hsz : ps.toArray.size = ps.length := by simp
  have hgd : ∀ j, j < ps.length → ps.toArray[j]! = ps.getD j ByteArray.empty := fun j hj => by
    rw [getElem!_pos ps.toArray j (by simpa using hj), List.getD_eq_getElem?_getD, List.getElem?_eq_getElem hj]
    simp
  have hH : Holds Value.string w blk off ps.toArray := fun j hj => by
    have hj' : j < ps.length := by simpa using hj
    rw [hgd j hj']; exact hc j hj'
  have hcon := Any.slices_SortFunc (P := Try.prog) Try.sortF Value.string (fun _ => rfl) cmpLen cmpLen_swo 32 #[] blk off cap ps.toArray w eg (cmpReads32 blk off _ w).lays hH hblk (by rw [hsz]; omega)
  rw [hsz] at hcon
  refine Calls.mono (show Calls Try.prog 31 _ _ _ from hcon) ?_
  rintro e w' ⟨rfl, d', n, os, hp, hs, hw⟩
  obtain ⟨hsz', _, hperm⟩ := hp
  rw [hsz] at hsz'
  have hex : ∀ d : Array ByteArray, d.size = ps.length → d.extract 0 ps.length = d := fun d hd => by rw [← hd]; simp
  rw [hex d' hsz', hex ps.toArray hsz] at hperm
  have hH' := holds_sortWorld Value.string w blk off n ps.toArray d' os hblk hH (by rw [hsz', hsz])
  rw [← hw] at hH'
  have hget : ∀ i (hi : i < d'.size), d'[i]! = d'.toList[i]'(by simpa using hi) := fun i hi => by
    rw [getElem!_pos d' i hi]; simp
  refine ⟨rfl, d'.toList, by simpa using hperm, fun i j hi hj hij => ?_, ?_, ?_⟩
  · have hi' : i < d'.size := by simpa using hi
    have hj' : j < d'.size := by simpa using hj
    have := hs i j (Nat.zero_le _) hij (by omega)
    rw [cmpLen_lt, hget i hi', hget j hj'] at this
    simp only [decide_eq_false_iff_not] at this
    omega
  · refine .inr ⟨blk, off, rfl, fun i hi => ?_⟩
    have hi' : i < d'.size := by simpa using hi
    rw [(hH' i hi').1, hget i hi', List.getD_eq_getElem?_getD, List.getElem?_eq_getElem hi]
    rfl
  · rw [hw]
    unfold sortWorld
    refine ⟨rfl, rfl, rfl, ?_, fun k hk hne => ?_⟩
    · rw [size_grow, size_putRow]; exact Nat.le_add_right _ _
    · rw [heap_grow_old _ _ (by rw [size_putRow]; exact hk)]
      have hkb : blk ≠ k := fun e => hne (by rw [e])
      unfold putRow mapBlock
      show (w.heap.modify blk _)[k]? = w.heap[k]?
      rw [Array.getElem?_modify, if_neg hkb]
end Go.Proofs.Qxb6605793a
