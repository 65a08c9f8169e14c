import Derived.Test.Qxb6605793aMapOps
import Derived.Below
import Derived.OwnWalk
import Derived.Lib.LazyBuf
namespace Go.Proofs.Qxb6605793a
open Go.RowKit

theorem eqNil (r : Option Nat) (w : World) : (binOp .eql 40 (.map r) (.map none)).run Try.prog w = .ok (.bool r.isNone) w := run_eql_map_nil (P := Try.prog) w 40 9 22 r Try.underlying40
theorem info9 : (Try.prog.info? 9).map (fun i => (i.zero, i.size, i.bytes)) = some (some (.string ByteArray.empty), 1, 16) := by kernel_rfl
def lenV : Value → Nat | .slice _ n _ => n | _ => 0

/-- Ahead of the second range's one round, and behind it. -/
def Rng1 (wr : World) (N M : Nat) : Prop := wr.heap[N + 1]? = some (.cells #[.string ByteArray.empty] 9) ∧ wr.heap[N + 1 + 1]? = some (.map #[] 0) ∧ wr.heap[N + 1 + 1 + 1]? = some (.mapIter (some M) 1 #[] 1)
def Rng2 (wr : World) (N M : Nat) (k v : ByteArray) : Prop := wr.heap[N + 1]? = some (.cells #[.string v] 9) ∧ wr.heap[N + 1 + 1]? = some (.map #[ent k (N + 1) 0] 1) ∧ wr.heap[N + 1 + 1 + 1]? = some (.mapIter (some M) 1 #[0] 1)
theorem rng1_start (w : World) (o : Obj) (M : Nat) : Rng1 ((((w.alloc o).alloc (.cells #[.string ByteArray.empty] 9)).alloc (.map #[] 0)).alloc (.mapIter (some M) 1 #[] 1)) w.heap.size M := by
  refine ⟨?_, ?_, ?_⟩
  · show ((((w.heap.push o).push (.cells #[.string ByteArray.empty] 9)).push (.map #[] 0)).push (.mapIter (some M) 1 #[] 1))[_]? = _
    rw [Array.getElem?_push, if_neg (by simp only [Array.size_push]; omega), Array.getElem?_push, if_neg (by simp only [Array.size_push]; omega), Array.getElem?_push, if_pos (by simp only [Array.size_push])]
  · show ((((w.heap.push o).push (.cells #[.string ByteArray.empty] 9)).push (.map #[] 0)).push (.mapIter (some M) 1 #[] 1))[_]? = _
    rw [Array.getElem?_push, if_neg (by simp only [Array.size_push]; omega), Array.getElem?_push, if_pos (by simp only [Array.size_push])]
  · show ((((w.heap.push o).push (.cells #[.string ByteArray.empty] 9)).push (.map #[] 0)).push (.mapIter (some M) 1 #[] 1))[_]? = _
    rw [Array.getElem?_push, if_pos (by simp only [Array.size_push])]
theorem below_putMap {B r : Nat} {a w : World} (h : Below B a w) (hr : B ≤ r) (o : Obj) : Below B a (putMap w r o) :=
  ⟨h.os, h.tape, h.output, by rw [size_putMap]; exact h.size, fun k hk => by rw [heap_putMap_other (by omega)]; exact h.block k hk⟩
theorem heap_setCell_one {w : World} {b : Nat} {x v : Value} {t : TypeId} (h : w.heap[b]? = some (.cells #[x] t)) : (w.setCell ⟨b, 0, none⟩ v).heap[b]? = some (.cells #[v] t) := by
  simp [World.setCell, Array.getElem?_modify, h]
theorem rng2_of {wr : World} {N M : Nat} {k v : ByteArray} (h : Rng1 wr N M) :
    Rng2 (putMap ((putMap wr (N + 1 + 1 + 1) (.mapIter (some M) 1 #[0] 1)).setCell ⟨N + 1, 0, none⟩ (.string v)) (N + 1 + 1) (.map #[⟨.string k, .slice (some ⟨N + 1, 0, none⟩) 1 1, 0⟩] 1)) N M k v := by
  obtain ⟨r1, r2, r3⟩ := h
  have l3 : N + 1 + 1 + 1 < wr.heap.size := (Array.getElem?_eq_some_iff.1 r3).1
  refine ⟨?_, ?_, ?_⟩
  · rw [heap_putMap_other (by omega)]
    exact heap_setCell_one (x := .string ByteArray.empty) (by rw [heap_putMap_other (by omega)]; exact r1)
  · exact heap_putMap_same (by simp [World.setCell, size_putMap]; omega) _
  · rw [heap_putMap_other (by omega), Below.heap_setCell _ _ _ _ (by simp; omega)]
    exact heap_putMap_same l3 _

set_option maxHeartbeats 1000000 in
theorem clone_one (M S : Nat) (k v : ByteArray) (w : World) (hM : w.heap[M]? = some (.map #[ent k S 0] 1)) (hS : w.heap[S]? = some (.cells #[.string v] 9)) :
    Calls Try.prog 38 #[.map (some M)] w fun e w' => ∃ M2 S2 : Nat, e = .returned (.map (some M2)) ∧ w.heap.size ≤ M2 ∧ w.heap.size ≤ S2 ∧ w'.heap[M2]? = some (.map #[ent k S2 0] 1) ∧
      w'.heap[S2]? = some (.cells #[.string v] 9) ∧ Below w.heap.size w w' := by
  have hltM : M < w.heap.size := (Array.getElem?_eq_some_iff.1 hM).1
  have hltS : S < w.heap.size := (Array.getElem?_eq_some_iff.1 hS).1
  have e1 := eqNil
  have hr := range_at hM
  have n1 := fun ty => next_one (e := ent k S 0) rfl hM ty
  have n2 := fun ty => next_none (e := ent k S 0) rfl hM ty
  have en := entry_one (e := ent k S 0) rfl hM
  simp only [ent] at n1 en
  have HM : Hid (w.heap[M]? = some (.map #[ent k S 0] 1)) := hM
  have HS : Hid (w.heap[S]? = some (.cells #[.string v] 9)) := hS
  clear hM hS
  go_enter Try.func38, Try.ntmps38
  go_wp2
  go_loopw [3, 5] (fun nv _ wr => (nv = .int .i64 0 ∧ wr = w.alloc (.mapIter (some M) 1 #[] 1)) ∨ (nv = .int .i64 1 ∧ wr = w.alloc (.mapIter (some M) 1 #[0] 1))) (fun nv _ _ => 1 - (intOf nv).toNat)
  case atStart => exact .inl ⟨rfl, rfl⟩
  case round =>
    rcases hrel with ⟨rfl, rfl⟩ | ⟨rfl, rfl⟩
    · go_wp2
      go_roundw
      case rel => exact .inr ⟨rfl, trivial⟩
      case measure => simp [intOf]
    · have hm1 := make_one
      have hm2 := makeMap_n 1
      have hMx : (w.alloc (.mapIter (some M) 1 #[0] 1)).heap[M]? = some (.map #[ent k S 0] 1) := by
        show (w.heap.push _)[M]? = _
        rw [Array.getElem?_push, if_neg (by omega)]; exact HM.out
      have hMy : ((w.alloc (.mapIter (some M) 1 #[0] 1)).alloc (.cells #[.string ByteArray.empty] 9)).heap[M]? = some (.map #[ent k S 0] 1) := by
        show ((w.heap.push _).push _)[M]? = _
        rw [Array.getElem?_push, if_neg (by simp; omega)]; exact hMx
      have hMz : (((w.alloc (.mapIter (some M) 1 #[0] 1)).alloc (.cells #[.string ByteArray.empty] 9)).alloc (.map #[] 0)).heap[M]? = some (.map #[ent k S 0] 1) := by
        show (((w.heap.push _).push _).push _)[M]? = _
        rw [Array.getElem?_push, if_neg (by simp; omega)]; exact hMy
      have hl := fun ty => len_at hMy ty
      have hr2 := range_at hMz
      simp only [List.size_toArray, List.length_cons, List.length_nil] at hl
      clear hMx hMy hMz
      go_wp2
      clear hm1 hm2 hl hr2 hr n1 n2 en
      go_loopw [6, 8, 9, 10] (fun sv _ _ _ wr => (sv = .slice (some ⟨w.heap.size + 1, 0, none⟩) 1 1 ∧ Rng1 wr w.heap.size M ∧ Below w.heap.size w wr) ∨ (∃ a, sv = .slice a 0 0 ∧ Rng2 wr w.heap.size M k v ∧ Below w.heap.size w wr)) (fun sv _ _ _ _ => lenV sv)
      case atStart => exact .inl ⟨rfl, rng1_start w _ M, ((((Below.refl _ _).alloc (Nat.le_refl _) _).alloc (by simp) _).alloc (by simp; omega) _).alloc (by simp; omega) _⟩
      case round =>
        rcases hrel with ⟨rfl, hR, hb⟩ | ⟨a, rfl, hR, hb⟩
        · obtain ⟨r1, r2, r3⟩ := hR
          have hMw : wr.heap[M]? = some (.map #[ent k S 0] 1) := by rw [hb.block M hltM]; exact HM.out
          have hSw : wr.heap[S]? = some (.cells #[.string v] 9) := by rw [hb.block S hltS]; exact HS.out
          have l3 : w.heap.size + 1 + 1 + 1 < wr.heap.size := (Array.getElem?_eq_some_iff.1 r3).1
          have n1 := fun ty => next_one_at (e := ent k S 0) rfl r3 hMw ty
          have en := entry_one_at (e := ent k S 0) (w := putMap wr (w.heap.size + 1 + 1 + 1) (.mapIter (some M) 1 #[0] 1)) rfl (heap_putMap_same l3 _) (by rw [heap_putMap_other (by omega)]; exact hMw)
          have cp := fun ty => copy_one (w := putMap wr (w.heap.size + 1 + 1 + 1) (.mapIter (some M) 1 #[0] 1)) (D := w.heap.size + 1) (S := S) (by rw [heap_putMap_other (by omega)]; exact r1) (by rw [heap_putMap_other (by omega)]; exact hSw) ty
          have up := upd_new (w := (putMap wr (w.heap.size + 1 + 1 + 1) (.mapIter (some M) 1 #[0] 1)).setCell ⟨w.heap.size + 1, 0, none⟩ (.string v)) (M := w.heap.size + 1 + 1) (es := #[]) (c := 0) k (.slice (some ⟨w.heap.size + 1, 0, none⟩) 1 1) (by rw [Below.heap_setCell _ _ _ _ (by simp), heap_putMap_other (by omega)]; exact r2) rfl
          simp only [ent] at n1 en
          have es := fun (a : Option Addr) (l c : Nat) (w : World) => Go.run_eql_slice_nil (P := Try.prog) w 22 9 a l c Try.underlying22
          clear hMw hSw
          go_wp2
          go_roundw
          case rel => exact .inr ⟨_, rfl, rng2_of ⟨r1, r2, r3⟩, below_putMap ((below_putMap hb (by omega) _).setCell (by simp) _) (by omega) _⟩
          case measure => simp [lenV]
        · obtain ⟨r1, r2, r3⟩ := hR
          have hMw : wr.heap[M]? = some (.map #[ent k S 0] 1) := by rw [hb.block M hltM]; exact HM.out
          have n2 := fun ty => next_none_at (e := ent k S 0) rfl r3 hMw ty
          clear hMw
          go_wp2
          go_ret
          exact ⟨_, _, rfl, by omega, by omega, r2, r1, hb⟩
end Go.Proofs.Qxb6605793a
