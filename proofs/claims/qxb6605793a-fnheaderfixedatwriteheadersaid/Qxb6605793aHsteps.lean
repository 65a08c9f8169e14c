import Derived.Test.Qxb6605793aRecAns
import Derived.Test.Qxb6605793aHzz
namespace Go.Proofs.Qxb6605793a
open Go.RowKit

theorem ne_list {a b : ByteArray} (h : a ≠ b) : (a.toList == b.toList) = false := by
  rw [← beq_toListBytes]
  cases hb : (a == b) with
  | false => rfl
  | true => exact absurd ((MapKept.bytes_beq a b).1 hb) h
theorem beq_no {a b : ByteArray} (h : a ≠ b) : (a == b) = false := by
  cases hb : (a == b) with
  | false => rfl
  | true => exact absurd ((MapKept.bytes_beq a b).1 hb) h
theorem beq_yes (a : ByteArray) : (a == a) = true := (MapKept.bytes_beq a a).2 rfl
theorem lt_of_heap {w : World} {i : Nat} {o : Obj} (h : w.heap[i]? = some o) : i < w.heap.size := (Array.getElem?_eq_some_iff.1 h).1
theorem start_below {w W1 : World} {o : Obj} (G : (w.alloc o).grownBy W1 (some w.heap.size)) : Below w.heap.size w W1 ∧ (w.alloc o).heap.size ≤ W1.heap.size :=
  ⟨⟨G.os, G.tape, G.output, by have := G.size; simp at this; omega, fun k hk => by
    rw [G.block k (by simp; omega) (by intro e; cases e; omega), Below.heap_alloc _ _ _ hk]⟩, G.size⟩
theorem heap_alloc_keep {w : World} {i : Nat} {o x : Obj} (h : w.heap[i]? = some o) : (w.alloc x).heap[i]? = some o := by
  rw [Below.heap_alloc _ _ _ (lt_of_heap h)]; exact h
/-- The first store: into the empty map. -/
theorem upd_first {W : World} {M : Nat} {v : ByteArray} (k : ByteArray) (hM : W.heap[M]? = some (.map #[] 0)) :
    (Instr.mapUpdate 40 (.map (some M)) (.string k) (.slice (some ⟨W.heap.size, 0, none⟩) 1 1)).run Try.prog (W.alloc (.cells #[.string v] 9)) =
      .ok () (putMap (W.alloc (.cells #[.string v] 9)) M (.map #[⟨.string k, .slice (some ⟨W.heap.size, 0, none⟩) 1 1, 0⟩] 1)) :=
  upd_new (es := #[]) (c := 0) k _ (heap_alloc_keep hM) rfl
theorem find_other {k1 k2 : ByteArray} (h : k1 ≠ k2) (S b : Nat) : Instr.findNow .string (.string k2) [ent k1 S b] 0 = some none := by
  simp [Instr.findNow, Instr.sameNow, ent, beq_no (Ne.symm h)]
/-- The second: another key. -/
theorem upd_second {W : World} {M S : Nat} {v : ByteArray} {k1 k2 : ByteArray} (hk : k1 ≠ k2) (hM : W.heap[M]? = some (.map #[ent k1 S 0] 1)) :
    (Instr.mapUpdate 40 (.map (some M)) (.string k2) (.slice (some ⟨W.heap.size, 0, none⟩) 1 1)).run Try.prog (W.alloc (.cells #[.string v] 9)) =
      .ok () (putMap (W.alloc (.cells #[.string v] 9)) M (.map #[ent k1 S 0, ent k2 W.heap.size 1] 2)) :=
  upd_new (es := #[ent k1 S 0]) (c := 1) k2 _ (heap_alloc_keep hM) (find_other hk S 0)
theorem after_first {w W1 W2 : World} {A : Nat} {k1 v1 : ByteArray} (e : W2 = putMap (W1.alloc (.cells #[.string v1] 9)) (A + 1) (.map #[ent k1 W1.heap.size 0] 1))
    (HA : AnsAt W1 A 0 (some (A + 1)) 0 none) (_HM : W1.heap[A + 1]? = some (.map #[] 0)) (B : Below A w W1) (l : A + 1 < W1.heap.size) :
    AnsAt W2 A 0 (some (A + 1)) 0 none ∧ W2.heap[A + 1]? = some (.map #[ent k1 W1.heap.size 0] 1) ∧ W2.heap[W1.heap.size]? = some (.cells #[.string v1] 9) ∧ Below A w W2 := by
  subst e
  refine ⟨?_, ?_, ?_, ?_⟩
  · unfold AnsAt; rw [heap_putMap_other (by omega)]; exact HA.alloc _
  · exact heap_putMap_same (by simp; omega) _
  · rw [heap_putMap_other (by omega)]; exact last_new W1 _
  · exact below_putMap (B.alloc (by omega) _) (by omega) _
theorem after_second {w W3 W4 : World} {A S : Nat} {k1 v1 k2 v2 : ByteArray} {st : Int} {sent : Option Nat} (e : W4 = putMap (W3.alloc (.cells #[.string v2] 9)) (A + 1) (.map #[ent k1 S 0, ent k2 W3.heap.size 1] 2))
    (HA : AnsAt W3 A 0 (some (A + 1)) st sent) (HM : W3.heap[A + 1]? = some (.map #[ent k1 S 0] 1)) (HS : W3.heap[S]? = some (.cells #[.string v1] 9)) (hSA : S ≠ A + 1) (B : Below A w W3) :
    AnsAt W4 A 0 (some (A + 1)) st sent ∧ W4.heap[A + 1]? = some (.map #[ent k1 S 0, ent k2 W3.heap.size 1] 2) ∧ W4.heap[S]? = some (.cells #[.string v1] 9) ∧ W4.heap[W3.heap.size]? = some (.cells #[.string v2] 9) ∧ Below A w W4 ∧
      ∀ i o, i ≠ A + 1 → W3.heap[i]? = some o → W4.heap[i]? = some o := by
  have l := lt_of_heap HM
  have kp : ∀ i o, i ≠ A + 1 → W3.heap[i]? = some o → W4.heap[i]? = some o := fun i o hi ho => by
    rw [e, heap_putMap_other (Ne.symm hi)]; exact heap_alloc_keep ho
  refine ⟨kp A _ (by omega) HA, ?_, kp S _ hSA HS, ?_, ?_, kp⟩
  · rw [e]; exact heap_putMap_same (by simp; omega) _
  · rw [e, heap_putMap_other (by omega)]; exact last_new W3 _
  · rw [e]; exact below_putMap (B.alloc (by omega) _) (by omega) _

end Go.Proofs.Qxb6605793a
