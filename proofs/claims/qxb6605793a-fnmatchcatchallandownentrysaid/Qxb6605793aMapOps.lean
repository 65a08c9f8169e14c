import Derived.Test.Qxb6605793aRows
import Derived.WalkKit
import Derived.WalkSpells
import Derived.WalkLawsBesides
namespace Go.Proofs.Qxb6605793a
open Go.RowKit

/-- One entry: a string key, a slice of one string. -/
def ent (k : ByteArray) (S : Nat) (born : Nat) : MapEntry := ⟨.string k, .slice (some ⟨S, 0, none⟩) 1 1, born⟩

def putMap (w : World) (r : Nat) (o : Obj) : World := { w with heap := w.heap.setIfInBounds r o }

theorem und9 (w : World) : (underlying 9).run Try.prog w = .ok .string w := run_underlying Try.underlying9 w
theorem und40 (w : World) : (underlying 40).run Try.prog w = .ok (.map 9 22) w := run_underlying Try.underlying40 w
theorem check9 (b : Bool) (k : ByteArray) (w : World) : (Instr.checkKey b 10000 9 (.string k)).run Try.prog w = .ok () w := by
  have : ∀ n, (Instr.checkKey b (n + 1) 9 (.string k)).run Try.prog w = .ok () w := fun n => by
    unfold Instr.checkKey
    rw [Sem.run_bind, und9]
    rfl
  exact this 9999

theorem find9 (k : ByteArray) (es : List MapEntry) (r : Option (Nat × Value)) (w : World) (h : Instr.findNow .string (.string k) es 0 = some r) :
    (Instr.findKey 9 (.string k) es).run Try.prog w = .ok r w := by
  simp [Instr.findKey, h]

/-- 'm[k]' where the key is found at once. -/
theorem look_at {w : World} {M c : Nat} {es : Array MapEntry} (k : ByteArray) (i : Nat) (v : Value) (hM : w.heap[M]? = some (.map es c)) (h : Instr.findNow .string (.string k) es.toList 0 = some (some (i, v))) :
    (Instr.lookup 40 (.map (some M)) (.string k) false).run Try.prog w = .ok v w := by
  simp [Instr.lookup, MapKept.run_getObj_map hM, check9, find9 k es.toList _ _ h]

/-- 'm[k] = v', k new. -/
theorem upd_new {w : World} {M c : Nat} {es : Array MapEntry} (k : ByteArray) (v : Value) (hM : w.heap[M]? = some (.map es c)) (h : Instr.findNow .string (.string k) es.toList 0 = some none) :
    (Instr.mapUpdate 40 (.map (some M)) (.string k) v).run Try.prog w = .ok () (putMap w M (.map (es.push ⟨.string k, v, c⟩) (c + 1))) := by
  simp [Instr.mapUpdate, MapKept.run_getObj_map hM, check9, find9 k es.toList _ _ h, MapKept.run_setObj_map _ hM, putMap]

theorem len_at {w : World} {M c : Nat} {es : Array MapEntry} (hM : w.heap[M]? = some (.map es c)) (ty : TypeId) :
    (Builtin.len_ #[40] ty #[.map (some M)]).run Try.prog w = .ok (goInt es.size) w := by
  simp [Builtin.len_, MapKept.run_getObj_map hM]

theorem range_at {w : World} {M c : Nat} {es : Array MapEntry} (hM : w.heap[M]? = some (.map es c)) :
    (Instr.range 40 (.map (some M))).run Try.prog w = .ok (.pointer (some ⟨w.heap.size, 0, none⟩)) (w.alloc (.mapIter (some M) c #[] c)) := by
  simp [Instr.range, MapKept.run_getObj_map hM]

theorem getObj_iter {w : World} {r : Nat} {m : Option Nat} {s c : Nat} {seen : Array Nat} (h : w.heap[r]? = some (.mapIter m s seen c)) : (getObj r).run Try.prog w = .ok (.mapIter m s seen c) w := by
  simp [getObj, Sem.run, h]
theorem setObj_iter {w : World} {r : Nat} {m : Option Nat} {s c : Nat} {seen : Array Nat} (h : w.heap[r]? = some (.mapIter m s seen c)) (o' : Obj) : (setObj r o').run Try.prog w = .ok () (putMap w r o') := by
  simp [setObj, Sem.run, h, putMap]
theorem last_new (w : World) (o : Obj) : (w.alloc o).heap[w.heap.size]? = some o := by
  show (w.heap.push o)[w.heap.size]? = some o
  simp
theorem putMap_alloc (w : World) (o o' : Obj) : putMap (w.alloc o) w.heap.size o' = w.alloc o' := by
  unfold putMap
  have h2 : (w.alloc o).heap.setIfInBounds w.heap.size o' = w.heap.push o' := by
    show (w.heap.push _).setIfInBounds w.heap.size o' = w.heap.push o'
    apply Array.ext_getElem?
    intro i
    rw [Array.getElem?_setIfInBounds, Array.getElem?_push, Array.getElem?_push]
    by_cases e : w.heap.size = i
    · subst e; simp
    · rw [if_neg e, if_neg (fun x => e x.symm), if_neg (fun x => e x.symm)]
  rw [h2]
  rfl
theorem getIter {w : World} {m : Option Nat} {s c : Nat} {seen : Array Nat} : (getObj w.heap.size).run Try.prog (w.alloc (.mapIter m s seen c)) = .ok (.mapIter m s seen c) (w.alloc (.mapIter m s seen c)) :=
  getObj_iter (last_new w _)
theorem setIter {w : World} {m : Option Nat} {s c : Nat} {seen : Array Nat} (o' : Obj) : (setObj w.heap.size o').run Try.prog (w.alloc (.mapIter m s seen c)) = .ok () (w.alloc o') := by
  rw [setObj_iter (last_new w _), putMap_alloc]

/-- The first step of a range over a map of one entry. -/
theorem next_one {w : World} {M : Nat} {e : MapEntry} (he : e.born = 0) (hM : w.heap[M]? = some (.map #[e] 1)) (ty : TypeId) :
    (Instr.next (.pointer (some ⟨w.heap.size, 0, none⟩)) false ty).run Try.prog (w.alloc (.mapIter (some M) 1 #[] 1)) = .ok (.tuple #[.bool true, e.key, e.val]) (w.alloc (.mapIter (some M) 1 #[0] 1)) := by
  have hlt : M < w.heap.size := (Array.getElem?_eq_some_iff.1 hM).1
  have hM' : (w.alloc (.mapIter (some M) 1 #[] 1)).heap[M]? = some (.map #[e] 1) := by
    show (w.heap.push _)[M]? = _
    rw [Array.getElem?_push, if_neg (by omega)]; exact hM
  simp [Instr.next, getIter, MapKept.run_getObj_map hM', he, Question.forced, setIter]
/-- .. and the second: nothing is left. -/
theorem next_none {w : World} {M : Nat} {e : MapEntry} (he : e.born = 0) (hM : w.heap[M]? = some (.map #[e] 1)) (ty : TypeId) :
    (Instr.next (.pointer (some ⟨w.heap.size, 0, none⟩)) false ty).run Try.prog (w.alloc (.mapIter (some M) 1 #[0] 1)) = .ok (.tuple #[.bool false]) (w.alloc (.mapIter (some M) 1 #[0] 1)) := by
  have hlt : M < w.heap.size := (Array.getElem?_eq_some_iff.1 hM).1
  have hM' : (w.alloc (.mapIter (some M) 1 #[0] 1)).heap[M]? = some (.map #[e] 1) := by
    show (w.heap.push _)[M]? = _
    rw [Array.getElem?_push, if_neg (by omega)]; exact hM
  simp [Instr.next, getIter, MapKept.run_getObj_map hM', he, Question.forced]
theorem entry_one {w : World} {M : Nat} {e : MapEntry} (he : e.born = 0) (hM : w.heap[M]? = some (.map #[e] 1)) :
    (Instr.entry (.pointer (some ⟨w.heap.size, 0, none⟩))).run Try.prog (w.alloc (.mapIter (some M) 1 #[0] 1)) = .ok (.tuple #[e.key, e.val]) (w.alloc (.mapIter (some M) 1 #[0] 1)) := by
  have hlt : M < w.heap.size := (Array.getElem?_eq_some_iff.1 hM).1
  have hM' : (w.alloc (.mapIter (some M) 1 #[0] 1)).heap[M]? = some (.map #[e] 1) := by
    show (w.heap.push _)[M]? = _
    rw [Array.getElem?_push, if_neg (by omega)]; exact hM
  simp [Instr.entry, getIter, MapKept.run_getObj_map hM', he]

theorem heap_putMap_same {w : World} {r : Nat} (h : r < w.heap.size) (o : Obj) : (putMap w r o).heap[r]? = some o := by
  simp [putMap, h]
theorem heap_putMap_other {w : World} {r i : Nat} (h : r ≠ i) (o : Obj) : (putMap w r o).heap[i]? = w.heap[i]? := by
  simp [putMap, h]
theorem size_putMap {w : World} {r : Nat} (o : Obj) : (putMap w r o).heap.size = w.heap.size := by
  simp [putMap]

section
variable {w : World} {M I : Nat} {e : MapEntry}
theorem next_one_at (he : e.born = 0) (hI : w.heap[I]? = some (.mapIter (some M) 1 #[] 1)) (hM : w.heap[M]? = some (.map #[e] 1)) (ty : TypeId) :
    (Instr.next (.pointer (some ⟨I, 0, none⟩)) false ty).run Try.prog w = .ok (.tuple #[.bool true, e.key, e.val]) (putMap w I (.mapIter (some M) 1 #[0] 1)) := by
  simp [Instr.next, getObj_iter hI, MapKept.run_getObj_map hM, he, Question.forced, setObj_iter hI]
theorem next_none_at (he : e.born = 0) (hI : w.heap[I]? = some (.mapIter (some M) 1 #[0] 1)) (hM : w.heap[M]? = some (.map #[e] 1)) (ty : TypeId) :
    (Instr.next (.pointer (some ⟨I, 0, none⟩)) false ty).run Try.prog w = .ok (.tuple #[.bool false]) w := by
  simp [Instr.next, getObj_iter hI, MapKept.run_getObj_map hM, he, Question.forced]
theorem entry_one_at (he : e.born = 0) (hI : w.heap[I]? = some (.mapIter (some M) 1 #[0] 1)) (hM : w.heap[M]? = some (.map #[e] 1)) :
    (Instr.entry (.pointer (some ⟨I, 0, none⟩))).run Try.prog w = .ok (.tuple #[e.key, e.val]) w := by
  simp [Instr.entry, getObj_iter hI, MapKept.run_getObj_map hM, he]
theorem makeMap_n (n : Int) (w : World) : (Instr.makeMap 40 (some (.int .i64 n))).run Try.prog w = .ok (.map (some w.heap.size)) (w.alloc (.map #[] 0)) := by
  simp [Instr.makeMap, asInt, asIntOf]
theorem make_one (w : World) : (Instr.makeSlice 22 (.int .i64 1) (.int .i64 1)).run Try.prog w = .ok (.slice (some ⟨w.heap.size, 0, none⟩) 1 1) (w.alloc (.cells #[.string ByteArray.empty] 9)) := by kernel_rfl
theorem copy_one {w : World} {D S : Nat} {x : Value} {v : ByteArray} (hD : w.heap[D]? = some (.cells #[x] 9)) (hS : w.heap[S]? = some (.cells #[.string v] 9)) (ty : TypeId) :
    (Builtin.copy_ #[22, 22] ty #[.slice (some ⟨D, 0, none⟩) 1 1, .slice (some ⟨S, 0, none⟩) 1 1]).run Try.prog w = .ok (.int .i64 1) (w.setCell ⟨D, 0, none⟩ (.string v)) := by
  have cD : w.cell? ⟨D, 0, none⟩ = some x := by simp [World.cell?, hD]
  have fD : w.frozen? ⟨D, 0, none⟩ = false := by simp [World.frozen?, hD]
  have cS : w.cell? ⟨S, 0, none⟩ = some (.string v) := by simp [World.cell?, hS]
  simp [Builtin.copy_, go_sem, cD, fD, cS, Builtin.lenOf, Builtin.firstCells]
end
end Go.Proofs.Qxb6605793a
