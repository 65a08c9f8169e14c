import Derived.Test.Qxb6605793aRec
import Derived.Test.Qxb6605793aQtail
namespace Go.Proofs.Qxb6605793a
open Go.RowKit

/-- The recorded answer as a value. -/
def recV (st : Int) (h f : Option Nat) : Value := .agg #[.int .i64 st, .map h, .slice none 0 0, .map f]
theorem Below_drewN {B : Nat} {a w : World} (h : Below B a w) : ∀ m, Below B a (w.drewN m) := fun _ => ⟨h.os, h.tape, h.output, h.size, h.block⟩

theorem four_cells {X : World} {R : Nat} {a b c d : Value} (h : X.heap[R]? = some (.cells #[a, b, c, d] 56)) (x y z u : Value) :
    ((((X.setCell ⟨R, 0, none⟩ x).setCell ⟨R, 1, none⟩ y).setCell ⟨R, 2, none⟩ z).setCell ⟨R, 3, none⟩ u).heap[R]? = some (.cells #[x, y, z, u] 56) := by
  have h1 := heap_setCell_same h 0 x
  have h2 := heap_setCell_same h1 1 y
  have h3 := heap_setCell_same h2 2 z
  have h4 := heap_setCell_same h3 3 u
  rw [h4]; rfl
theorem rec_results {fn : Func} (hr : fn.results = #[.cell 2 56]) (tmps : Array Value) {X : World} {R : Nat} {st : Int} {h f : Option Nat} (hp : tmps.getD 2 undef = .pointer (some ⟨R, 0, none⟩)) (hX : X.heap[R]? = some (.cells #[.int .i64 st, .map h, .slice none 0 0, .map f] 56)) :
    (results fn tmps).run Try.prog X = .ok (recV st h f) X :=
  results_cell_row hr tmps X R 56 _ (0, 0) _ hp hX Try.underlying56 rfl (by kernel_rfl)
theorem four_below {w X : World} {R : Nat} (hb : Below w.heap.size w X) (hR : w.heap.size ≤ R) (x y z u : Value) :
    Below w.heap.size w ((((X.setCell ⟨R, 0, none⟩ x).setCell ⟨R, 1, none⟩ y).setCell ⟨R, 2, none⟩ z).setCell ⟨R, 3, none⟩ u) :=
  (((hb.setCell hR _).setCell hR _).setCell hR _).setCell hR _

set_option maxHeartbeats 1000000 in
theorem answer_zero (A M : Nat) (mu : Int) (sent : Option Nat) (w : World) (H : AnsAt w A mu (some M) 0 sent) :
    Calls Try.prog 29 #[.pointer (some ⟨A, 2, none⟩)] w fun e w' => e = .returned (recV 200 (some M) (some M)) ∧ Below w.heap.size w w' := by
  have H1 := H.alloc (.cells #[.int .i64 0, .map none, .slice none 0 0, .map none] 56)
  have c2 := H1.c2
  have c3 := H1.c3
  have hlt := H.lt
  have HH : Hid (AnsAt w A mu (some M) 0 sent) := H
  clear H H1
  go_enter Try.func29, Try.ntmps29
  go_wp2
  refine wp_region_quiet_tail 13 (by kernel_rfl) (by kernel_rfl) ?_
  simp only [List.take_succ_cons, List.take_zero, List.drop_succ_cons, List.drop_zero]
  repeat (first | go_big_quiet_step ((go_at_call 39; exact Calls.quiet_of (bytes_none A _ (HH.out.alloc _).c5 (HH.out.alloc _).c6))) | quiet_step ((go_at_call 39; exact Calls.quiet_of (bytes_none A _ (HH.out.alloc _).c5 (HH.out.alloc _).c6))))
  refine wpQuiet_nil ?_
  intro _ hw'
  obtain ⟨nq, hw''⟩ := hw'
  subst hw''
  go_wp2
  exact bodyPost_ret (v := recV 200 (some M) (some M)) (rec_results rfl _ rfl (four_cells (X := (w.alloc (.cells #[.int .i64 0, .map none, .slice none 0 0, .map none] 56)).drewN nq) (last_new w _) _ _ _ _)) rfl
    ⟨rfl, four_below (X := (w.alloc (.cells #[.int .i64 0, .map none, .slice none 0 0, .map none] 56)).drewN nq) (Below_drewN ((Below.refl _ _).alloc (Nat.le_refl _) _) nq) (Nat.le_refl _) _ _ _ _⟩

set_option maxHeartbeats 1000000 in
theorem answer_set (A M : Nat) (mu st : Int) (sent : Option Nat) (w : World) (H : AnsAt w A mu (some M) st sent) (hst : (st == 0) = false) :
    Calls Try.prog 29 #[.pointer (some ⟨A, 2, none⟩)] w fun e w' => e = .returned (recV st sent (some M)) ∧ Below w.heap.size w w' := by
  have H1 := H.alloc (.cells #[.int .i64 0, .map none, .slice none 0 0, .map none] 56)
  have c2 := H1.c2
  have c3 := H1.c3
  have c4 := H1.c4
  have hlt := H.lt
  have HH : Hid (AnsAt w A mu (some M) st sent) := H
  clear H H1
  go_enter Try.func29, Try.ntmps29
  go_wp2
  refine wp_region_quiet_tail 17 (by kernel_rfl) (by kernel_rfl) ?_
  simp only [List.take_succ_cons, List.take_zero, List.drop_succ_cons, List.drop_zero]
  repeat (first | go_big_quiet_step ((go_at_call 39; exact Calls.quiet_of (bytes_none A _ (HH.out.alloc _).c5 (HH.out.alloc _).c6))) | quiet_step ((go_at_call 39; exact Calls.quiet_of (bytes_none A _ (HH.out.alloc _).c5 (HH.out.alloc _).c6))))
  refine wpQuiet_nil ?_
  intro _ hw'
  obtain ⟨nq, hw''⟩ := hw'
  subst hw''
  go_wp2
  exact bodyPost_ret (v := recV st sent (some M)) (rec_results rfl _ rfl (four_cells (X := (w.alloc (.cells #[.int .i64 0, .map none, .slice none 0 0, .map none] 56)).drewN nq) (last_new w _) _ _ _ _)) rfl
    ⟨rfl, four_below (X := (w.alloc (.cells #[.int .i64 0, .map none, .slice none 0 0, .map none] 56)).drewN nq) (Below_drewN ((Below.refl _ _).alloc (Nat.le_refl _) _) nq) (Nat.le_refl _) _ _ _ _⟩

set_option maxHeartbeats 400000 in
theorem zzrec (A M : Nat) (mu st st' : Int) (sent h : Option Nat) (w : World) (H : AnsAt w A mu (some M) st sent)
    (C : ∀ w : World, AnsAt w A mu (some M) st sent → Calls Try.prog 29 #[.pointer (some ⟨A, 2, none⟩)] w fun e w' => e = .returned (recV st' h (some M)) ∧ Below w.heap.size w w') :
    Calls Try.prog 21 #[.pointer (some ⟨A, 0, none⟩)] w fun e w' => e = .returned (recV st' h (some M)) ∧ Below w.heap.size w w' := by
  have H1 := H.alloc (.cells #[.int .i64 0, .map none, .slice none 0 0, .map none] 56)
  have c0 := H1.c0
  have hlt := H.lt
  have HC : Hid (∀ w : World, AnsAt w A mu (some M) st sent → Calls Try.prog 29 #[.pointer (some ⟨A, 2, none⟩)] w fun e w' => e = .returned (recV st' h (some M)) ∧ Below w.heap.size w w') := C
  clear C
  go_enter Try.func21, Try.ntmps21
  go_wp2_with fail
  refine (HC.out _ H1).mono ?_
  rintro e w2 ⟨rfl, hb⟩
  have hR : w2.heap[w.heap.size]? = some (.cells #[.int .i64 0, .map none, .slice none 0 0, .map none] 56) := by
    rw [hb.block w.heap.size (by simp)]; exact last_new w _
  have hb2 : Below w.heap.size w w2 := ((Below.refl _ _).alloc (Nat.le_refl _) _).trans (hb.mono (by simp))
  have r0 : w2.cell? ⟨w.heap.size, 0, none⟩ = some (.int .i64 0) := by simp [World.cell?, hR]
  have r1 : w2.cell? ⟨w.heap.size, 1, none⟩ = some (.map none) := by simp [World.cell?, hR]
  have r2 : w2.cell? ⟨w.heap.size, 2, none⟩ = some (.slice none 0 0) := by simp [World.cell?, hR]
  have r3 : w2.cell? ⟨w.heap.size, 3, none⟩ = some (.map none) := by simp [World.cell?, hR]
  have f0 : ∀ j, w2.frozen? ⟨w.heap.size, j, none⟩ = false := fun j => by simp [World.frozen?, hR]
  have HR : Hid (w2.heap[w.heap.size]? = some (.cells #[.int .i64 0, .map none, .slice none 0 0, .map none] 56)) := hR
  clear hR hb H H1 c0
  unfold recV
  go_wp2
  exact bodyPost_ret (v := recV st' h (some M)) (rec_results rfl _ rfl (four_cells HR.out _ _ _ _)) rfl ⟨rfl, four_below hb2 (Nat.le_refl _) _ _ _ _⟩
end Go.Proofs.Qxb6605793a
