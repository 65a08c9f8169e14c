import Derived.Test.Qxb6605793aClone
import Derived.WalkKit
import Derived.WalkSpells
import Derived.WalkLawsBesides
import Derived.Deep.QuietTactic
import Derived.BigQuiet
namespace Go.Proofs.Qxb6605793a
open Go.RowKit

/-- An Answer's eleven cells: the lock's word, the header's map, the status, the map that was sent. -/
def ansCells (mu : Int) (h : Option Nat) (st : Int) (sent : Option Nat) : Array Value :=
  #[.int .i32 mu, .int .u32 0, .map h, .int .i64 st, .map sent, .slice none 0 0, .int .i64 0, .int .i8 0, .nilIface, .bool false, .nilIface]
def AnsAt (w : World) (A : Nat) (mu : Int) (h : Option Nat) (st : Int) (sent : Option Nat) : Prop := w.heap[A]? = some (.cells (ansCells mu h st sent) 51)

section
variable {w : World} {A : Nat} {mu : Int} {h : Option Nat} {st : Int} {sent : Option Nat}
theorem AnsAt.cell (H : AnsAt w A mu h st sent) (j : Nat) : w.cell? ⟨A, j, none⟩ = (ansCells mu h st sent)[j]? := by
  unfold AnsAt at H
  simp [World.cell?, H]
theorem AnsAt.c0 (H : AnsAt w A mu h st sent) : w.cell? ⟨A, 0, none⟩ = some (.int .i32 mu) := by rw [H.cell]; rfl
theorem AnsAt.c2 (H : AnsAt w A mu h st sent) : w.cell? ⟨A, 2, none⟩ = some (.map h) := by rw [H.cell]; rfl
theorem AnsAt.c3 (H : AnsAt w A mu h st sent) : w.cell? ⟨A, 3, none⟩ = some (.int .i64 st) := by rw [H.cell]; rfl
theorem AnsAt.c4 (H : AnsAt w A mu h st sent) : w.cell? ⟨A, 4, none⟩ = some (.map sent) := by rw [H.cell]; rfl
theorem AnsAt.c5 (H : AnsAt w A mu h st sent) : w.cell? ⟨A, 5, none⟩ = some (.slice none 0 0) := by rw [H.cell]; rfl
theorem AnsAt.c6 (H : AnsAt w A mu h st sent) : w.cell? ⟨A, 6, none⟩ = some (.int .i64 0) := by rw [H.cell]; rfl
theorem AnsAt.fz (H : AnsAt w A mu h st sent) (j : Nat) : w.frozen? ⟨A, j, none⟩ = false := by
  unfold AnsAt at H
  simp [World.frozen?, H]
theorem AnsAt.lt (H : AnsAt w A mu h st sent) : A < w.heap.size := (Array.getElem?_eq_some_iff.1 H).1
theorem heap_setCell_same {cs : Array Value} {t : TypeId} {fr : Nat × Nat} (H : w.heap[A]? = some (.cells cs t fr)) (j : Nat) (v : Value) :
    (w.setCell ⟨A, j, none⟩ v).heap[A]? = some (.cells (cs.setIfInBounds j v) t fr) := by
  simp [World.setCell, Array.getElem?_modify, H]
theorem AnsAt.set0 (H : AnsAt w A mu h st sent) (mu' : Int) : AnsAt (w.setCell ⟨A, 0, none⟩ (.int .i32 mu')) A mu' h st sent := by
  unfold AnsAt; rw [heap_setCell_same H]; rfl
theorem AnsAt.set2 (H : AnsAt w A mu h st sent) (h' : Option Nat) : AnsAt (w.setCell ⟨A, 2, none⟩ (.map h')) A mu h' st sent := by
  unfold AnsAt; rw [heap_setCell_same H]; rfl
theorem AnsAt.set3 (H : AnsAt w A mu h st sent) (st' : Int) : AnsAt (w.setCell ⟨A, 3, none⟩ (.int .i64 st')) A mu h st' sent := by
  unfold AnsAt; rw [heap_setCell_same H]; rfl
theorem AnsAt.set4 (H : AnsAt w A mu h st sent) (s' : Option Nat) : AnsAt (w.setCell ⟨A, 4, none⟩ (.map s')) A mu h st s' := by
  unfold AnsAt; rw [heap_setCell_same H]; rfl
theorem AnsAt.alloc (H : AnsAt w A mu h st sent) (o : Obj) : AnsAt (w.alloc o) A mu h st sent := by
  unfold AnsAt
  show (w.heap.push o)[A]? = _
  rw [Array.getElem?_push, if_neg (by have := H.lt; omega)]; exact H
end


theorem grown_setCell {w w' : World} {A : Nat} (h : w.grownBy w' (some A)) (j : Nat) (v : Value) : w.grownBy (w'.setCell ⟨A, j, none⟩ v) (some A) :=
  ⟨h.os, h.tape, h.output, by simpa [World.setCell] using h.size, fun k hk hne => by
    rw [Below.heap_setCell _ _ _ _ (by intro e; exact hne (by rw [e]))]; exact h.block k hk hne⟩
theorem grown_alloc {w w' : World} {A : Nat} (h : w.grownBy w' (some A)) (o : Obj) : w.grownBy (w'.alloc o) (some A) :=
  ⟨h.os, h.tape, h.output, by have := h.size; show w.heap.size ≤ (w'.heap.push o).size; simp; omega, fun k hk hne => by
    rw [Below.heap_alloc _ _ _ (by have := h.size; omega)]; exact h.block k hk hne⟩
theorem grown_below {w w' w'' : World} {A : Nat} (h : w.grownBy w' (some A)) (b : Below w'.heap.size w' w'') : w.grownBy w'' (some A) :=
  ⟨b.os.trans h.os, b.tape.trans h.tape, b.output.trans h.output, Nat.le_trans h.size b.size, fun k hk hne => by
    rw [b.block k (by have := h.size; omega)]; exact h.block k hk hne⟩
theorem AnsAt.below {w w' : World} {A : Nat} {mu : Int} {h : Option Nat} {st : Int} {sent : Option Nat} (H : AnsAt w A mu h st sent) (b : Below w.heap.size w w') : AnsAt w' A mu h st sent := by
  unfold AnsAt; rw [b.block A H.lt]; exact H

set_option maxHeartbeats 400000 in
theorem recHeader_nil (A : Nat) (mu st : Int) (sent : Option Nat) (w : World) (H : AnsAt w A mu none st sent) :
    Calls Try.prog 25 #[.pointer (some ⟨A, 2, none⟩)] w fun e w' => e = .returned (.map (some w.heap.size)) ∧ w' = (w.setCell ⟨A, 2, none⟩ (.map (some w.heap.size))).alloc (.map #[] 0) := by
  have c2 := H.c2
  have hlt := H.lt
  have hmm := @run_makeMap Try.prog
  have c2' := (H.alloc (.map #[] 0)).c2
  have f2' := (H.alloc (.map #[] 0)).fz 2
  have e1 := eqNil
  clear H
  go_enter Try.func25, Try.ntmps25
  go_wp2
  go_ret
  exact ⟨rfl, rfl⟩

set_option maxHeartbeats 400000 in
theorem recHeader_set (A M : Nat) (mu st : Int) (sent : Option Nat) (w : World) (H : AnsAt w A mu (some M) st sent) :
    Calls Try.prog 25 #[.pointer (some ⟨A, 2, none⟩)] w fun e w' => e = .returned (.map (some M)) ∧ w' = w := by
  have c2 := H.c2
  have e1 := eqNil
  clear H
  go_enter Try.func25, Try.ntmps25
  go_wp2
  go_ret
  exact ⟨rfl, rfl⟩

set_option maxHeartbeats 400000 in
theorem header_nil (A : Nat) (st : Int) (sent : Option Nat) (w : World) (H : AnsAt w A 0 none st sent) :
    Calls Try.prog 17 #[.pointer (some ⟨A, 0, none⟩)] w fun e w' => e = .returned (.map (some w.heap.size)) ∧ AnsAt w' A 0 (some w.heap.size) st sent ∧ w'.heap[w.heap.size]? = some (.map #[] 0) ∧ w.grownBy w' (some A) := by
  have c0 := H.c0
  go_enter Try.func17, Try.ntmps17
  go_wp2_with fail
  refine (recHeader_nil A 0 st sent _ H).mono ?_
  rintro e w' ⟨rfl, rfl⟩
  have hlt := H.lt
  have hA : AnsAt ((w.setCell ⟨A, 2, none⟩ (.map (some w.heap.size))).alloc (.map #[] 0)) A 0 (some w.heap.size) st sent := (H.set2 _).alloc _
  have hN : ((w.setCell ⟨A, 2, none⟩ (.map (some w.heap.size))).alloc (.map #[] 0)).heap[w.heap.size]? = some (.map #[] 0) := by
    have := last_new (w.setCell ⟨A, 2, none⟩ (.map (some w.heap.size))) (.map #[] 0)
    rwa [show (w.setCell ⟨A, 2, none⟩ (.map (some w.heap.size))).heap.size = w.heap.size by simp [World.setCell]] at this
  have hG : w.grownBy ((w.setCell ⟨A, 2, none⟩ (.map (some w.heap.size))).alloc (.map #[] 0)) (some A) := grown_alloc (grown_setCell (World.grownBy.refl w _) 2 _) _
  generalize (w.setCell ⟨A, 2, none⟩ (.map (some w.heap.size))).alloc (.map #[] 0) = W at *
  go_wp2
  go_ret
  exact ⟨rfl, hA, hN, hG⟩

set_option maxHeartbeats 400000 in
theorem header_set (A M : Nat) (st : Int) (sent : Option Nat) (w : World) (H : AnsAt w A 0 (some M) st sent) :
    Calls Try.prog 17 #[.pointer (some ⟨A, 0, none⟩)] w fun e w' => e = .returned (.map (some M)) ∧ w' = w := by
  have c0 := H.c0
  go_enter Try.func17, Try.ntmps17
  go_wp2_with fail
  refine (recHeader_set A M 0 st sent _ H).mono ?_
  rintro e w' ⟨rfl, rfl⟩
  go_wp2
  go_ret
  exact ⟨rfl, rfl⟩

/-- What a WriteHeader that takes leaves. -/
def Wrote (w w' : World) (A M _S : Nat) (mu code : Int) (k v : ByteArray) : Prop :=
  ∃ M2 S2 : Nat, AnsAt w' A mu (some M) code (some M2) ∧ w.heap.size ≤ M2 ∧ w.heap.size ≤ S2 ∧ w'.heap[M2]? = some (.map #[ent k S2 0] 1) ∧ w'.heap[S2]? = some (.cells #[.string v] 9) ∧ w.grownBy w' (some A)

set_option maxHeartbeats 400000 in
theorem recWrite_info (A M : Nat) (mu code : Int) (w : World) (H : AnsAt w A mu (some M) 0 none) (h1 : 100 ≤ code) (h2 : code ≤ 199) :
    Calls Try.prog 28 #[.pointer (some ⟨A, 2, none⟩), .int .i64 code] w fun e w' => e = .returned (.tuple #[]) ∧ w' = w := by
  have c3 := H.c3
  clear H
  go_enter Try.func28, Try.ntmps28
  go_wp2
  exact bodyPost_ret (v := .tuple #[]) (results_none rfl _ _ _) rfl ⟨rfl, rfl⟩

set_option maxHeartbeats 400000 in
theorem recWrite_takes (A M S : Nat) (mu code : Int) (k v : ByteArray) (w : World) (H : AnsAt w A mu (some M) 0 none) (h : ¬ (100 ≤ code ∧ code ≤ 199))
    (hM : w.heap[M]? = some (.map #[ent k S 0] 1)) (hS : w.heap[S]? = some (.cells #[.string v] 9)) (hAM : M ≠ A) (hAS : S ≠ A) :
    Calls Try.prog 28 #[.pointer (some ⟨A, 2, none⟩), .int .i64 code] w fun e w' => e = .returned (.tuple #[]) ∧ Wrote w w' A M S mu code k v := by
  have c3 := H.c3
  have c2 := H.c2
  have f3 := H.fz 3
  have H1 := H.set3 code
  have hM1 : (w.setCell ⟨A, 3, none⟩ (.int .i64 code)).heap[M]? = some (.map #[ent k S 0] 1) := by rw [Below.heap_setCell _ _ _ _ hAM]; exact hM
  have hS1 : (w.setCell ⟨A, 3, none⟩ (.int .i64 code)).heap[S]? = some (.cells #[.string v] 9) := by rw [Below.heap_setCell _ _ _ _ hAS]; exact hS
  have HH : Hid (AnsAt w A mu (some M) 0 none) := H
  have G : Hid (w.grownBy (w.setCell ⟨A, 3, none⟩ (.int .i64 code)) (some A)) := grown_setCell (World.grownBy.refl w _) 3 _
  have Z : Hid ((w.setCell ⟨A, 3, none⟩ (.int .i64 code)).heap.size = w.heap.size) := by show _ = _; simp [World.setCell]
  have C : Hid (∀ (w' : World), w' = w.setCell ⟨A, 3, none⟩ (.int .i64 code) → Calls Try.prog 38 #[.map (some M)] w' fun e w'' => ∃ M2 S2 : Nat, e = .returned (.map (some M2)) ∧ w'.heap.size ≤ M2 ∧ w'.heap.size ≤ S2 ∧ w''.heap[M2]? = some (.map #[ent k S2 0] 1) ∧
      w''.heap[S2]? = some (.cells #[.string v] 9) ∧ Below w'.heap.size w' w'') := by
    rintro w' rfl
    exact clone_one M S k v _ hM1 hS1
  have c2' := H1.c2
  clear H hM hS hM1 hS1
  go_enter Try.func28, Try.ntmps28
  by_cases h1 : 100 ≤ code
  · have h2 : ¬ code ≤ 199 := fun x => h ⟨h1, x⟩
    clear h
    go_wp2_with fail
    refine (C.out _ rfl).mono ?_
    rintro e w2 ⟨M2, S2, rfl, hm, hs, hm2, hs2, hb⟩
    have H2 := H1.below hb
    have c4 := H2.c4
    have f4 := H2.fz 4
    have G2 := grown_below G.out hb
    have lt2 := H2.lt
    rw [Z.out] at hm hs
    have HW : Hid (Wrote w (w2.setCell ⟨A, 4, none⟩ (.map (some M2))) A M S mu code k v) :=
      ⟨M2, S2, H2.set4 _, hm, hs, by rw [Below.heap_setCell _ _ _ _ (by show M2 ≠ A; have := HH.out.lt; omega)]; exact hm2, by rw [Below.heap_setCell _ _ _ _ (by show S2 ≠ A; have := HH.out.lt; omega)]; exact hs2, grown_setCell G2 4 _⟩
    clear hm2 hs2 hb H1 H2 G2 c2 c3 f3 c2'
    go_wp2
    go_end0
    exact ⟨rfl, HW.out⟩
  · clear h
    go_wp2_with fail
    refine (C.out _ rfl).mono ?_
    rintro e w2 ⟨M2, S2, rfl, hm, hs, hm2, hs2, hb⟩
    have H2 := H1.below hb
    have c4 := H2.c4
    have f4 := H2.fz 4
    have G2 := grown_below G.out hb
    have lt2 := H2.lt
    rw [Z.out] at hm hs
    have HW : Hid (Wrote w (w2.setCell ⟨A, 4, none⟩ (.map (some M2))) A M S mu code k v) :=
      ⟨M2, S2, H2.set4 _, hm, hs, by rw [Below.heap_setCell _ _ _ _ (by show M2 ≠ A; have := HH.out.lt; omega)]; exact hm2, by rw [Below.heap_setCell _ _ _ _ (by show S2 ≠ A; have := HH.out.lt; omega)]; exact hs2, grown_setCell G2 4 _⟩
    clear hm2 hs2 hb H1 H2 G2 c2 c3 f3 c2'
    go_wp2
    go_end0
    exact ⟨rfl, HW.out⟩
end Go.Proofs.Qxb6605793a
