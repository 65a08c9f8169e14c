import Derived.Test.Qxb6605793aAns
import Derived.Test.Qxb6605793aLocks
import Derived.Conc.MuLone
import Derived.Deep.RegionWith
namespace Go.Proofs.Qxb6605793a
open Go.RowKit Go.MuLone

set_option maxHeartbeats 400000 in
theorem write_info (A M : Nat) (code : Int) (w : World) (H : AnsAt w A 0 (some M) 0 none) (h1 : 100 ≤ code) (h2 : code ≤ 199) :
    Calls Try.prog 20 #[.pointer (some ⟨A, 0, none⟩), .int .i64 code] w fun e w' => e = .returned (.tuple #[]) ∧ AnsAt w' A 0 (some M) 0 none ∧ w.grownBy w' (some A) := by
  have c0 := H.c0
  have f0 := H.fz 0
  have H1 := H.set0 1
  have H2 := H1.set0 0
  have G : w.grownBy ((w.setCell ⟨A, 0, none⟩ (.int .i32 1)).setCell ⟨A, 0, none⟩ (.int .i32 0)) (some A) := grown_setCell (grown_setCell (World.grownBy.refl w _) 0 _) 0 _
  go_enter_defers Try.func20, Try.ntmps20
  go_wp2_with fail
  refine (lock_free Try.muLib ⟨A, 0, none⟩ _ c0 f0).mono ?_
  rintro e w' ⟨rfl, rfl⟩
  have k0 := H1.c0
  go_wp2_with fail
  refine (recWrite_info A M 1 code _ H1 h1 h2).mono ?_
  rintro e w' ⟨rfl, rfl⟩
  go_wp2_with fail
  refine leaves_cons (f := 27) (args := #[.pointer (some ⟨A, 0, none⟩)]) (by simp) (by simp [go_sem]) ?_
  refine (unlock_deferred Try.muLib ⟨A, 0, none⟩ .returning _ H1.c0 (H1.fz 0)).mono ?_
  rintro e u' w'' ⟨rfl, rfl, rfl⟩
  exact ⟨_, results_none rfl _ _ _, rfl, H2, G⟩

set_option maxHeartbeats 400000 in
theorem write_takes (A M S : Nat) (code : Int) (k v : ByteArray) (w : World) (H : AnsAt w A 0 (some M) 0 none) (h : ¬ (100 ≤ code ∧ code ≤ 199))
    (hM : w.heap[M]? = some (.map #[ent k S 0] 1)) (hS : w.heap[S]? = some (.cells #[.string v] 9)) (hAM : M ≠ A) (hAS : S ≠ A) :
    Calls Try.prog 20 #[.pointer (some ⟨A, 0, none⟩), .int .i64 code] w fun e w' => e = .returned (.tuple #[]) ∧ Wrote w w' A M S 0 code k v := by
  have c0 := H.c0
  have f0 := H.fz 0
  have H1 := H.set0 1
  have C : Hid (∀ (w' : World), w' = w.setCell ⟨A, 0, none⟩ (.int .i32 1) → Calls Try.prog 28 #[.pointer (some ⟨A, 2, none⟩), .int .i64 code] w' fun e w'' => e = .returned (.tuple #[]) ∧ Wrote w' w'' A M S 1 code k v) := by
    rintro w' rfl
    exact recWrite_takes A M S 1 code k v _ H1 h (by rw [Below.heap_setCell _ _ _ _ hAM]; exact hM) (by rw [Below.heap_setCell _ _ _ _ hAS]; exact hS) hAM hAS
  have hlt := H.lt
  have k0 := H1.c0
  clear hM hS h
  go_enter_defers Try.func20, Try.ntmps20
  go_wp2_with fail
  refine (lock_free Try.muLib ⟨A, 0, none⟩ _ c0 f0).mono ?_
  rintro e w' ⟨rfl, rfl⟩
  go_wp2_with fail
  refine (C.out _ rfl).mono ?_
  rintro e w2 ⟨rfl, M2, S2, B1, B2, B3, B4, B5, B6⟩
  have hz : (w.setCell ⟨A, 0, none⟩ (.int .i32 1)).heap.size = w.heap.size := by simp [World.setCell]
  rw [hz] at B2 B3
  have hgz := B6.size
  rw [hz] at hgz
  have HW : Hid (Wrote w (w2.setCell ⟨A, 0, none⟩ (.int .i32 0)) A M S 0 code k v) :=
    ⟨M2, S2, B1.set0 0, B2, B3, by rw [Below.heap_setCell _ _ _ _ (by show M2 ≠ A; omega)]; exact B4, by rw [Below.heap_setCell _ _ _ _ (by show S2 ≠ A; omega)]; exact B5,
      grown_setCell (show w.grownBy w2 (some A) from ⟨B6.os, B6.tape, B6.output, hgz, fun j hj hne => by rw [B6.block j (by rw [hz]; exact hj) hne, Below.heap_setCell _ _ _ _ (by intro e; exact hne (by rw [e]))]⟩) 0 _⟩
  have b0 := B1.c0
  have g0 := B1.fz 0
  clear B1 B4 B5 B6 hz
  go_wp2_with fail
  refine leaves_cons (f := 27) (args := #[.pointer (some ⟨A, 0, none⟩)]) (by simp) (by simp [go_sem]) ?_
  refine (unlock_deferred Try.muLib ⟨A, 0, none⟩ .returning _ b0 g0).mono ?_
  rintro e u' w'' ⟨rfl, rfl, rfl⟩
  exact ⟨_, results_none rfl _ _ _, rfl, HW.out⟩

set_option maxHeartbeats 400000 in
theorem bytes_none (A : Nat) (w : World) (c5 : w.cell? ⟨A, 5, none⟩ = some (.slice none 0 0)) (c6 : w.cell? ⟨A, 6, none⟩ = some (.int .i64 0)) :
    Calls Try.prog 39 #[.pointer (some ⟨A, 5, none⟩)] w fun e w' => e = .returned (.slice none 0 0) ∧ ∃ m, w' = w.drewN m := by
  go_enter Try.func39, Try.ntmps39
  go_wp2
  go_quiet (fail)
  go_wp2
  go_ret
  exact ⟨rfl, _, rfl⟩

set_option maxHeartbeats 400000 in
theorem one_yes (S : Nat) (v : ByteArray) (w : World) (hS : w.heap[S]? = some (.cells #[.string v] 9)) :
    Calls Try.prog 18 #[.slice (some ⟨S, 0, none⟩) 1 1, .string v] w fun e w' => e = .returned (.bool true) ∧ w' = w := by
  have c0 : w.cell? ⟨S, 0, none⟩ = some (.string v) := by simp [World.cell?, hS]
  clear hS
  go_enter Try.func18, Try.ntmps18
  go_wp2
  go_ret
  exact ⟨by simp, rfl⟩

end Go.Proofs.Qxb6605793a
