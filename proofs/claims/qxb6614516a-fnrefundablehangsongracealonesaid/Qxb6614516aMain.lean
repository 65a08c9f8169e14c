import Derived.Test.Qxb6614516aParts
namespace Go.Proofs.Qxb6614516a
open Go.RowKit

theorem last_new (w : World) (o : Obj) : (w.alloc o).heap[w.heap.size]? = some o := by
  show (w.heap.push o)[w.heap.size]? = some o
  simp
def qCells (c : ByteArray) (p : Option Addr) (y f : Int) (g : ByteArray) : Array Value := #[.string c, .pointer p, .int .i64 y, .int .i64 f, .string g]
theorem q_at {w : World} {b : Nat} {c : ByteArray} {p : Option Addr} {y f : Int} {g : ByteArray} (h : w.heap[b]? = some (.cells (qCells c p y f g) 37)) :
    w.cell? ⟨b, 0, none⟩ = some (.string c) ∧ w.cell? ⟨b, 1, none⟩ = some (.pointer p) ∧ w.cell? ⟨b, 2, none⟩ = some (.int .i64 y) ∧ w.cell? ⟨b, 3, none⟩ = some (.int .i64 f) ∧ w.cell? ⟨b, 4, none⟩ = some (.string g) := by
  refine ⟨?_, ?_, ?_, ?_, ?_⟩ <;> (simp [World.cell?, h, qCells])

set_option maxRecDepth 20000 in
set_option maxHeartbeats 2000000 in
theorem main_yes (a0 a1 : ByteArray) (a2 : Bool) (a3 a4 : Int) (a5 a6 : ByteArray) (a7 : Bool) (a8 a9 : Int) (a10 : ByteArray) (w : World)
    (h : a0.size + a1.size + a5.size + a6.size + a10.size ≤ 1048576) :
    Calls Try.prog 5 #[.string a0, .string a1, .bool a2, .int .i64 a3, .int .i64 a4, .string a5, .string a6, .bool a7, .int .i64 a8, .int .i64 a9, .string a10] w fun e w' => e = .returned (.bool true) ∧ Below w.heap.size w w' := by
  have h1 : ¬ ((1048576 : Int) < (a0.size : Int)) := by omega
  have h2 : ¬ ((1048576 : Int) - (a0.size : Int) < (a1.size : Int)) := by omega
  have h3 : ¬ ((1048576 : Int) - ((a0.size : Int) + (a1.size : Int)) < (a5.size : Int)) := by omega
  have h4 : ¬ ((1048576 : Int) - ((a0.size : Int) + (a1.size : Int) + (a5.size : Int)) < (a6.size : Int)) := by omega
  have h5 : ¬ ((1048576 : Int) - ((a0.size : Int) + (a1.size : Int) + (a5.size : Int) + (a6.size : Int)) < (a10.size : Int)) := by omega
  go_enter Try.func5, Try.ntmps5
  go_wp2_with fail
  refine (zzbytes7_yes a0 a1 a5 a6 a10 a2 a7 a3 a4 a8 a9 _ h).mono ?_
  rintro e w' ⟨rfl, hw⟩
  subst hw
  go_wp2_with fail
  refine (class_any a1 a2 _).mono ?_
  rintro e W1 ⟨⟨o1, rfl⟩, B1⟩
  go_wp2_with fail
  refine (class_any a6 a7 _).mono ?_
  rintro e W2 ⟨⟨o2, rfl⟩, B2⟩
  have z1 : W1.heap.size < W2.heap.size := by have := B2.size; simp at this; omega
  have q1 : W2.heap[W1.heap.size]? = some (.cells (qCells a0 o1 a3 a4 a10) 37) := by rw [B2.block W1.heap.size (by simp)]; exact last_new W1 _
  obtain ⟨c0, c1, c2, c3, c4⟩ := q_at q1
  have B3 : Below w'.heap.size w' W2 := (B1.alloc B1.size _).trans (B2.mono (by have := B1.size; simp; omega))
  clear B1 B2 q1
  by_cases hz : a10.size = 0
  · have hv : decide (a10.size ≠ 0) = false := by simp [hz]
    have hn : ((a10.size : Int) != 0) = false := by simp [hz]
    clear hz
    go_wp2_with fail
    refine (refundable_any false a0 a10 o1 a3 a4 _ hv).mono ?_
    rintro e X ⟨rfl, hX⟩
    subst hX
    go_wp2_with fail
    refine (refundable_any false a5 a10 o2 a8 a9 _ hv).mono ?_
    rintro e X ⟨rfl, hX⟩
    subst hX
    go_wp2_with fail
    refine (refundable_any false a0 _ o1 a3 a4 _ rfl).mono ?_
    rintro e X ⟨rfl, hX⟩
    subst hX
    go_wp2_with fail
    go_ret
    exact ⟨rfl, ((((B3.alloc B3.size _).alloc (by have := B3.size; simp; omega) _).alloc (by have := B3.size; simp; omega) _).alloc (by have := B3.size; simp; omega) _).alloc (by have := B3.size; simp; omega) _⟩
  · have hv : decide (a10.size ≠ 0) = true := by simp [hz]
    have hn : ((a10.size : Int) != 0) = true := by rw [bne_iff_ne]; omega
    clear hz
    go_wp2_with fail
    refine (refundable_any true a0 a10 o1 a3 a4 _ hv).mono ?_
    rintro e X ⟨rfl, hX⟩
    subst hX
    go_wp2_with fail
    refine (refundable_any true a5 a10 o2 a8 a9 _ hv).mono ?_
    rintro e X ⟨rfl, hX⟩
    subst hX
    go_wp2_with fail
    refine (refundable_any false a0 _ o1 a3 a4 _ rfl).mono ?_
    rintro e X ⟨rfl, hX⟩
    subst hX
    go_wp2_with fail
    go_ret
    exact ⟨rfl, ((((B3.alloc B3.size _).alloc (by have := B3.size; simp; omega) _).alloc (by have := B3.size; simp; omega) _).alloc (by have := B3.size; simp; omega) _).alloc (by have := B3.size; simp; omega) _⟩
end Go.Proofs.Qxb6614516a
