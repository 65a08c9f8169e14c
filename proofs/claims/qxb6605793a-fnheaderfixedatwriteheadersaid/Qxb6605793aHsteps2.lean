import Derived.Test.Qxb6605793aHsteps
namespace Go.Proofs.Qxb6605793a
open Go.RowKit

theorem carry_below {w W2 W3 : World} {A : Nat} (G : W2.grownBy W3 (some A)) (B : Below A w W2) (hA : A < W2.heap.size) : Below A w W3 :=
  ⟨G.os.trans B.os, G.tape.trans B.tape, G.output.trans B.output, Nat.le_trans B.size G.size, fun k hk => by
    rw [G.block k (by omega) (by intro e; cases e; omega)]; exact B.block k hk⟩
theorem carry_heap {W2 W3 : World} {A i : Nat} {o : Obj} (G : W2.grownBy W3 (some A)) (h : W2.heap[i]? = some o) (hi : i ≠ A) : W3.heap[i]? = some o := by
  rw [G.block i (lt_of_heap h) (by intro e; cases e; exact hi rfl)]; exact h
theorem below_heap {W2 W3 : World} {i : Nat} {o : Obj} (B : Below W2.heap.size W2 W3) (h : W2.heap[i]? = some o) : W3.heap[i]? = some o := by
  rw [B.block i (lt_of_heap h)]; exact h
theorem look_first {W : World} {M S1 S2 : Nat} {k1 k2 : ByteArray} (hM : W.heap[M]? = some (.map #[ent k1 S1 0, ent k2 S2 1] 2)) :
    (Instr.lookup 40 (.map (some M)) (.string k1) false).run Try.prog W = .ok (.slice (some ⟨S1, 0, none⟩) 1 1) W :=
  look_at k1 0 _ hM (by simp [Instr.findNow, Instr.sameNow, ent, beq_yes])
theorem look_second {W : World} {M S1 S2 : Nat} {k1 k2 : ByteArray} (hk : k1 ≠ k2) (hM : W.heap[M]? = some (.map #[ent k1 S1 0, ent k2 S2 1] 2)) :
    (Instr.lookup 40 (.map (some M)) (.string k2) false).run Try.prog W = .ok (.slice (some ⟨S2, 0, none⟩) 1 1) W :=
  look_at k2 1 _ hM (by simp [Instr.findNow, Instr.sameNow, ent, beq_yes, beq_no (Ne.symm hk)])
theorem look_only {W : World} {M S1 : Nat} {k1 : ByteArray} (hM : W.heap[M]? = some (.map #[ent k1 S1 0] 1)) :
    (Instr.lookup 40 (.map (some M)) (.string k1) false).run Try.prog W = .ok (.slice (some ⟨S1, 0, none⟩) 1 1) W :=
  look_at k1 0 _ hM (by simp [Instr.findNow, Instr.sameNow, ent, beq_yes])
theorem len_two {W : World} {M : Nat} {a b : MapEntry} {c : Nat} (hM : W.heap[M]? = some (.map #[a, b] c)) (ty : TypeId) : (Builtin.len_ #[40] ty #[.map (some M)]).run Try.prog W = .ok (.int .i64 2) W := len_at hM ty
theorem len_one {W : World} {M : Nat} {a : MapEntry} {c : Nat} (hM : W.heap[M]? = some (.map #[a] c)) (ty : TypeId) : (Builtin.len_ #[40] ty #[.map (some M)]).run Try.prog W = .ok (.int .i64 1) W := len_at hM ty
end Go.Proofs.Qxb6605793a
