import Derived.Test.Qxb6605670aHist
import Derived.Lib.Strings
namespace Go.Proofs.Qxb6605670a
open Go.RowKit

/-- The law's bound: each string, and both together, at most 1<<20. -/
def fits2 (s t : ByteArray) : Bool := decide (s.size + t.size ≤ 1048576)

set_option maxHeartbeats 400000 in
theorem zzbytes16 (f : Nat → Bool) (s t : ByteArray) (w : World) (hs : s.size ≤ maxLen) (ht : t.size ≤ maxLen) :
    Calls Try.prog 16 #[.agg (tab f), .string s, .string t] w fun e w' => e = .returned (.bool (fits2 s t)) ∧ w' = w.alloc (.cells (tab f) 26) := by
  unfold maxLen at hs ht
  by_cases h : s.size ≤ 1048576
  · have h1 : ¬ ((1048576 : Int) < (s.size : Int)) := by omega
    by_cases h2 : t.size ≤ 1048576
    · have h3 : ¬ ((1048576 : Int) < (t.size : Int)) := by omega
      by_cases h4 : s.size + t.size ≤ 1048576
      · have h5 : ¬ ((1048576 : Int) < (s.size : Int) + (t.size : Int)) := by omega
        have HF : Hid (fits2 s t = true) := by show _ = _; simp [fits2, h4]
        go_enter Try.func16, Try.ntmps16
        go_wp2
        go_ret
        exact ⟨ret_bool HF.out.symm, rfl⟩
      · have h5 : ((1048576 : Int) < (s.size : Int) + (t.size : Int)) := by omega
        have HF : Hid (fits2 s t = false) := by show _ = _; simp [fits2]; omega
        go_enter Try.func16, Try.ntmps16
        go_wp2
        go_ret
        exact ⟨ret_bool HF.out.symm, rfl⟩
    · have h3 : ((1048576 : Int) < (t.size : Int)) := by omega
      have HF : Hid (fits2 s t = false) := by show _ = _; simp [fits2]; omega
      go_enter Try.func16, Try.ntmps16
      go_wp2
      go_ret
      exact ⟨ret_bool HF.out.symm, rfl⟩
  · have h1 : ((1048576 : Int) < (s.size : Int)) := by omega
    have HF : Hid (fits2 s t = false) := by show _ = _; simp [fits2]; omega
    go_enter Try.func16, Try.ntmps16
    go_wp2
    go_ret
    exact ⟨ret_bool HF.out.symm, rfl⟩

theorem store26n {ops : Array Oper} {rest : List Oper} {o : Oper} {a : Act} {w : World} {Q : Exit → Act → World → Prop} (hgd : o.guard = none) (x y : Operand) (ho : o.op = .store 26 x y)
    (f f' : Nat → Bool) (N : Nat) (hx : a.eval x = .pointer (some ⟨N, 0, none⟩)) (hy : a.eval y = .agg (tab f')) (hN : w.heap.size = N)
    (h : wpList Try.prog ops Q rest (a.put o.dst undef) (w.alloc (.cells (tab f') 26))) : wpList Try.prog ops Q (o :: rest) a (w.alloc (.cells (tab f) 26)) := by
  subst hN
  exact store26 hgd x y ho f f' hx hy h
theorem eval_put_same {a : Act} {d : Nat} {v : Value} (h : d < a.tmps.size) : (a.put (some d) v).eval (.tmp d) = v := by
  simp [Act.eval, Act.put, h]
theorem copy26 {ops : Array Oper} {rest : List Oper} {o1 o2 o3 : Oper} {a : Act} {w : World} {Q : Exit → Act → World → Prop} (g1 : o1.guard = none) (g2 : o2.guard = none) (g3 : o3.guard = none)
    (d1 d2 : Nat) (e1 : o1.dst = some d1) (e2 : o2.dst = some d2) (e3 : o3.dst = none) (hne : d1 ≠ d2) (l1 : d1 < a.tmps.size) (l2 : d2 < a.tmps.size)
    (x : Operand) (ho1 : o1.op = .load 26 x) (ho2 : o2.op = .alloc 26) (ho3 : o3.op = .store 26 (.tmp d2) (.tmp d1)) (g : Nat) (f : Nat → Bool)
    (hx : a.eval x = .pointer (some ⟨g, 0, none⟩)) (hg : w.heap[g]? = some (.cells (tab f) 26))
    (h : wpList Try.prog ops Q rest ((a.put (some d1) (.agg (tab f))).put (some d2) (.pointer (some ⟨w.heap.size, 0, none⟩))) (w.alloc (.cells (tab f) 26))) :
    wpList Try.prog ops Q (o1 :: o2 :: o3 :: rest) a w := by
  refine load26 g1 x ho1 g hx f hg (alloc26 g2 ho2 (store26 g3 (.tmp d2) (.tmp d1) ho3 (fun _ => false) f ?_ ?_ ?_))
  · rw [e1, e2]
    exact eval_put_same (by simpa [Act.put] using l2)
  · rw [e1, e2, Act.eval_put (by intro d hd; simp at hd; subst hd; simpa using hne)]
    exact eval_put_same l1
  · rw [e1, e2, e3]
    exact h
theorem heap_keep {w : World} {g : Nat} {o x : Obj} (h : w.heap[g]? = some o) : (w.alloc x).heap[g]? = some o := by
  have hlt : g < w.heap.size := (Array.getElem?_eq_some_iff.1 h).1
  show (w.heap.push x)[g]? = some o
  rw [Array.getElem?_push, if_neg (by omega), h]

/-- The set's 256 cells lie in block b. -/
def SetAt (W : World) (b : Nat) (f : Nat → Bool) : Prop := ∀ c, c < 256 → W.cell? ⟨b, c, none⟩ = some (.bool (f c))
theorem SetAt.of_heap {W : World} {b : Nat} {f : Nat → Bool} (h : W.heap[b]? = some (.cells (tab f) 26)) : SetAt W b f := fun c hc => by
  rw [cell_of_row _ _ c (tab f) 26 (0, 0) h, tab_get f c hc]
theorem SetAt.drewN {W : World} {b : Nat} {f : Nat → Bool} (h : SetAt W b f) (m : Nat) : SetAt (W.drewN m) b f := h
theorem five (w : World) (o : Obj) (j : Nat) (hj : j < 5) : (((((w.alloc o).alloc o).alloc o).alloc o).alloc o).heap[w.heap.size + j]? = some o := by
  show (((((w.heap.push o).push o).push o).push o).push o)[w.heap.size + j]? = some o
  simp only [Array.getElem?_push, Array.size_push]
  repeat' split
  all_goals first | rfl | omega
theorem hold_nil (f : Nat → Bool) : hold f [] = true := rfl
theorem hold_append (f : Nat → Bool) (s t : ByteArray) : hold f (s ++ t).data.toList = (hold f s.data.toList && hold f t.data.toList) := by
  simp [hold, List.all_append]
theorem hold_first (f : Nat → Bool) (s : ByteArray) (h : 0 < s.size) : hold f (s.extract 0 1).data.toList = f s[0].toNat := by
  have e : (s.extract 0 1).data.toList = [s[0]] := by
    have hl : 0 < s.data.toList.length := by simpa using h
    have hd := List.drop_eq_getElem_cons hl
    rw [List.drop_zero] at hd
    rw [Lib.extract_data, List.drop_zero, hd]
    rfl
  rw [e]; simp [hold]

theorem zzholds_val (v : Bool) (b : Nat) (f : Nat → Bool) (s : ByteArray) (w : World) (hs : s.size ≤ maxLen) (hc : SetAt w b f) (hv : hold f s.data.toList = v) :
    Calls Try.prog 15 #[.pointer (some ⟨b, 0, none⟩), .string s] w fun e w' => e = .returned (.bool v) ∧ ∃ m, w' = w.drewN m := by
  rw [← hv]; exact zzholds_any b f s w hs hc

set_option maxHeartbeats 1000000 in
theorem concat_any (f : Nat → Bool) (s t : ByteArray) (w : World) (hs : s.size ≤ 524288) (ht : t.size ≤ 524288) :
    Calls Try.prog 6 #[.agg (tab f), .string s, .string t] w fun e w' => e = .returned (.bool true) ∧ Below w.heap.size w w' := by
  have h1 : ¬ ((524288 : Int) < (s.size : Int)) := by omega
  have h2 : ¬ ((524288 : Int) < (t.size : Int)) := by omega
  have hm : s.size ≤ maxLen := by unfold maxLen; omega
  have hm2 : t.size ≤ maxLen := by unfold maxLen; omega
  go_enter Try.func6, Try.ntmps6
  go_wp2_with (refine load26 rfl _ rfl w.heap.size rfl f (heap_alloc_new w _) ?_)
  refine (zzbytes16 f s t _ hm hm2).mono ?_
  rintro e w' ⟨rfl, hw'⟩
  have hg : w'.heap[w.heap.size]? = some (.cells (tab f) 26) := by rw [hw']; exact heap_alloc2_old w _ _
  have hbel : Below w.heap.size w w' := by rw [hw']; exact ((Below.refl _ _).alloc (Nat.le_refl _) _).alloc (by simp) _
  have hlt : w.heap.size < w'.heap.size := by rw [hw']; simp; omega
  clear hw'
  have h0 : fits2 s t = true := by simp [fits2]; omega
  rw [h0]
  have HG : Hid (w'.heap[w.heap.size]? = some (.cells (tab f) 26)) := hg
  clear hg h0
  go_wp2_with (
    (with_reducible (show wpList _ _ _ (Oper.mk _ (Op.load 26 _) _ _ _ _ :: _ :: _ :: _) _ _))
    (refine copy26 rfl rfl rfl _ _ rfl rfl rfl (by decide) (Nat.le_of_ble_eq_true rfl) (Nat.le_of_ble_eq_true rfl) _ rfl rfl rfl w.heap.size f rfl ?hg ?_)
    (case hg => ((repeat refine heap_keep ?_); exact HG.out))
    (simp only [Act.put, List.setIfInBounds_toArray, List.set_cons_succ, List.set_cons_zero, World.size_alloc]))
  have hA : ∃ A, hold f s.data.toList = A := ⟨_, rfl⟩
  have hB : ∃ B, hold f t.data.toList = B := ⟨_, rfl⟩
  obtain ⟨A, hA⟩ := hA
  obtain ⟨B, hB⟩ := hB
  refine (zzholds_val (A && B) w'.heap.size f (s ++ t) _ (by unfold maxLen; simp; omega) (SetAt.of_heap (five w' _ 0 (by omega))) (by rw [hold_append, hA, hB])).mono ?_
  rintro e W ⟨rfl, m, hW⟩
  have S0 : SetAt W w.heap.size f := by
    rw [hW]
    refine SetAt.of_heap ?_
    show (((((w'.alloc (.cells (tab f) 26)).alloc (.cells (tab f) 26)).alloc (.cells (tab f) 26)).alloc (.cells (tab f) 26)).alloc (.cells (tab f) 26)).heap[w.heap.size]? = _
    exact heap_keep (heap_keep (heap_keep (heap_keep (heap_keep HG.out))))
  have S1 : SetAt W (w'.heap.size + 1) f := by rw [hW]; exact SetAt.of_heap (five w' _ 1 (by omega))
  have S2 : SetAt W (w'.heap.size + 1 + 1) f := by rw [hW]; exact SetAt.of_heap (five w' _ 2 (by omega))
  have S3 : SetAt W (w'.heap.size + 1 + 1 + 1) f := by rw [hW]; exact SetAt.of_heap (five w' _ 3 (by omega))
  have S4 : SetAt W (w'.heap.size + 1 + 1 + 1 + 1) f := by rw [hW]; exact SetAt.of_heap (five w' _ 4 (by omega))
  have hb2 : Below w.heap.size w W := by
    rw [hW]
    exact Below_drewN (hbel.trans ((((((Below.refl _ _).alloc (by omega) _).alloc (by simp; omega) _).alloc (by simp; omega) _).alloc (by simp; omega) _).alloc (by simp; omega) _)) m
  have HA : Hid (hold f s.data.toList = A) := hA
  have HB : Hid (hold f t.data.toList = B) := hB
  clear hA hB hW HG hbel hlt
  go_wp2_with fail
  refine (zzholds_val A (w'.heap.size + 1) f s _ hm S1 HA.out).mono ?_
  rintro e W1 ⟨rfl, m1, rfl⟩
  go_wp2_with fail
  refine (zzholds_val B (w'.heap.size + 1 + 1) f t _ hm2 (S2.drewN _) HB.out).mono ?_
  rintro e W2 ⟨rfl, m2, rfl⟩
  rw [World.drewN_drewN]
  go_wp2_with fail
  refine (zzholds_val true (w'.heap.size + 1 + 1 + 1) f _ _ (Nat.zero_le _) (S3.drewN _) rfl).mono ?_
  rintro e W3 ⟨rfl, m3, rfl⟩
  rw [World.drewN_drewN]
  have hb3 := Below_drewN hb2 (m1 + m2 + m3)
  have S40 := S4.drewN (m1 + m2 + m3)
  have S00 := S0.drewN (m1 + m2 + m3)
  clear S0 S1 S2 S3 S4 hb2 HA HB
  generalize W.drewN (m1 + m2 + m3) = X at *
  clear W
  by_cases hs0 : 0 < s.size
  · have HF : Hid (hold f (s.extract 0 1).data.toList = f s[0].toNat) := hold_first f s hs0
    have hs1 : (1 : Int) ≤ (s.size : Int) := by omega
    have hx256 : (s[0].toNat : Int) < 256 := by have := UInt8.toNat_lt s[0]; omega
    have hx := S00 s[0].toNat (UInt8.toNat_lt _)
    have H4 : Hid (SetAt X (w'.heap.size + 1 + 1 + 1 + 1) f) := S40
    clear S40 S00
    generalize f s[0].toNat = v at *
    cases A <;> cases B
    all_goals
      go_wp2
      go_quiet ((go_at_call 15; refine Calls.quiet_of (zzholds_val v (w'.heap.size + 1 + 1 + 1 + 1) f (s.extract 0 1) _ ?_ (H4.out.drewN _) HF.out); unfold maxLen; simp; omega))
      go_wp2
      go_ret
      exact ⟨rfl, Below_drewN hb3 _⟩
  · have hs1 : ¬ ((0 : Int) < (s.size : Int)) := by omega
    clear S40 S00
    cases A <;> cases B
    all_goals
      go_wp2
      go_ret
      exact ⟨rfl, hb3⟩
end Go.Proofs.Qxb6605670a
