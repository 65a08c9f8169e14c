import Derived.Test.Qxb6605670aHolds
import Derived.Deep.WholeRow
namespace Go.Proofs.Qxb6605670a
open Go.RowKit

set_option maxRecDepth 100000 in
theorem tab_zero : Array.replicate 256 (Value.bool false) = tab fun _ => false := by
  apply Array.ext_getElem?
  intro i
  by_cases h : i < 256
  · rw [tab_get _ _ h, Array.getElem?_replicate, if_pos h]
  · rw [Array.getElem?_eq_none (by rw [Array.size_replicate]; omega), Array.getElem?_eq_none (by rw [tab_size]; omega)]
theorem info26 : (Try.prog.info? 26).map (fun i => (i.zero, i.size)) = some (some (.agg (Array.replicate 256 (.bool false))), 256) := by kernel_rfl
theorem zero26 (w : World) : (zeroValue 26).run Try.prog w = .ok (.agg (tab fun _ => false)) w := by
  rw [(zero_of_info info26).1 w, tab_zero]
theorem size26 : (Try.prog.info? 26).map (·.size) = some 256 := (zero_of_info info26).2

theorem load26 {ops : Array Oper} {rest : List Oper} {o : Oper} {a : Act} {w : World} {Q : Exit → Act → World → Prop} (hgd : o.guard = none) (x : Operand) (ho : o.op = .load 26 x)
    (g : Nat) (hx : a.eval x = .pointer (some ⟨g, 0, none⟩)) (f : Nat → Bool) (hg : w.heap[g]? = some (.cells (tab f) 26))
    (h : wpList Try.prog ops Q rest (a.put o.dst (.agg (tab f))) w) : wpList Try.prog ops Q (o :: rest) a w :=
  wpList_load_row hgd 26 x ho g hx 26 (tab f) (0, 0) _ hg Try.underlying26 rfl (by rw [tab_size]; exact size26) h

theorem store26 {ops : Array Oper} {rest : List Oper} {o : Oper} {a : Act} {w : World} {Q : Exit → Act → World → Prop} (hgd : o.guard = none) (x y : Operand) (ho : o.op = .store 26 x y)
    (f f' : Nat → Bool) (hx : a.eval x = .pointer (some ⟨w.heap.size, 0, none⟩)) (hy : a.eval y = .agg (tab f'))
    (h : wpList Try.prog ops Q rest (a.put o.dst undef) (w.alloc (.cells (tab f') 26))) : wpList Try.prog ops Q (o :: rest) a (w.alloc (.cells (tab f) 26)) :=
  wpList_store_row hgd 26 x y ho w.heap.size (tab f') hx hy 26 (tab f) (heap_alloc_new w _) (by rw [tab_size]; exact size26) (by rw [tab_size, tab_size]) (tab_one f')
    (by rw [World.setRow_alloc_new]; exact h)

theorem alloc26 {ops : Array Oper} {rest : List Oper} {o : Oper} {a : Act} {w : World} {Q : Exit → Act → World → Prop} (hgd : o.guard = none) (ho : o.op = .alloc 26)
    (h : wpList Try.prog ops Q rest (a.put o.dst (.pointer (some ⟨w.heap.size, 0, none⟩))) (w.alloc (.cells (tab fun _ => false) 26))) : wpList Try.prog ops Q (o :: rest) a w := by
  refine wpList_plain hgd fun K hK => ?_
  unfold Oper.wp execOp
  simp only [ho, Sem.run_bind, Instr.alloc, newVar, newRow, zero26, Value.cells, run_newObj_alloc, Sem.run_pure, Result.andThen_ok]
  exact hK _ _ h

/-- Which octets occur in l. -/
def seen (l : List UInt8) (c : Nat) : Bool := l.any fun x => x.toNat == c
theorem seen_snoc (l : List UInt8) (x : UInt8) : tab (seen (l ++ [x])) = (tab (seen l)).setIfInBounds x.toNat (.bool true) := by
  apply Array.ext_getElem?
  intro i
  have hx := UInt8.toNat_lt x
  rw [Array.getElem?_setIfInBounds, tab_size]
  by_cases h : i < 256
  · rw [tab_get _ _ h, tab_get _ _ h]
    by_cases hi : x.toNat = i
    · simp [seen, hi, h]
    · simp [seen, hi]
  · rw [Array.getElem?_eq_none (by rw [tab_size]; omega), Array.getElem?_eq_none (by rw [tab_size]; omega), if_neg (by omega)]

/-- No octet below k occurs and is not in the set. -/
def wantTo (f : Nat → Bool) (l : List UInt8) (k : Nat) : Bool := (List.range k).all fun c => !(seen l c && !f c)
theorem wantTo_zero (f : Nat → Bool) (l : List UInt8) : wantTo f l 0 = true := rfl
theorem wantTo_no (f : Nat → Bool) (l : List UInt8) (k : Nat) (h1 : seen l k = true) (h2 : f k = false) : wantTo f l (k + 1) = false := by
  simp [wantTo, List.range_succ, h1, h2]
theorem wantTo_skip (f : Nat → Bool) (l : List UInt8) (k : Nat) (h1 : seen l k = false) : wantTo f l (k + 1) = wantTo f l k := by
  simp [wantTo, List.range_succ, h1]
theorem wantTo_in (f : Nat → Bool) (l : List UInt8) (k : Nat) (h2 : f k = true) : wantTo f l (k + 1) = wantTo f l k := by
  simp [wantTo, List.range_succ, h2]
theorem wantTo_all (f : Nat → Bool) (l : List UInt8) : hold f l = wantTo f l 256 := by
  rw [Bool.eq_iff_iff]
  simp only [hold, wantTo, List.all_eq_true, List.mem_range, seen]
  constructor
  · intro h c _
    cases hs : (l.any fun x => x.toNat == c)
    · rfl
    · obtain ⟨x, hx, he⟩ := List.any_eq_true.1 hs
      have := h x hx
      rw [eq_of_beq he] at this
      rw [this]; rfl
  · intro h x hx
    have := h x.toNat (UInt8.toNat_lt x)
    have hs : (l.any fun y => y.toNat == x.toNat) = true := List.any_eq_true.2 ⟨x, hx, beq_self_eq_true _⟩
    rw [hs] at this
    simpa using this

theorem heap3_first (w : World) (A B C : Obj) : (((w.alloc A).alloc B).alloc C).heap[w.heap.size]? = some A := by
  show (((w.heap.push A).push B).push C)[w.heap.size]? = some A
  rw [Array.getElem?_push, if_neg (by simp; omega), Array.getElem?_push, if_neg (by simp), Array.getElem?_push, if_pos rfl]
theorem heap3_last (w : World) (A B C : Obj) : (((w.alloc A).alloc B).alloc C).heap[w.heap.size + 1 + 1]? = some C := by
  show (((w.heap.push A).push B).push C)[w.heap.size + 1 + 1]? = some C
  rw [Array.getElem?_push, if_pos (by simp)]
theorem Below_drewN {B : Nat} {a w : World} (h : Below B a w) : ∀ m, Below B a (w.drewN m) := fun _ => ⟨h.os, h.tape, h.output, h.size, h.block⟩

set_option maxRecDepth 100000 in
set_option maxHeartbeats 1000000 in
theorem hist_any (f : Nat → Bool) (s : ByteArray) (w : World) (hs : s.size ≤ 1048576) :
    Calls Try.prog 5 #[.agg (tab f), .string s] w fun e w' => e = .returned (.bool true) ∧ Below w.heap.size w w' := by
  have h1 : ¬ ((1048576 : Int) < (s.size : Int)) := by omega
  have hm : s.size ≤ maxLen := by unfold maxLen; omega
  go_enter Try.func5, Try.ntmps5
  go_wp2_with (refine load26 rfl _ rfl w.heap.size rfl f (heap_alloc_new w _) ?_)
  refine (zzbytes14 f s _ hm).mono ?_
  rintro e w' ⟨rfl, rfl⟩
  have h0 : decide (s.size ≤ 1048576) = true := by simpa using hs
  rw [h0]
  go_wp2_with (first | refine load26 rfl _ rfl w.heap.size rfl f (heap_alloc2_old w _ _) ?_ | refine alloc26 rfl rfl ?_ | refine store26 rfl _ _ rfl _ _ rfl rfl ?_)
  refine (zzholds_any (w.heap.size + 1 + 1) f s _ hm (fun c hc => ?_)).mono ?_
  · rw [cell_of_row _ _ c (tab f) 26 (0, 0) (heap3_last w _ _ _), tab_get f c hc]
  rintro e W ⟨rfl, m, hW⟩
  have hset : ∀ c, c < 256 → W.cell? ⟨w.heap.size, c, none⟩ = some (.bool (f c)) := by
    intro c hc
    rw [hW]
    show (((w.alloc (.cells (tab f) 26)).alloc (.cells (tab f) 26)).alloc (.cells (tab f) 26)).cell? _ = _
    rw [cell_of_row _ _ c (tab f) 26 (0, 0) (heap3_first w _ _ _), tab_get f c hc]
  have hbel : Below w.heap.size w W := by
    rw [hW]
    exact Below_drewN ((((Below.refl _ _).alloc (Nat.le_refl _) _).alloc (by simp) _).alloc (by simp; omega) _) m
  have hlt : w.heap.size < W.heap.size := by
    rw [hW]; show w.heap.size < ((((w.alloc (.cells (tab f) 26)).alloc (.cells (tab f) 26)).alloc (.cells (tab f) 26))).heap.size; simp; omega
  clear hW
  have HS : Hid (∀ c, c < 256 → W.cell? ⟨w.heap.size, c, none⟩ = some (.bool (f c))) := hset
  clear hset
  go_wp2_with (refine alloc26 rfl rfl ?_)
  go_loopw [8] (fun i wr => ∃ k : Nat, k ≤ s.size ∧ i = .int .i64 k ∧ wr = W.alloc (.cells (tab (seen (s.data.toList.take k))) 26)) (fun i _ => s.size - (intOf i).toNat)
  case atStart => exact ⟨0, Nat.zero_le _, rfl, rfl⟩
  case round =>
    obtain ⟨k, hk, rfl, rfl⟩ := hrel
    by_cases hlk : k < s.size
    · have hx256 : (s[k].toNat : Int) < 256 := by have := UInt8.toNat_lt s[k]; omega
      have hcell := tab_get (seen (s.data.toList.take k)) s[k].toNat (UInt8.toNat_lt _)
      have HT : Hid (tab (seen (s.data.toList.take (k + 1))) = (tab (seen (s.data.toList.take k))).setIfInBounds s[k].toNat (.bool true)) := by
        show _ = _
        rw [take_snoc s k hlk, seen_snoc]
      go_wp2
      go_roundw
      case rel => exact ⟨k + 1, by omega, by go_num, by rw [HT.out]⟩
      case measure => simp [intOf]; omega
    · obtain rfl : k = s.size := by omega
      rw [show s.data.toList.take s.size = s.data.toList from List.take_of_length_le (by simp)]
      have hsn : ∀ c, c < 256 → (W.alloc (.cells (tab (seen s.data.toList)) 26)).cell? ⟨W.heap.size, c, none⟩ = some (.bool (seen s.data.toList c)) := fun c hc => by
        rw [cell_of_row _ _ c _ 26 (0, 0) (heap_alloc_new W _), tab_get _ c hc]
      have hst : ∀ c, c < 256 → (W.alloc (.cells (tab (seen s.data.toList)) 26)).cell? ⟨w.heap.size, c, none⟩ = some (.bool (f c)) := fun c hc => by
        rw [← HS.out c hc]; exact (Below.refl W.heap.size W |>.alloc (Nat.le_refl _) _).cell hlt
      have hb2 : Below w.heap.size w (W.alloc (.cells (tab (seen s.data.toList)) 26)) := hbel.alloc (by omega) _
      generalize W.alloc (.cells (tab (seen s.data.toList)) 26) = W2 at *
      have HSN : Hid (∀ c, c < 256 → W2.cell? ⟨W.heap.size, c, none⟩ = some (.bool (seen s.data.toList c))) := hsn
      have HST : Hid (∀ c, c < 256 → W2.cell? ⟨w.heap.size, c, none⟩ = some (.bool (f c))) := hst
      clear hsn hst
      go_wp2
      go_loopw [9, 10] (fun b i wr => ∃ k : Nat, k ≤ 256 ∧ i = .int .i64 k ∧ b = .bool (wantTo f s.data.toList k) ∧ wr = W2) (fun _ i _ => 256 - (intOf i).toNat)
      case atStart => exact ⟨0, Nat.zero_le _, rfl, rfl, rfl⟩
      case round =>
        obtain ⟨k, hk, rfl, rfl, rfl⟩ := hrel
        by_cases hlk : k < 256
        · have c1 := HSN.out k hlk
          have c2 := HST.out k hlk
          cases e1 : seen s.data.toList k
          · have HN : Hid (wantTo f s.data.toList (k + 1) = wantTo f s.data.toList k) := wantTo_skip _ _ _ e1
            rw [e1] at c1
            clear e1
            go_wp2
            go_roundw
            case rel => exact ⟨k + 1, by omega, by go_num, by rw [HN.out], trivial⟩
            case measure => simp [intOf]; omega
          · cases e2 : f k
            · have HN : Hid (wantTo f s.data.toList (k + 1) = false) := wantTo_no _ _ _ e1 e2
              rw [e1] at c1
              rw [e2] at c2
              clear e1 e2
              go_wp2
              go_roundw
              case rel => exact ⟨k + 1, by omega, by go_num, by rw [HN.out], trivial⟩
              case measure => simp [intOf]; omega
            · have HN : Hid (wantTo f s.data.toList (k + 1) = wantTo f s.data.toList k) := wantTo_in _ _ _ e2
              rw [e1] at c1
              rw [e2] at c2
              clear e1 e2
              go_wp2
              go_roundw
              case rel => exact ⟨k + 1, by omega, by go_num, by rw [HN.out], trivial⟩
              case measure => simp [intOf]; omega
        · obtain rfl : k = 256 := by omega
          rw [wantTo_all]
          go_wp2
          go_ret
          exact ⟨rfl, hb2⟩
end Go.Proofs.Qxb6605670a
