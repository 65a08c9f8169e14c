import Derived.Test.Qxb6605670aQend
import Derived.Maps.AppendAt
import Derived.Laws.IdiomStrings
namespace Go.Proofs.Qxb6605670a
open Go.RowKit

theorem info5 : (Try.prog.info? 5).map (fun i => (i.zero, i.size, i.bytes)) = some (some (.int .u8 0), 1, 1) := by kernel_rfl

/-- A byte as a cell. -/
def bv (b : UInt8) : Value := .int .u8 (b.toNat : Int)
/-- Each backslash and each quote with a backslash ahead of it. -/
def esc1 (c : UInt8) : List UInt8 := if c.toNat = 92 ∨ c.toNat = 34 then [92, c] else [c]
def esc : List UInt8 → List UInt8
  | [] => []
  | c :: l => esc1 c ++ esc l
def quoted (l : List UInt8) : List UInt8 := 34 :: (esc l ++ [34])

theorem esc_append (l m : List UInt8) : esc (l ++ m) = esc l ++ esc m := by
  induction l with
  | nil => rfl
  | cons c l ih => simp [esc, ih]
theorem esc_snoc (l : List UInt8) (c : UInt8) : esc (l ++ [c]) = esc l ++ esc1 c := by simp [esc_append, esc]
theorem esc1_len (c : UInt8) : (esc1 c).length ≤ 2 := by unfold esc1; split <;> simp
theorem esc_len (l : List UInt8) : (esc l).length ≤ 2 * l.length := by
  induction l with
  | nil => simp [esc]
  | cons c l ih => have := esc1_len c; simp [esc]; omega

theorem esc1_yes {c : UInt8} (h : c.toNat = 92 ∨ c.toNat = 34) : esc1 c = [92, c] := by simp [esc1, h]
theorem esc1_no {c : UInt8} (h : ¬ (c.toNat = 92 ∨ c.toNat = 34)) : esc1 c = [c] := by unfold esc1; rw [if_neg h]
theorem bv_cells (w : World) {base e n cap g : Nat} {l : List UInt8} (h : w.ownsRow base e 1 (.slice (some ⟨g, 0, none⟩) n cap) n (l.map bv)) :
    n = l.length ∧ ∀ j (hj : j < l.length), w.cell? ((⟨g, 0, none⟩ : Addr).add j) = some (.int .u8 (l[j].toNat : Int)) := by
  obtain ⟨hl, hr⟩ := h
  have hn : n = l.length := by simpa using hl.symm
  refine ⟨hn, fun j hj => ?_⟩
  rcases hr with ⟨h, _⟩ | ⟨g', cap', cur, hv, _, hg, h1, _, h2, h3⟩
  · cases h
  · simp at hv
    obtain ⟨rfl, rfl⟩ := hv
    rw [Addr.add_lit]
    simp only [Nat.zero_add]
    rw [cell_of_row w g j cur e (0, 0) hg]
    have e1 : (cur.toList.take (n * 1))[j]? = some (bv l[j]) := by rw [h3]; simp [hj]
    rw [List.getElem?_take, if_pos (by omega)] at e1
    simpa [bv] using e1

theorem convert_own {w : World} {base n cap g : Nat} {l : List UInt8} (h : w.ownsRow base 5 1 (.slice (some ⟨g, 0, none⟩) n cap) n (l.map bv)) :
    (convert 32 9 (.slice (some ⟨g, 0, none⟩) n cap)).run Try.prog w = .ok (.string ⟨l.toArray⟩) w := by
  obtain ⟨rfl, hc⟩ := bv_cells w h
  exact run_convert_bytes_back w 32 9 5 ⟨g, 0, none⟩ cap l Try.underlying32 Try.underlying5 Try.underlying9 hc

theorem take_snoc' (s : ByteArray) (k : Nat) (h : k < s.size) : s.data.toList.take (k + 1) = s.data.toList.take k ++ [s[k]] := by
  rw [List.take_succ_eq_append_getElem (by simpa using h)]; rfl

set_option maxHeartbeats 1000000 in
theorem quoteText_any (x : ByteArray) (w : World) (hs : x.size ≤ 1048576) :
    Calls Try.prog 13 #[.string x] w fun e w' => e = .returned (.string ⟨(quoted x.data.toList).toArray⟩) ∧ Below w.heap.size w w' := by
  obtain ⟨i0, hi, hz0, hz1, hz2⟩ := info_parts info5
  go_enter Try.func13, Try.ntmps13
  go_wp2_with (at_make; refine wpList_make_own _ rfl _ _ 32 rfl w.heap.size 5 i0 (.int .u8 0) 1 Try.underlying32 hi hz0 hz1 _ _ _ (2 * x.size + 2) rfl rfl (by omega) (by rw [hz2]; omega) (by unfold maxLen; omega) (Nat.le_refl _) ?_)
  intro w2 hown2 hgrow2
  have hb2 : Below w.heap.size w w2 := (Below.refl _ _).grown hgrow2 (Nat.le_refl _) (by simp)
  go_wp2_with (at_builtin; refine wpList_append_fits _ rfl (.tmp 11) (.tmp 12) 32 rfl w.heap.size 5 i0 1 Try.underlying32 hi hz1 w.heap.size 0 (2 * x.size + 2) _ rfl (hown2.alloc _) ⟨w2.heap.size, 0, none⟩ 1 1 [.int .u8 34] rfl rfl (cell_one_new _ _ _) (ints_oneCell .u8 [34]) (by omega) ?_; intro w3 hown3 hgrow3)
  have hb3 : Below w.heap.size w w3 := (hb2.alloc hb2.size _).grown hgrow3 (by have := hb2.size; simp; omega) (fun j hj => by cases hj; omega)
  go_loopw [3, 4, 5] (fun v i _ wr => ∃ k n : Nat, k ≤ x.size ∧ i = .int .i64 k ∧ n ≤ 2 * k + 1 ∧ v = .slice (some ⟨w.heap.size, 0, none⟩) n (2 * x.size + 2) ∧
      wr.ownsRow w.heap.size 5 1 (.slice (some ⟨w.heap.size, 0, none⟩) n (2 * x.size + 2)) n ((34 :: esc (x.data.toList.take k)).map bv) ∧ Below w.heap.size w wr) (fun _ i _ _ => x.size - (intOf i).toNat)
  case atStart => exact ⟨0, 1, by omega, rfl, by omega, rfl, hown3, hb3⟩
  case round =>
    obtain ⟨k, n, hk, rfl, hn, rfl, hown, hnx⟩ := hrel
    have hsize := hnx.size
    by_cases hlt : k < x.size
    · by_cases h92 : x[k].toNat = 92
      · have c1 : ((x[k].toNat : Int) == 92) = true := by simp [h92]
        have HE : Hid ((34 :: esc (x.data.toList.take (k + 1))).map bv = (34 :: esc (x.data.toList.take k)).map bv ++ [.int .u8 92] ++ [.int .u8 (x[k].toNat : Int)]) := by
          show _ = _
          rw [take_snoc' x k hlt, esc_snoc, esc1_yes (by omega)]; simp [bv]
        clear h92
        go_wp2_with (first | (at_builtin; refine wpList_append_fits _ rfl (.tmp 29) (.tmp 30) 32 rfl w.heap.size 5 i0 1 Try.underlying32 hi hz1 w.heap.size n (2 * x.size + 2) _ rfl (hown.alloc _) ⟨wr.heap.size, 0, none⟩ 1 1 [.int .u8 92] rfl rfl (cell_one_new _ _ _) (ints_oneCell .u8 [92]) (by omega) ?_; intro w4 hown4 hgrow4) | (at_builtin; refine wpList_append_fits _ rfl (.tmp 32) (.tmp 34) 32 rfl w.heap.size 5 i0 1 Try.underlying32 hi hz1 w.heap.size (n + 1) (2 * x.size + 2) _ rfl (hown4.alloc _) ⟨w4.heap.size, 0, none⟩ 1 1 [.int .u8 (x[k].toNat : Int)] rfl rfl (cell_one_new _ _ _) (ints_oneCell .u8 [(x[k].toNat : Int)]) (by omega) ?_; intro w5 hown5 hgrow5))
        go_roundw
        case rel => exact ⟨k + 1, n + 1 + 1, by omega, by go_num, by omega, rfl, by rw [HE.out]; exact hown5, ((hnx.alloc (by omega) _).grown hgrow4 (by simp; omega) (fun j hj => by cases hj; omega)).alloc (by have := hgrow4.size; simp at this; omega) _ |>.grown hgrow5 (by have := hgrow4.size; simp at this ⊢; omega) (fun j hj => by cases hj; omega)⟩
        case measure => simp [intOf]; omega
      · have c1 : ((x[k].toNat : Int) == 92) = false := by rw [beq_eq_false_iff_ne]; omega
        by_cases h34 : x[k].toNat = 34
        · have c2 : ((x[k].toNat : Int) == 34) = true := by simp [h34]
          have HE : Hid ((34 :: esc (x.data.toList.take (k + 1))).map bv = (34 :: esc (x.data.toList.take k)).map bv ++ [.int .u8 92] ++ [.int .u8 (x[k].toNat : Int)]) := by
            show _ = _
            rw [take_snoc' x k hlt, esc_snoc, esc1_yes (by omega)]; simp [bv]
          clear h34
          go_wp2_with (first | (at_builtin; refine wpList_append_fits _ rfl (.tmp 29) (.tmp 30) 32 rfl w.heap.size 5 i0 1 Try.underlying32 hi hz1 w.heap.size n (2 * x.size + 2) _ rfl (hown.alloc _) ⟨wr.heap.size, 0, none⟩ 1 1 [.int .u8 92] rfl rfl (cell_one_new _ _ _) (ints_oneCell .u8 [92]) (by omega) ?_; intro w4 hown4 hgrow4) | (at_builtin; refine wpList_append_fits _ rfl (.tmp 32) (.tmp 34) 32 rfl w.heap.size 5 i0 1 Try.underlying32 hi hz1 w.heap.size (n + 1) (2 * x.size + 2) _ rfl (hown4.alloc _) ⟨w4.heap.size, 0, none⟩ 1 1 [.int .u8 (x[k].toNat : Int)] rfl rfl (cell_one_new _ _ _) (ints_oneCell .u8 [(x[k].toNat : Int)]) (by omega) ?_; intro w5 hown5 hgrow5))
          go_roundw
          case rel => exact ⟨k + 1, n + 1 + 1, by omega, by go_num, by omega, rfl, by rw [HE.out]; exact hown5, ((hnx.alloc (by omega) _).grown hgrow4 (by simp; omega) (fun j hj => by cases hj; omega)).alloc (by have := hgrow4.size; simp at this; omega) _ |>.grown hgrow5 (by have := hgrow4.size; simp at this ⊢; omega) (fun j hj => by cases hj; omega)⟩
          case measure => simp [intOf]; omega
        · have c2 : ((x[k].toNat : Int) == 34) = false := by rw [beq_eq_false_iff_ne]; omega
          have HE : Hid ((34 :: esc (x.data.toList.take (k + 1))).map bv = (34 :: esc (x.data.toList.take k)).map bv ++ [.int .u8 (x[k].toNat : Int)]) := by
            show _ = _
            rw [take_snoc' x k hlt, esc_snoc, esc1_no (by omega)]; simp [bv]
          go_wp2_with ((at_builtin; refine wpList_append_fits _ rfl (.tmp 32) (.tmp 34) 32 rfl w.heap.size 5 i0 1 Try.underlying32 hi hz1 w.heap.size n (2 * x.size + 2) _ rfl (hown.alloc _) ⟨wr.heap.size, 0, none⟩ 1 1 [.int .u8 (x[k].toNat : Int)] rfl rfl (cell_one_new _ _ _) (ints_oneCell .u8 [(x[k].toNat : Int)]) (by omega) ?_; intro w5 hown5 hgrow5))
          go_roundw
          case rel => exact ⟨k + 1, n + 1, by omega, by go_num, by omega, rfl, by rw [HE.out]; exact hown5, (hnx.alloc (by omega) _).grown hgrow5 (by simp; omega) (fun j hj => by cases hj; omega)⟩
          case measure => simp [intOf]; omega
    · obtain rfl : k = x.size := by omega
      have HQ : Hid ((quoted x.data.toList).map bv = (34 :: esc (x.data.toList.take x.size)).map bv ++ [.int .u8 34]) := by
        show _ = _
        rw [show x.data.toList.take x.size = x.data.toList from List.take_of_length_le (by simp)]
        simp [quoted, bv]
      go_wp2_with (at_builtin; refine wpList_append_fits _ rfl (.tmp 36) (.tmp 37) 32 rfl w.heap.size 5 i0 1 Try.underlying32 hi hz1 w.heap.size n (2 * x.size + 2) _ rfl (hown.alloc _) ⟨wr.heap.size, 0, none⟩ 1 1 [.int .u8 34] rfl rfl (cell_one_new _ _ _) (ints_oneCell .u8 [34]) (by omega) ?_; intro w4 hown4 hgrow4; rw [← HQ.out] at hown4; have kc := convert_own hown4)
      go_ret
      exact ⟨rfl, (hnx.alloc (by omega) _).grown hgrow4 (by simp; omega) (fun j hj => by cases hj; omega)⟩
end Go.Proofs.Qxb6605670a
