import Derived.Test.Qxb6605793aHsteps2
namespace Go.Proofs.Qxb6605793a
open Go.RowKit

set_option maxRecDepth 20000 in
set_option maxHeartbeats 2000000 in
theorem law_zero (k1 v1 k2 v2 : ByteArray) (w : World) (h1 : k1.size ≤ maxLen) (h2 : v1.size ≤ maxLen) (h3 : k2.size ≤ maxLen) (h4 : v2.size ≤ maxLen)
    (hs : k1.size + v1.size + k2.size + v2.size ≤ 1048576) (hk : k1 ≠ k2)  :
    Calls Try.prog 6 #[.int .i64 0, .string k1, .string v1, .string k2, .string v2] w fun e w' => e = .returned (.bool true) ∧ Below w.heap.size w w' := by
  have HF : Hid (fits4 k1 v1 k2 v2 = true) := by show _ = _; simp [fits4, hs]
  have g1 : ¬ ((1048576 : Int) < (k1.size : Int)) := by omega
  have g2 : ¬ ((1048576 : Int) < (v1.size : Int)) := by omega
  have g3 : ¬ ((1048576 : Int) < (k2.size : Int)) := by omega
  have g4 : ¬ ((1048576 : Int) < (v2.size : Int)) := by omega
  have g5 : ¬ ((1048576 : Int) < (k1.size : Int) + (v1.size : Int) + (k2.size : Int) + (v2.size : Int)) := by omega
  have e0 : (k1.toList == k2.toList) = false := ne_list hk
  have HK : Hid (k1 ≠ k2) := hk
  clear hk
  have en := eqNil
  go_enter Try.func6, Try.ntmps6
  go_wp2_with fail
  refine (zzbytes19 0 k1 v1 k2 v2 _ h1 h2 h3 h4).mono ?_
  rintro e w' ⟨rfl, hw⟩
  subst hw
  rw [HF.out]
  go_wp2_with fail
  refine (header_nil w'.heap.size 0 none _ (by exact last_new w' _)).mono ?_
  rintro e W1 ⟨rfl, A1, M1, G1⟩
  have hN : (w'.alloc (.cells #[.int .i32 0, .int .u32 0, .map none, .int .i64 0, .map none, .slice none 0 0, .int .i64 0, .int .i8 0, .nilIface, .bool false, .nilIface] 51)).heap.size = w'.heap.size + 1 := by simp
  obtain ⟨B1, z1⟩ := start_below G1
  rw [hN] at A1 M1 ⊢
  have l1 : w'.heap.size + 1 < W1.heap.size := by rw [hN] at z1; exact lt_of_heap M1
  clear G1 hN z1
  have up1 := upd_first (v := v1) k1 M1
  have HA : Hid (AnsAt W1 w'.heap.size 0 (some (w'.heap.size + 1)) 0 none) := A1
  have HM : Hid (W1.heap[w'.heap.size + 1]? = some (.map #[] 0)) := M1
  clear A1 M1
  go_wp2_with fail
  obtain ⟨W2, hW2⟩ : ∃ X, X = putMap (W1.alloc (.cells #[.string v1] 9)) (w'.heap.size + 1) (.map #[ent k1 W1.heap.size 0] 1) := ⟨_, rfl⟩
  have hW2' := hW2
  unfold ent at hW2'
  rw [← hW2']
  obtain ⟨A2, M2, S2, B2⟩ := after_first hW2 HA.out HM.out B1 l1
  clear hW2 hW2' up1 HA HM B1
  refine (write_takes w'.heap.size (w'.heap.size + 1) W1.heap.size 0 k1 v1 _ A2 (by omega) M2 S2 (by omega) (by omega)).mono ?_
  rintro e W3 ⟨rfl, P2, Q2, A3, p1, p2, p3, p4, G3⟩
  clear p1 p2 p3 p4
  have M3 := carry_heap G3 M2 (by omega)
  have S3 := carry_heap G3 S2 (by omega)
  have B3 := carry_below G3 B2 A2.lt
  clear G3 A2 M2 S2 B2
  go_wp2_with fail
  refine (header_set w'.heap.size (w'.heap.size + 1) 0 (some P2) _ A3).mono ?_
  rintro e X ⟨rfl, hX⟩
  have hX' := hX.symm
  subst hX'
  have up2 := upd_second (v := v2) HK.out M3
  have HA : Hid (AnsAt W3 w'.heap.size 0 (some (w'.heap.size + 1)) 0 (some P2)) := A3
  have HM : Hid (W3.heap[w'.heap.size + 1]? = some (.map #[ent k1 W1.heap.size 0] 1)) := M3
  have HS : Hid (W3.heap[W1.heap.size]? = some (.cells #[.string v1] 9)) := S3
  clear A3 M3 S3
  go_wp2_with fail
  obtain ⟨W4, hW4⟩ : ∃ X, X = putMap (W3.alloc (.cells #[.string v2] 9)) (w'.heap.size + 1) (.map #[ent k1 W1.heap.size 0, ent k2 W3.heap.size 1] 2) := ⟨_, rfl⟩
  rw [← hW4]
  obtain ⟨A4, M4, S4, T4, B4, KP⟩ := after_second hW4 HA.out HM.out HS.out (by omega) B3
  clear hW4 up2 HA HM HS B3 KP
  refine (zzrec w'.heap.size (w'.heap.size + 1) 0 0 200 (some P2) (some (w'.heap.size + 1)) _ A4 (fun X hX => answer_zero w'.heap.size (w'.heap.size + 1) 0 (some P2) X hX)).mono ?_
  rintro e W5 ⟨rfl, B5⟩
  have M5 := below_heap B5 M4
  have S5 := below_heap B5 S4
  have T5 := below_heap B5 T4
  have B6 : Below w'.heap.size w' W5 := B4.trans (B5.mono B4.size)
  clear B5 M4 S4 T4 B4 A4
  obtain ⟨R, hR⟩ : ∃ R : Obj, R = .cells #[.int .i64 200, .map (some (w'.heap.size + 1)), .slice none 0 0, .map (some (w'.heap.size + 1))] 56 := ⟨_, rfl⟩
  have M6 : (W5.alloc R).heap[w'.heap.size + 1]? = _ := heap_alloc_keep M5
  have S6 : (W5.alloc R).heap[W1.heap.size]? = _ := heap_alloc_keep S5
  have T6 : (W5.alloc R).heap[W3.heap.size]? = _ := heap_alloc_keep T5
  have B7 : Below w'.heap.size w' (W5.alloc R) := B6.alloc B6.size _
  subst hR
  have L1 := look_first M6
  have L2 := look_second HK.out M6
  have LN := fun ty => len_two M6 ty
  unfold recV
  have HS : Hid ((W5.alloc (.cells #[.int .i64 200, .map (some (w'.heap.size + 1)), .slice none 0 0, .map (some (w'.heap.size + 1))] 56)).heap[W1.heap.size]? = some (.cells #[.string v1] 9)) := S6
  have HT : Hid ((W5.alloc (.cells #[.int .i64 200, .map (some (w'.heap.size + 1)), .slice none 0 0, .map (some (w'.heap.size + 1))] 56)).heap[W3.heap.size]? = some (.cells #[.string v2] 9)) := T6
  clear M5 S5 T5 M6 S6 T6 B6
  go_wp2_with fail
  refine (one_yes W1.heap.size v1 _ HS.out).mono ?_
  rintro e X ⟨rfl, hX⟩
  subst hX
  go_wp2_with fail
  refine (one_yes W3.heap.size v2 _ HT.out).mono ?_
  rintro e X ⟨rfl, hX⟩
  subst hX
  go_wp2_with fail
  refine (one_yes W1.heap.size v1 _ HS.out).mono ?_
  rintro e X ⟨rfl, hX⟩
  subst hX
  go_wp2_with fail
  refine (one_yes W3.heap.size v2 _ HT.out).mono ?_
  rintro e X ⟨rfl, hX⟩
  subst hX
  go_wp2_with fail
  go_ret
  exact ⟨rfl, B7⟩

end Go.Proofs.Qxb6605793a
