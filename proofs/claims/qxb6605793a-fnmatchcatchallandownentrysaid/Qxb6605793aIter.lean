import Derived.Test.Qxb6605793aRange
namespace Go.Proofs.Qxb6605793a
open Go.RowKit Go.Shelf
set_option linter.unusedVariables false
attribute [local go_sem] Oper.semAt_some

/-- The strings ss lie behind the address, in a block below n₀. -/
def StrsIn (n₀ : Nat) (w : World) (a : Option Addr) (ss : List ByteArray) : Prop :=
  ss = [] ∨ ∃ b off, a = some ⟨b, off, none⟩ ∧ b < n₀ ∧ ∀ i, i < ss.length → w.cell? ⟨b, off + i, none⟩ = some (.string (ss.getD i ByteArray.empty))
theorem StrsIn.at {n₀ : Nat} {w wr : World} {a : Option Addr} {ss : List ByteArray} (h : StrsIn n₀ w a ss) (hb : Below n₀ w wr) {k : Nat} (hk : k < ss.length) :
    ∃ b off, a = some ⟨b, off, none⟩ ∧ wr.cell? ⟨b, off + k, none⟩ = some (.string (ss.getD k ByteArray.empty)) := by
  rcases h with rfl | ⟨b, off, ha, hlt, hc⟩
  · simp at hk
  · exact ⟨b, off, ha, (hb.cell (p := ⟨b, off + k, none⟩) hlt).trans (hc k hk)⟩
theorem StrsIn.below {n₀ : Nat} {w wr : World} {a : Option Addr} {ss : List ByteArray} (h : StrsIn n₀ w a ss) (hb : Below n₀ w wr) : StrsIn n₀ wr a ss := by
  rcases h with rfl | ⟨b, off, ha, hlt, hc⟩
  · exact .inl rfl
  · exact .inr ⟨b, off, ha, hlt, fun i hi => (hb.cell (p := ⟨b, off + i, none⟩) hlt).trans (hc i hi)⟩
theorem StrsIn.of {w : World} {a : Option Addr} {ss : List ByteArray} (h : Strs w a ss) : StrsIn w.heap.size w a ss := by
  rcases h with rfl | ⟨b, off, ha, hc⟩
  · exact .inl rfl
  · by_cases h0 : ss = []
    · exact .inl h0
    · have h1 := hc 0 (List.length_pos_iff.2 h0)
      have hlt : b < w.heap.size := by
        rcases Nat.lt_or_ge b w.heap.size with h | h
        · exact h
        · simp [World.cell?, Array.getElem?_eq_none h] at h1
      exact .inr ⟨b, off, ha, hlt, hc⟩

set_option maxRecDepth 100000 in
set_option maxHeartbeats 2000000 in
/-- slices.Values's closure. -/
theorem values34 (F : Fence) (n : Nat) (h34 : F.fn 34) (hro : F.round = none) (hn : 1 ≤ n) (l Bv n₀ : Nat) (a : Option Addr) (cap : Nat) (ss : List ByteArray) (hlen : ss.length ≤ 1048576) (J : Nat → World → Prop)
    (hY : ∀ k W, J k W → k < ss.length → YieldAt F (n - 1) Try.prog l #[.string (ss.getD k ByteArray.empty)] W fun e W' => e = .returned (.bool true) ∧ J (k + 1) W' ∧ Below n₀ W W')
    (W : World) (hBv : W.cell? ⟨Bv, 0, none⟩ = some (.slice a ss.length cap)) (hS : StrsIn n₀ W a ss) (h0 : J 0 W) :
    CallsIn F n Try.prog 34 #[.func (.yield l) #[] #[], .pointer (some ⟨Bv, 0, none⟩)] W fun e W' => (∃ v, e = .returned v) ∧ J ss.length W' := by
  have HS : Hid (StrsIn n₀ W a ss) := hS
  have HY : Hid (∀ k W, J k W → k < ss.length → YieldAt F (n - 1) Try.prog l #[.string (ss.getD k ByteArray.empty)] W fun e W' => e = .returned (.bool true) ∧ J (k + 1) W' ∧ Below n₀ W W') := hY
  clear hS hY
  refine callsIn_of_wp Try.func34 rfl h34 ?_ hro
  simp only [Try.ntmps34, List.size_toArray, List.length_cons, List.length_nil, Nat.reduceAdd, Nat.reduceSub, Array.replicate_succ, Array.replicate_zero, List.push_toArray, List.append_toArray, List.nil_append, List.cons_append]
  gi_wp2
  gi_loopw [7] (fun i wr => ∃ k : Nat, k ≤ ss.length ∧ i = .int .i64 k ∧ J k wr ∧ Below n₀ W wr)
    (fun i _ => ss.length - (intOf i).toNat)
  case atStart => exact ⟨0, Nat.zero_le _, rfl, h0, Below.refl _ _⟩
  case round =>
    obtain ⟨k, hk, rfl, hJs, hnx⟩ := hrel
    by_cases hlt : k < ss.length
    · obtain ⟨b, off, rfl, hc⟩ := HS.out.at hnx hlt
      have hyy := HY.out k wr hJs hlt
      obtain ⟨x, hxe⟩ : ∃ x, x = ss.getD k ByteArray.empty := ⟨_, rfl⟩
      rw [← hxe] at hc hyy
      clear hxe
      obtain ⟨fn, tmps, assign, body, hy, hR⟩ := hyy
      gi_wp2
      refine hR.mono ?_
      rintro e W3 ⟨rfl, hJ3, hk3⟩
      gi_wp2
      go_roundw
      case rel => exact ⟨k + 1, by omega, by go_num, hJ3, hnx.trans hk3⟩
      case measure => simp [intOf]; omega
    · obtain rfl : k = ss.length := by omega
      gi_wp2
      go_end0
      exact ⟨⟨_, rfl⟩, hJs⟩

set_option maxHeartbeats 1000000 in
/-- slices.Values. -/
theorem values23 (a : Option Addr) (len cap : Nat) (w : World) :
    Calls Try.prog 23 #[.slice a len cap] w fun e w' => e = .returned (.func (.func 34) #[] #[.pointer (some ⟨w.heap.size, 0, none⟩)]) ∧ w' = w.alloc (.cells #[.slice a len cap] 22) := by
  go_enter Try.func23, Try.ntmps23
  go_wp2
  go_ret
  exact ⟨rfl, rfl⟩
end Go.Proofs.Qxb6605793a
