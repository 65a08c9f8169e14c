import Derived.Test.Qxb6605793aZz
namespace Go.Proofs.Qxb6605793a
open Go.RowKit
set_option linter.unusedVariables false

/-- The law holds. -/
def Yes (w : World) (e : Ending) (w' : World) : Prop := e = .returned (.bool true) ∧ Below w.heap.size w w'

theorem matched_one {ss : List ByteArray} {p r r' : ByteArray} {ok ok' : Bool} (h : Ans (bss ss) (bs p) (bs r) ok) (h' : Ans (bss ss) (bs p) (bs r') ok') : r' = r ∧ ok' = ok := by
  obtain ⟨h1, h2⟩ := h.unique h'
  exact ⟨(bs_inj h1).symm, h2.symm⟩

theorem below_drewN {B : Nat} {a w : World} (h : Below B a w) (m : Nat) : Below B a (w.drewN m) := ⟨h.os, h.tape, h.output, h.size, h.block⟩

set_option maxRecDepth 20000 in
set_option maxHeartbeats 2000000 in
theorem law3 (a : Option Addr) (cap : Nat) (ss : List ByteArray) (p : ByteArray) (w : World) (hS : Strs w a ss) (hnil : a = none → ss = []) (hl : ss.length ≤ maxLen) (hp : p.size ≤ maxLen) (hw : ∀ s ∈ ss, s.size ≤ maxLen) :
    Calls Try.prog 3 #[.slice a ss.length cap, .string p] w fun e w' => Yes w e w' := by
  have HS : Hid (Strs w a ss) := hS
  have HN : Hid (a = none → ss = []) := hnil
  have HW : Hid (∀ s ∈ ss, s.size ≤ maxLen) := hw
  have HT := zzbytes7 a cap ss p w hS hl hp hw
  unfold maxLen at hl hp
  clear hS hnil hw
  go_enter Try.func3, Try.ntmps3
  go_wp2_with fail
  refine HT.mono ?_
  clear HT
  rintro e X ⟨⟨b, rfl, hb⟩, hX⟩
  have hX' := hX.symm
  subst hX'
  have HB : Hid (b = true → Fit ss p) := hb
  clear hb hX
  cases b with
  | false =>
    go_wp2_with fail
    go_ret
    exact ⟨rfl, Below.refl _ _⟩
  | true =>
    have HF : Hid (∀ s ∈ ss, s.size ≤ 1048576) := (HB.out rfl).2.1
    have hp1 : p.size ≤ 1048576 := (HB.out rfl).2.2
    clear HB
    have c2 : ¬ ((1048576 : Int) < (p.size : Int)) := by omega
    by_cases h1 : ss.length ≤ 65536
    · have c1 : ¬ ((65536 : Int) < (ss.length : Int)) := by omega
      have H8 := bytes8 a cap ss w HS.out h1 HF.out
      go_wp2_with fail
      refine H8.mono ?_
      clear H8
      rintro e X ⟨⟨m, rfl, hm⟩, hX⟩
      have hX' := hX.symm
      subst hX'
      clear hX
      by_cases h3 : m + p.size ≤ 1048576
      · have c3 : ¬ ((1048576 : Int) < (m : Int) + (p.size : Int)) := by omega
        have H9 := clone9 a cap ss w HS.out h1 HN.out
        go_wp2_with fail
        refine H9.mono ?_
        clear H9
        rintro e W1 ⟨a1, cap1, rfl, hS1, hB1⟩
        have H10 := zzmatch10 a1 cap1 ss p W1 hS1 (by omega) HF.out hp1
        have HS1 : Hid (Strs W1 a1 ss) := hS1
        have HB1 : Hid (Below w.heap.size w W1) := hB1
        clear hS1 hB1
        go_wp2_with fail
        refine H10.mono ?_
        clear H10
        rintro e W2 ⟨⟨r, ok, rfl, hA, hr⟩, hB2⟩
        have H11 := model11 a1 cap1 ss p W2 (HS1.out.below hB2) (by omega) HF.out hp1
        have HA : Hid (Ans (bss ss) (bs p) (bs r) ok) := hA
        have HB2 : Hid (Below w.heap.size w W2) := HB1.out.trans (hB2.mono HB1.out.size)
        clear hA hB2
        go_wp2_with fail
        refine H11.mono ?_
        clear H11
        rintro e W3 ⟨⟨r', ok', rfl, hA, hr'⟩, n, hX⟩
        have HB3 : Hid (Below w.heap.size w W3) := by rw [hX]; exact below_drewN HB2.out n
        obtain ⟨rfl, rfl⟩ := matched_one HA.out hA
        clear hA hX HA
        have ce : (r'.toList == r'.toList) = true := by simp
        cases ok'
        · go_wp2_with fail
          go_ret
          exact ⟨rfl, HB3.out⟩
        · go_wp2_with fail
          go_ret
          exact ⟨rfl, HB3.out⟩
      · have c3 : ((1048576 : Int) < (m : Int) + (p.size : Int)) := by omega
        go_wp2_with fail
        go_ret
        exact ⟨rfl, Below.refl _ _⟩
    · have c1 : ((65536 : Int) < (ss.length : Int)) := by omega
      go_wp2_with fail
      go_ret
      exact ⟨rfl, Below.refl _ _⟩
end Go.Proofs.Qxb6605793a
