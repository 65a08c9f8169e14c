import Derived.Test.Qxb6605793aZz
import Derived.Test.Qxb6605793aLaw3
namespace Go.Proofs.Qxb6605793a
open Go.RowKit
set_option linter.unusedVariables false

theorem bss_snoc (ss : List ByteArray) (y : ByteArray) : bss (ss ++ [y]) = bss ss ++ [bs y] := by simp [bss]
theorem small_snoc {ss : List ByteArray} {y : ByteArray} (h : ∀ s ∈ ss, s.size ≤ 1048576) (hy : y.size ≤ 1048576) : ∀ s ∈ ss ++ [y], s.size ≤ 1048576 := fun s hs => by
  rw [List.mem_append, List.mem_singleton] at hs
  rcases hs with hs | rfl
  · exact h s hs
  · exact hy

/-- What the three answers say. -/
theorem three {ss : List ByteArray} {p r0 r1 r2 : ByteArray} {o0 o1 o2 : Bool} (h0 : Ans (bss ss) (bs p) (bs r0) o0) (h1 : Ans (bss (ss ++ [⟨#[42]⟩])) (bs p) (bs r1) o1) (h2 : Ans (bss (ss ++ [p])) (bs p) (bs r2) o2) :
    o1 = true ∧ o2 = true ∧ (o0 = true → r1 = r0) ∧ (o0 = false → r1 = ⟨#[42]⟩) ∧ (pat (bs p) = false → r2 = p) ∧ (pat (bs p) = true → pat (bs r2) = true ∧ p.size ≤ r2.size ∧ pre (bs r2) (bs p) = true) := by
  rw [bss_snoc] at h1 h2
  have hstar : bs ⟨#[42]⟩ = [42] := rfl
  rw [hstar] at h1
  refine ⟨h1.star_ok, ?_, ?_, ?_, ?_, ?_⟩
  · cases hp : pat (bs p) with
    | false => exact (Ans.own_plain hp h2).1
    | true => exact (Ans.own_pat hp h2).1
  · rintro rfl
    exact (bs_inj (h0.star_yes.unique h1).1).symm
  · rintro rfl
    exact (bs_inj (by rw [hstar]; exact (h0.star_no.unique h1).1)).symm
  · intro hp
    exact bs_inj (Ans.own_plain hp h2).2
  · intro hp
    obtain ⟨_, g1, g2, g3⟩ := Ans.own_pat hp h2
    rw [bs_length, bs_length] at g2
    exact ⟨g1, g2, g3⟩

set_option maxRecDepth 20000 in
set_option maxHeartbeats 4000000 in
theorem law4 (a : Option Addr) (cap : Nat) (ss : List ByteArray) (p : ByteArray) (w : World) (hS : Strs w a ss) (hnil : a = none → ss = []) (hl : ss.length ≤ maxLen) (hp : p.size ≤ maxLen) (hw : ∀ s ∈ ss, s.size ≤ maxLen) :
    Calls Try.prog 4 #[.slice a ss.length cap, .string p] w fun e w' => Yes w e w' := by
  have HS : Hid (Strs w a ss) := hS
  have HN : Hid (a = none → ss = []) := hnil
  have HW : Hid (∀ s ∈ ss, s.size ≤ maxLen) := hw
  have HT := zzbytes12 a cap ss p w hS hl hp hw
  have hpm : p.size ≤ maxLen := hp
  unfold maxLen at hl hp
  clear hS hnil hw
  go_enter Try.func4, Try.ntmps4
  go_wp2_with fail
  refine HT.mono ?_
  clear HT
  rintro e X ⟨⟨b, rfl, hb⟩, hX⟩
  have hX' := hX.symm
  subst hX'
  have HB : Hid (b = true → Fit ss p) := hb
  clear hb hX
  cases b with
  | false =>
    go_wp2_with fail
    go_ret
    exact ⟨rfl, Below.refl _ _⟩
  | true =>
    have HF : Hid (∀ s ∈ ss, s.size ≤ 1048576) := (HB.out rfl).2.1
    have hp1 : p.size ≤ 1048576 := (HB.out rfl).2.2
    clear HB
    have c2 : ¬ ((1048576 : Int) < (p.size : Int)) := by omega
    by_cases h1 : ss.length ≤ 65536
    · have c1 : ¬ ((65536 : Int) < (ss.length : Int)) := by omega
      have H8 := bytes8 a cap ss w HS.out h1 HF.out
      go_wp2_with fail
      refine H8.mono ?_
      clear H8
      rintro e X ⟨⟨m, rfl, hm⟩, hX⟩
      have hX' := hX.symm
      subst hX'
      clear hX
      by_cases h3 : m + p.size ≤ 1048576
      · have c3 : ¬ ((1048576 : Int) < (m : Int) + (p.size : Int)) := by omega
        have H9 := clone9 a cap ss w HS.out h1 HN.out
        go_wp2_with fail
        refine H9.mono ?_
        clear H9
        rintro e W1 ⟨a1, cap1, rfl, hS1, hB1⟩
        obtain ⟨sa, hsa⟩ : ∃ sa, sa = ss ++ [⟨#[42]⟩] := ⟨_, rfl⟩
        obtain ⟨so, hso⟩ : ∃ so, so = ss ++ [p] := ⟨_, rfl⟩
        have HSA : Hid (sa = ss ++ [⟨#[42]⟩]) := hsa
        have HSO : Hid (so = ss ++ [p]) := hso
        have HFA : Hid (∀ s ∈ sa, s.size ≤ 1048576) := by rw [hsa]; exact small_snoc HF.out (by decide)
        have HFO : Hid (∀ s ∈ so, s.size ≤ 1048576) := by rw [hso]; exact small_snoc HF.out hp1
        have hla : sa.length ≤ 65537 := by rw [hsa]; simp; omega
        have hlo : so.length ≤ 65537 := by rw [hso]; simp; omega
        have H13 := with13 a1 cap1 ss ⟨#[42]⟩ W1 hS1 h1
        rw [← hsa] at H13
        have HS1 : Hid (Strs W1 a1 ss) := hS1
        have HB1 : Hid (Below w.heap.size w W1) := hB1
        clear hS1 hB1 hsa hso
        go_wp2_with fail
        refine H13.mono ?_
        clear H13
        rintro e W2 ⟨a2, cap2, rfl, hS2, hB2⟩
        have HS12 : Hid (Strs W2 a1 ss) := HS1.out.below hB2
        have HS2 : Hid (Strs W2 a2 sa) := hS2
        have HB2 : Hid (Below w.heap.size w W2) := HB1.out.trans (hB2.mono HB1.out.size)
        have H13 := with13 a1 cap1 ss p W2 HS12.out h1
        rw [← HSO.out] at H13
        clear hS2 hB2 HS1 HB1
        go_wp2_with fail
        refine H13.mono ?_
        clear H13
        rintro e W3 ⟨a3, cap3, rfl, hS3, hB3⟩
        have HS13 : Hid (Strs W3 a1 ss) := HS12.out.below hB3
        have HS23 : Hid (Strs W3 a2 sa) := HS2.out.below hB3
        have HS3 : Hid (Strs W3 a3 so) := hS3
        have HB3 : Hid (Below w.heap.size w W3) := HB2.out.trans (hB3.mono HB2.out.size)
        have H10 := zzmatch10 a1 cap1 ss p W3 HS13.out (by omega) HF.out hp1
        clear hS3 hB3 HS12 HS2 HB2
        go_wp2_with fail
        refine H10.mono ?_
        clear H10
        rintro e W4 ⟨⟨r0, o0, rfl, hA0, hr0⟩, hB4⟩
        have HA0 : Hid (Ans (bss ss) (bs p) (bs r0) o0) := hA0
        have HS24 : Hid (Strs W4 a2 sa) := HS23.out.below hB4
        have HS34 : Hid (Strs W4 a3 so) := HS3.out.below hB4
        have HB4 : Hid (Below w.heap.size w W4) := HB3.out.trans (hB4.mono HB3.out.size)
        have H10 := zzmatch10 a2 cap2 sa p W4 HS24.out hla HFA.out hp1
        clear hA0 hB4 HS13 HS23 HS3 HB3
        go_wp2_with fail
        refine H10.mono ?_
        clear H10
        rintro e W5 ⟨⟨r1, o1, rfl, hA1, hr1⟩, hB5⟩
        have HA1 : Hid (Ans (bss sa) (bs p) (bs r1) o1) := hA1
        have HS35 : Hid (Strs W5 a3 so) := HS34.out.below hB5
        have HB5 : Hid (Below w.heap.size w W5) := HB4.out.trans (hB5.mono HB4.out.size)
        have H10 := zzmatch10 a3 cap3 so p W5 HS35.out hlo HFO.out hp1
        clear hA1 hB5 HS24 HS34 HB4
        go_wp2_with fail
        refine H10.mono ?_
        clear H10
        rintro e W6 ⟨⟨r2, o2, rfl, hA2, hr2⟩, hB6⟩
        have HB6 : Hid (Below w.heap.size w W6) := HB5.out.trans (hB6.mono HB5.out.size)
        obtain ⟨rfl, rfl, t1, t2, t3, t4⟩ := three HA0.out (by have := HA1.out; rwa [HSA.out] at this) (by rwa [HSO.out] at hA2)
        have T3 : Hid (pat (bs p) = false → r2 = p) := t3
        have T4 : Hid (pat (bs p) = true → pat (bs r2) = true ∧ p.size ≤ r2.size ∧ pre (bs r2) (bs p) = true) := t4
        have T1 : Hid (o0 = true → r1 = r0) := t1
        have T2 : Hid (o0 = false → r1 = ⟨#[42]⟩) := t2
        clear hA2 hB6 t1 t2 t3 t4 HA0 HA1 HS35 HB5
        have ce : (r1.toList == r1.toList) = true := by simp
        cases o0 with
        | true =>
          obtain rfl := T1.out rfl
          cases hpat : pat (bs p) with
          | false =>
            obtain rfl := T3.out hpat
            have HP : Hid (pat r2.data.toList = false) := hpat
            have ce2 : (r2.toList == r2.toList) = true := by simp
            clear hpat T1 T2 T3 T4
            go_wp2_with fail
            refine (isPattern_any r2 _ hpm).mono ?_
            rintro e X ⟨rfl, hX⟩
            have hX' := hX.symm
            subst hX'
            rw [HP.out]
            go_wp2_with fail
            go_ret
            exact ⟨rfl, HB6.out⟩
          | true =>
            obtain ⟨q1, q2, q3⟩ := T4.out hpat
            have HP : Hid (pat p.data.toList = true) := hpat
            have HQ : Hid (pat r2.data.toList = true) := q1
            have hx1 : 1 ≤ r2.size := by rw [← bs_length]; exact pat_length q1
            have HE : Hid (pfx (r2.extract 0 (r2.size - 1)) p = true) := (pre_eq r2 p hx1).trans q3
            have hem : (r2.extract 0 (r2.size - 1)).size ≤ maxLen := by simp; omega
            have cg : (p.size : Int) ≤ (r2.size : Int) := by omega
            have hr3 : r2.size ≤ maxLen := hr2
            unfold maxLen at hr2
            clear hpat T1 T2 T3 T4 q1 q3
            go_wp2_with fail
            refine (isPattern_any p _ hpm).mono ?_
            rintro e X ⟨rfl, hX⟩
            have hX' := hX.symm
            subst hX'
            rw [HP.out]
            go_wp2_with fail
            refine (isPattern_any r2 _ hr3).mono ?_
            rintro e X ⟨rfl, hX⟩
            have hX' := hX.symm
            subst hX'
            rw [HQ.out]
            go_wp2_with fail
            refine (hasPrefix15_any p (r2.extract 0 (r2.size - 1)) _ hpm hem).mono ?_
            rintro e X ⟨rfl, m2, hX⟩
            have HB7 : Hid (Below w.heap.size w X) := by rw [hX]; exact below_drewN HB6.out m2
            rw [HE.out]
            clear hX
            go_wp2_with fail
            go_ret
            exact ⟨rfl, HB7.out⟩
        | false =>
          obtain rfl := T2.out rfl
          cases hpat : pat (bs p) with
          | false =>
            obtain rfl := T3.out hpat
            have HP : Hid (pat r2.data.toList = false) := hpat
            have ce2 : (r2.toList == r2.toList) = true := by simp
            clear hpat T1 T2 T3 T4
            go_wp2_with fail
            refine (isPattern_any r2 _ hpm).mono ?_
            rintro e X ⟨rfl, hX⟩
            have hX' := hX.symm
            subst hX'
            rw [HP.out]
            go_wp2_with fail
            go_ret
            exact ⟨rfl, HB6.out⟩
          | true =>
            obtain ⟨q1, q2, q3⟩ := T4.out hpat
            have HP : Hid (pat p.data.toList = true) := hpat
            have HQ : Hid (pat r2.data.toList = true) := q1
            have hx1 : 1 ≤ r2.size := by rw [← bs_length]; exact pat_length q1
            have HE : Hid (pfx (r2.extract 0 (r2.size - 1)) p = true) := (pre_eq r2 p hx1).trans q3
            have hem : (r2.extract 0 (r2.size - 1)).size ≤ maxLen := by simp; omega
            have cg : (p.size : Int) ≤ (r2.size : Int) := by omega
            have hr3 : r2.size ≤ maxLen := hr2
            unfold maxLen at hr2
            clear hpat T1 T2 T3 T4 q1 q3
            go_wp2_with fail
            refine (isPattern_any p _ hpm).mono ?_
            rintro e X ⟨rfl, hX⟩
            have hX' := hX.symm
            subst hX'
            rw [HP.out]
            go_wp2_with fail
            refine (isPattern_any r2 _ hr3).mono ?_
            rintro e X ⟨rfl, hX⟩
            have hX' := hX.symm
            subst hX'
            rw [HQ.out]
            go_wp2_with fail
            refine (hasPrefix15_any p (r2.extract 0 (r2.size - 1)) _ hpm hem).mono ?_
            rintro e X ⟨rfl, m2, hX⟩
            have HB7 : Hid (Below w.heap.size w X) := by rw [hX]; exact below_drewN HB6.out m2
            rw [HE.out]
            clear hX
            go_wp2_with fail
            go_ret
            exact ⟨rfl, HB7.out⟩
      · have c3 : ((1048576 : Int) < (m : Int) + (p.size : Int)) := by omega
        go_wp2_with fail
        go_ret
        exact ⟨rfl, Below.refl _ _⟩
    · have c1 : ((65536 : Int) < (ss.length : Int)) := by omega
      go_wp2_with fail
      go_ret
      exact ⟨rfl, Below.refl _ _⟩
end Go.Proofs.Qxb6605793a
