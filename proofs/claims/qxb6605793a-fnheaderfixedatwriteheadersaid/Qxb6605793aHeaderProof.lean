import Derived.Test.Qxb6605793aRows
import Derived.Test.Qxb6605793aHinfo
import Derived.Test.Qxb6605793aHzero
import Derived.Test.Qxb6605793aHlow
import Derived.Test.Qxb6605793aHhigh
import Derived.WalkKit
import Derived.ProofKit
import Derived.OpenShut
import Derived.ShutString
import Derived.Below
namespace Go.Proofs.Qxb6605793a.fnHeaderFixedAtWriteHeader
open Go.ChangeShapes Go.WideShapes Go.ChangeAt Go.RowKit
open Go.ChangeMaps (open_string shut_string)
set_option linter.unusedVariables false      -- a walk need not use every 'w<i>' (that an integer argument fits its kind)

theorem own : ownKnob Try.prog.godebug = none := by kernel_rfl

set_option maxRecDepth 20000 in
set_option maxHeartbeats 1000000 in
theorem walk (a0 : Int) (a1 : ByteArray) (a2 : ByteArray) (a3 : ByteArray) (a4 : ByteArray) (w1 : a1.size ≤ maxLen) (w2 : a2.size ≤ maxLen) (w3 : a3.size ≤ maxLen) (w4 : a4.size ≤ maxLen) (w : World) :
    Calls Try.prog 6 #[.int .i64 a0, .string a1, .string a2, .string a3, .string a4] w fun e w' => e = .returned (.bool true) ∧ Below w.heap.size w w' := by
  by_cases hs : a1.size + a2.size + a3.size + a4.size ≤ 1048576
  · by_cases hk : a1 = a3
    · have HF : Hid (fits4 a1 a2 a3 a4 = true) := by show _ = _; simp [fits4, hs]
      have g1 : ¬ ((1048576 : Int) < (a1.size : Int)) := by omega
      have g2 : ¬ ((1048576 : Int) < (a2.size : Int)) := by omega
      have g3 : ¬ ((1048576 : Int) < (a3.size : Int)) := by omega
      have g4 : ¬ ((1048576 : Int) < (a4.size : Int)) := by omega
      have g5 : ¬ ((1048576 : Int) < (a1.size : Int) + (a2.size : Int) + (a3.size : Int) + (a4.size : Int)) := by omega
      have e0 : (a1.toList == a3.toList) = true := by rw [hk]; simp
      clear hk
      go_enter Try.func6, Try.ntmps6
      go_wp2_with fail
      refine (zzbytes19 a0 a1 a2 a3 a4 _ w1 w2 w3 w4).mono ?_
      rintro e w' ⟨rfl, hw⟩
      subst hw
      rw [HF.out]
      go_wp2_with fail
      go_ret
      exact ⟨rfl, Below.refl _ _⟩
    · by_cases h0 : a0 = 0
      · subst h0
        exact law_zero a1 a2 a3 a4 w w1 w2 w3 w4 hs hk
      · have hz : (a0 == 0) = false := by rw [beq_eq_false_iff_ne]; exact h0
        by_cases h1 : 100 ≤ a0
        · by_cases h2 : a0 ≤ 199
          · exact law_info a0 a1 a2 a3 a4 w w1 w2 w3 w4 hs hk h1 h2
          · exact law_high a0 a1 a2 a3 a4 w w1 w2 w3 w4 hs hk hz h1 h2
        · exact law_low a0 a1 a2 a3 a4 w w1 w2 w3 w4 hs hk hz h1
  · have HF : Hid (fits4 a1 a2 a3 a4 = false) := by show _ = _; simp [fits4]; omega
    go_enter Try.func6, Try.ntmps6
    go_wp2_with fail
    refine (zzbytes19 a0 a1 a2 a3 a4 _ w1 w2 w3 w4).mono ?_
    rintro e w' ⟨rfl, hw⟩
    subst hw
    rw [HF.out]
    go_wp2_with fail
    go_ret
    exact ⟨rfl, Below.refl _ _⟩

/-! ### THE ROW's STEP: WRITTEN OUT: LEAVE IT -/
set_option maxRecDepth 100000 in
theorem lifted (os : Os) (started : os.Started) (H : Type) (enc : TypeId × Value → H) :
    ReturnsInHanded {} Try.checked os 6 .any (Rows.fnHeaderFixedAtWriteHeaderSpec.pre6 enc Try.prog Try.f6 Rows.fnHeaderFixedAtWriteHeaderRow.domain false) (Rows.fnHeaderFixedAtWriteHeaderSpec.post enc Try.prog Try.f6 false true false false) := by
  refine returnsInHanded_of_change (C := Try.checked) own started (by kernel_rfl) Try.func6
    (ChangeSpec.witness6 (enc := enc) (C := Try.checked) false ⟨#[], #[.int .i64 0, .string ByteArray.empty, .string ByteArray.empty, .string ByteArray.empty, .string ByteArray.empty], []⟩ 8 (by kernel_rfl) (by kernel_rfl) (by kernel_rfl) (by kernel_rfl)) ?_
  intro W base args ds gs before hval0 hW hcnd _
  have hval : ∀ (j : Nat) t v, Try.f6.params[j]? = some t → args[j]? = some v → Value.okWide Try.prog W .any base t v := hval0
  have hW' := hW
  obtain ⟨p, q, hA0, hV, rfl, hfz, hnd⟩ := hW
  have hA : DataW.TrodAll enc Try.prog W 0 (fun _ => true) true Try.f6.params.toList args.toList ds p := hA0
  rw [Try.params6] at hA hval
  obtain ⟨v0, vs0, d0, ds0, p0, q0, hargs, rfl, rfl, h0, r0⟩ := trodAll_cons hA
  obtain ⟨v1, vs1, d1, ds1, p1, q1, rfl, rfl, rfl, h1, r1⟩ := trodAll_cons r0
  obtain ⟨v2, vs2, d2, ds2, p2, q2, rfl, rfl, rfl, h2, r2⟩ := trodAll_cons r1
  obtain ⟨v3, vs3, d3, ds3, p3, q3, rfl, rfl, rfl, h3, r3⟩ := trodAll_cons r2
  obtain ⟨v4, vs4, d4, ds4, p4, q4, rfl, rfl, rfl, h4, r4⟩ := trodAll_cons r3
  obtain ⟨rfl, rfl, rfl⟩ := trodAll_nil r4
  obtain rfl : args = #[v0, v1, v2, v3, v4] := by cases args; simp_all
  obtain ⟨rfl, rfl⟩ := trodVars_none hV
  obtain ⟨a0, rfl, rfl, rfl, w0⟩ := open_int Try.underlying3 (hval 0 3 v0 rfl rfl) h0
  obtain ⟨a1, rfl, rfl, rfl, w1⟩ := open_string Try.underlying9 (hval 1 9 v1 rfl rfl) h1
  obtain ⟨a2, rfl, rfl, rfl, w2⟩ := open_string Try.underlying9 (hval 2 9 v2 rfl rfl) h2
  obtain ⟨a3, rfl, rfl, rfl, w3⟩ := open_string Try.underlying9 (hval 3 9 v3 rfl rfl) h3
  obtain ⟨a4, rfl, rfl, rfl, w4⟩ := open_string Try.underlying9 (hval 4 9 v4 rfl rfl) h4
  clear hA0 hval0
  refine (walk a0 a1 a2 a3 a4 w1 w2 w3 w4 W).mono fun e W' ⟨he, bel⟩ => ?_
  subst he
  exact ⟨_, rfl, _, _, _, [], [], [], hW', trodAll_mk1 (shut_bool Try.underlying4 _), (trodAll_cons_mk (shut_int Try.underlying3 w0) (trodAll_cons_mk (shut_string Try.underlying9 w1) (trodAll_cons_mk (shut_string Try.underlying9 w2) (trodAll_cons_mk (shut_string Try.underlying9 w3) (trodAll_cons_mk (shut_string Try.underlying9 w4) trodAll_mk0))))), rfl, bel.frame _, fun h => by cases h⟩

theorem over : Rows.fnHeaderFixedAtWriteHeaderRow.holds Try.pinned (OpenSpec.ofChange Rows.fnHeaderFixedAtWriteHeaderSpec) :=
  OpenClaim.holds_of_wide 6 Try.f6 rfl rfl rfl rfl rfl rfl rfl ⟨rfl, rfl, rfl, rfl, rfl⟩ rfl rfl rfl rfl rfl (by kernel_rfl) Try.func6 (by kernel_rfl)
    (of_decide_eq_true (by kernel_rfl)) (by unfold Func.isWrapper; first | (rw [if_pos (by decide +kernel)]; kernel_rfl) | (rw [if_neg (by decide +kernel)]; exact ⟨rfl, rfl⟩))
    (fun os started H enc _ => lifted os started H enc)

/-- ████ THE STATEMENT ████ -/
theorem proved : Rows.FnHeaderFixedAtWriteHeaderSaid :=
  over
#print axioms proved
end Go.Proofs.Qxb6605793a.fnHeaderFixedAtWriteHeader
