import Derived.Test.Qxb6605670aRows
import Derived.Test.Qxb6605670aQtext
import Derived.WalkKit
import Derived.ProofKit
import Derived.OpenShut
import Derived.ShutString
import Derived.Below
namespace Go.Proofs.Qxb6605670a.fnQuotedEndFindsEndOfQuotedText
open Go.ChangeShapes Go.WideShapes Go.ChangeAt Go.RowKit
open Go.ChangeMaps (open_string shut_string)
set_option linter.unusedVariables false      -- a walk need not use every 'w<i>' (that an integer argument fits its kind)

theorem own : ownKnob Try.prog.godebug = none := by kernel_rfl

/-- The byte at place k of a list. -/
def lb (L : List UInt8) (k : Nat) : Nat := (L.getD k 0).toNat
theorem bt_lb (s : ByteArray) : bt s = lb s.data.toList := by
  funext k
  unfold bt lb
  by_cases h : k < s.size
  · rw [dif_pos h, List.getD_eq_getElem?_getD, List.getElem?_eq_getElem (by simpa using h)]; rfl
  · rw [dif_neg h, List.getD_eq_getElem?_getD, List.getElem?_eq_none (by simp; omega)]; rfl
theorem lb_at (pre rest : List UInt8) (c : UInt8) : lb (pre ++ c :: rest) pre.length = c.toNat := by simp [lb]

theorem inv_esc {n : Nat} : ∀ (l pre rest : List UInt8), Inv (lb (pre ++ (esc l ++ rest))) n pre.length → Inv (lb (pre ++ (esc l ++ rest))) n (pre.length + (esc l).length)
  | [], pre, rest, h => h
  | c :: l, pre, rest, h => by
    by_cases hc : c.toNat = 92 ∨ c.toNat = 34
    · have e : pre ++ (esc (c :: l) ++ rest) = (pre ++ [92, c]) ++ (esc l ++ rest) := by simp [esc, esc1_yes hc]
      have e0 : pre ++ (esc (c :: l) ++ rest) = pre ++ 92 :: (c :: (esc l ++ rest)) := by simp [esc, esc1_yes hc]
      have h1 : Inv (lb (pre ++ (esc (c :: l) ++ rest))) n (pre.length + 2) := h.esc (by rw [e0, lb_at]; rfl)
      rw [e] at h1
      have h2 := inv_esc l (pre ++ [92, c]) rest (by simpa using h1)
      rw [e, show pre.length + (esc (c :: l)).length = (pre ++ [92, c]).length + (esc l).length by simp [esc, esc1_yes hc]; omega]
      exact h2
    · have e : pre ++ (esc (c :: l) ++ rest) = (pre ++ [c]) ++ (esc l ++ rest) := by simp [esc, esc1_no hc]
      have e0 : pre ++ (esc (c :: l) ++ rest) = pre ++ c :: (esc l ++ rest) := by simp [esc, esc1_no hc]
      have h1 : Inv (lb (pre ++ (esc (c :: l) ++ rest))) n (pre.length + 1) := h.plain (by rw [e0, lb_at]; omega) (by rw [e0, lb_at]; omega)
      rw [e] at h1
      have h2 := inv_esc l (pre ++ [c]) rest (by simpa using h1)
      rw [e, show pre.length + (esc (c :: l)).length = (pre ++ [c]).length + (esc l).length by simp [esc, esc1_no hc]; omega]
      exact h2

theorem mk_size (l : List UInt8) : (⟨l.toArray⟩ : ByteArray).size = l.length := by
  show l.toArray.size = _
  simp
theorem end_quoted (l : List UInt8) (t : ByteArray) : EndIs (bt (⟨(quoted l).toArray⟩ ++ t)) ((⟨(quoted l).toArray⟩ : ByteArray) ++ t).size ((quoted l).length : Int) := by
  have hd : ((⟨(quoted l).toArray⟩ : ByteArray) ++ t).data.toList = [34] ++ (esc l ++ (34 :: t.data.toList)) := by
    simp [quoted]
  have hn : ((⟨(quoted l).toArray⟩ : ByteArray) ++ t).size = (quoted l).length + t.size := by rw [ByteArray.size_append, mk_size]
  rw [bt_lb, hd, hn]
  have h1 := inv_esc (n := (quoted l).length + t.size) l [34] (34 :: t.data.toList) (Inv.start _ _)
  have e : [34] ++ (esc l ++ (34 :: t.data.toList)) = ([34] ++ esc l) ++ 34 :: t.data.toList := by simp
  have h2 := h1.found (by rw [e, show ([34] : List UInt8).length + (esc l).length = (([34] : List UInt8) ++ esc l).length by simp; omega, lb_at]; rfl) (by simp [quoted]; omega)
  have h3 : ((([34] : List UInt8).length + (esc l).length : Nat) : Int) + 1 = ((quoted l).length : Int) := by simp [quoted]; omega
  rw [← h3]
  exact h2

/-- The law's bound. -/
def fits2 (s t : ByteArray) : Bool := decide (s.size + t.size ≤ 1048576)

set_option maxHeartbeats 400000 in
theorem zzbytes12 (s t : ByteArray) (w : World) (hs : s.size ≤ maxLen) (ht : t.size ≤ maxLen) :
    Calls Try.prog 12 #[.string s, .string t] w fun e w' => e = .returned (.bool (fits2 s t)) ∧ w' = w := by
  unfold maxLen at hs ht
  by_cases h : s.size ≤ 1048576
  · have h1 : ¬ ((1048576 : Int) < (s.size : Int)) := by omega
    by_cases h2 : t.size ≤ 1048576
    · have h3 : ¬ ((1048576 : Int) < (t.size : Int)) := by omega
      by_cases h4 : s.size + t.size ≤ 1048576
      · have h5 : ¬ ((1048576 : Int) < (s.size : Int) + (t.size : Int)) := by omega
        have HF : Hid (fits2 s t = true) := by show _ = _; simp [fits2, h4]
        go_enter Try.func12, Try.ntmps12
        go_wp2
        go_ret
        exact ⟨by rw [HF.out]; rfl, rfl⟩
      · have h5 : ((1048576 : Int) < (s.size : Int) + (t.size : Int)) := by omega
        have HF : Hid (fits2 s t = false) := by show _ = _; simp [fits2]; omega
        go_enter Try.func12, Try.ntmps12
        go_wp2
        go_ret
        exact ⟨by rw [HF.out]; rfl, rfl⟩
    · have h3 : ((1048576 : Int) < (t.size : Int)) := by omega
      have HF : Hid (fits2 s t = false) := by show _ = _; simp [fits2]; omega
      go_enter Try.func12, Try.ntmps12
      go_wp2
      go_ret
      exact ⟨by rw [HF.out]; rfl, rfl⟩
  · have h1 : ((1048576 : Int) < (s.size : Int)) := by omega
    have HF : Hid (fits2 s t = false) := by show _ = _; simp [fits2]; omega
    go_enter Try.func12, Try.ntmps12
    go_wp2
    go_ret
    exact ⟨by rw [HF.out]; rfl, rfl⟩

set_option maxHeartbeats 400000 in
theorem walk (a0 : ByteArray) (a1 : ByteArray) (w0 : a0.size ≤ maxLen) (w1 : a1.size ≤ maxLen) (w : World) :
    Calls Try.prog 4 #[.string a0, .string a1] w fun e w' => e = .returned (.bool true) ∧ Below w.heap.size w w' := by
  by_cases h : a0.size + a1.size ≤ 1048576
  · have HF : Hid (fits2 a0 a1 = true) := by show _ = _; simp [fits2, h]
    by_cases h1 : a0.size ≤ 524288
    · have c1 : ¬ ((524288 : Int) < (a0.size : Int)) := by omega
      by_cases h2 : a1.size ≤ 524288
      · have c2 : ¬ ((524288 : Int) < (a1.size : Int)) := by omega
        obtain ⟨q, hq, hqs, HE⟩ : ∃ q : ByteArray, q = ⟨(quoted a0.data.toList).toArray⟩ ∧ q.size ≤ 1048578 ∧ EndIs (bt (q ++ a1)) (q ++ a1).size (q.size : Int) := by
          refine ⟨_, rfl, ?_, ?_⟩
          · rw [mk_size]
            have := esc_len a0.data.toList
            simp [quoted] at this ⊢; omega
          · have := end_quoted a0.data.toList a1
            rw [mk_size]
            exact this
        have hsz : (q ++ a1).size ≤ 4194304 := by rw [ByteArray.size_append]; omega
        have HQ : Hid (q = ⟨(quoted a0.data.toList).toArray⟩) := hq
        have HH : Hid (EndIs (bt (q ++ a1)) (q ++ a1).size (q.size : Int)) := HE
        clear HE hq
        go_enter Try.func4, Try.ntmps4
        go_wp2_with fail
        refine (zzbytes12 a0 a1 _ w0 w1).mono ?_
        rintro e w' ⟨rfl, rfl⟩
        rw [HF.out]
        go_wp2_with fail
        refine (quoteText_any a0 _ (by omega)).mono ?_
        rintro e w2 ⟨rfl, hb2⟩
        rw [← HQ.out]
        go_wp2_with fail
        refine (zzquotedEnd_any (q ++ a1) _ hsz).mono ?_
        rintro e w' ⟨⟨r, rfl, hr⟩, rfl⟩
        obtain rfl : r = (q.size : Int) := hr.unique HH.out
        clear hr
        go_wp2
        go_ret
        exact ⟨by simp, hb2⟩
      · have c2 : ((524288 : Int) < (a1.size : Int)) := by omega
        go_enter Try.func4, Try.ntmps4
        go_wp2_with fail
        refine (zzbytes12 a0 a1 _ w0 w1).mono ?_
        rintro e w' ⟨rfl, rfl⟩
        rw [HF.out]
        go_wp2
        go_ret
        exact ⟨rfl, Below.refl _ _⟩
    · have c1 : ((524288 : Int) < (a0.size : Int)) := by omega
      go_enter Try.func4, Try.ntmps4
      go_wp2_with fail
      refine (zzbytes12 a0 a1 _ w0 w1).mono ?_
      rintro e w' ⟨rfl, rfl⟩
      rw [HF.out]
      go_wp2
      go_ret
      exact ⟨rfl, Below.refl _ _⟩
  · have HF : Hid (fits2 a0 a1 = false) := by show _ = _; simp [fits2]; omega
    go_enter Try.func4, Try.ntmps4
    go_wp2_with fail
    refine (zzbytes12 a0 a1 _ w0 w1).mono ?_
    rintro e w' ⟨rfl, rfl⟩
    rw [HF.out]
    go_wp2
    go_ret
    exact ⟨rfl, Below.refl _ _⟩

/-! ### THE ROW's STEP: WRITTEN OUT: LEAVE IT -/
set_option maxRecDepth 100000 in
theorem lifted (os : Os) (started : os.Started) (H : Type) (enc : TypeId × Value → H) :
    ReturnsInHanded {} Try.checked os 4 .any (Rows.fnQuotedEndFindsEndOfQuotedTextSpec.pre6 enc Try.prog Try.f4 Rows.fnQuotedEndFindsEndOfQuotedTextRow.domain false) (Rows.fnQuotedEndFindsEndOfQuotedTextSpec.post enc Try.prog Try.f4 false true false false) := by
  refine returnsInHanded_of_change (C := Try.checked) own started (by kernel_rfl) Try.func4
    (ChangeSpec.witness6 (enc := enc) (C := Try.checked) false ⟨#[], #[.string ByteArray.empty, .string ByteArray.empty], []⟩ 8 (by kernel_rfl) (by kernel_rfl) (by kernel_rfl) (by kernel_rfl)) ?_
  intro W base args ds gs before hval0 hW hcnd _
  have hval : ∀ (j : Nat) t v, Try.f4.params[j]? = some t → args[j]? = some v → Value.okWide Try.prog W .any base t v := hval0
  have hW' := hW
  obtain ⟨p, q, hA0, hV, rfl, hfz, hnd⟩ := hW
  have hA : DataW.TrodAll enc Try.prog W 0 (fun _ => true) true Try.f4.params.toList args.toList ds p := hA0
  rw [Try.params4] at hA hval
  obtain ⟨v0, vs0, d0, ds0, p0, q0, hargs, rfl, rfl, h0, r0⟩ := trodAll_cons hA
  obtain ⟨v1, vs1, d1, ds1, p1, q1, rfl, rfl, rfl, h1, r1⟩ := trodAll_cons r0
  obtain ⟨rfl, rfl, rfl⟩ := trodAll_nil r1
  obtain rfl : args = #[v0, v1] := by cases args; simp_all
  obtain ⟨rfl, rfl⟩ := trodVars_none hV
  obtain ⟨a0, rfl, rfl, rfl, w0⟩ := open_string Try.underlying9 (hval 0 9 v0 rfl rfl) h0
  obtain ⟨a1, rfl, rfl, rfl, w1⟩ := open_string Try.underlying9 (hval 1 9 v1 rfl rfl) h1
  clear hA0 hval0
  refine (walk a0 a1 w0 w1 W).mono fun e W' ⟨he, bel⟩ => ?_
  subst he
  exact ⟨_, rfl, _, _, _, [], [], [], hW', trodAll_mk1 (shut_bool Try.underlying4 _), (trodAll_cons_mk (shut_string Try.underlying9 w0) (trodAll_cons_mk (shut_string Try.underlying9 w1) trodAll_mk0)), rfl, bel.frame _, fun h => by cases h⟩

theorem over : Rows.fnQuotedEndFindsEndOfQuotedTextRow.holds Try.pinned (OpenSpec.ofChange Rows.fnQuotedEndFindsEndOfQuotedTextSpec) :=
  OpenClaim.holds_of_wide 4 Try.f4 rfl rfl rfl rfl rfl rfl rfl ⟨rfl, rfl, rfl, rfl, rfl⟩ rfl rfl rfl rfl rfl (by kernel_rfl) Try.func4 (by kernel_rfl)
    (of_decide_eq_true (by kernel_rfl)) (by unfold Func.isWrapper; first | (rw [if_pos (by decide +kernel)]; kernel_rfl) | (rw [if_neg (by decide +kernel)]; exact ⟨rfl, rfl⟩))
    (fun os started H enc _ => lifted os started H enc)

/-- ████ THE STATEMENT ████ -/
theorem proved : Rows.FnQuotedEndFindsEndOfQuotedTextSaid :=
  over
#print axioms proved
end Go.Proofs.Qxb6605670a.fnQuotedEndFindsEndOfQuotedText
