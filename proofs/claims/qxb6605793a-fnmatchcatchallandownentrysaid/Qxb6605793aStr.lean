import Derived.Test.Qxb6605793aRows
import Derived.Test.Qxb6605793aPlain
import Derived.WalkKit
import Derived.WalkSpells
import Derived.WalkLawsBesides
import Derived.Lib.Strings
import Derived.Deep.QuietTactic
import Derived.BigQuiet
namespace Go.Proofs.Qxb6605793a
open Go.RowKit
set_option linter.unusedVariables false

theorem retb {a b : Bool} (h : a = b) : Ending.returned (.bool a) = .returned (.bool b) := by rw [h]

theorem pat_empty {s : ByteArray} (h : s.size = 0) : pat s.data.toList = false := by
  have : s.data.toList = [] := List.eq_nil_of_length_eq_zero (by simpa using h)
  rw [this]; rfl
theorem pat_last {s : ByteArray} (h : s.size - 1 < s.size) : pat s.data.toList = ((s[s.size - 1].toNat : Int) == 42) := by
  have hl : s.data.toList.getLast? = some s[s.size - 1] := by
    rw [List.getLast?_eq_getElem?]
    have e : s.data.toList.length - 1 = s.size - 1 := by simp
    rw [e, List.getElem?_eq_getElem (by simp; omega)]
    rfl
  unfold pat
  rw [hl]
  rw [Bool.eq_iff_iff]
  simp only [beq_iff_eq, Option.some.injEq]
  constructor
  · intro h; rw [h]; rfl
  · intro h
    apply UInt8.toNat_inj.1
    have : s[s.size - 1].toNat = 42 := by omega
    rw [this]; rfl

set_option maxHeartbeats 400000 in
theorem isPattern_any (s : ByteArray) (w : World) (hs : s.size ≤ maxLen) :
    Calls Try.prog 14 #[.string s] w fun e w' => e = .returned (.bool (pat s.data.toList)) ∧ w' = w := by
  unfold maxLen at hs
  by_cases h : s.size = 0
  · have h0 : ¬ ((0 : Int) < (s.size : Int)) := by omega
    have HP : Hid (pat s.data.toList = false) := pat_empty h
    clear h
    go_enter Try.func14, Try.ntmps14
    go_wp2
    go_ret
    exact ⟨retb HP.out.symm, rfl⟩
  · have h0 : ((0 : Int) < (s.size : Int)) := by omega
    have hlt : s.size - 1 < s.size := by omega
    have HP : Hid (pat s.data.toList = ((s[s.size - 1].toNat : Int) == 42)) := pat_last hlt
    clear h
    go_enter Try.func14, Try.ntmps14
    go_wp2
    go_ret
    exact ⟨retb HP.out.symm, rfl⟩

/-- 'p begins s'. -/
def pfx (p s : ByteArray) : Bool := p.data.toList.isPrefixOf s.data.toList
theorem size_list (s : ByteArray) : s.data.toList.length = s.size := by simp
theorem get_list (s : ByteArray) (i : Nat) (h : i < s.size) : s.data.toList[i]? = some s[i] := by
  rw [List.getElem?_eq_getElem (by simpa using h)]; rfl
theorem pfx_long {p s : ByteArray} (h : s.size < p.size) : pfx p s = false := by
  unfold pfx
  rw [Bool.eq_false_iff, ne_eq, List.isPrefixOf_iff_prefix]
  intro hp
  have := hp.length_le
  rw [size_list, size_list] at this; omega
theorem pfx_at {p s : ByteArray} {k : Nat} (hp : k < p.size) (hs : k < s.size) (h : s[k].toNat ≠ p[k].toNat) : pfx p s = false := by
  unfold pfx
  rw [Bool.eq_false_iff, ne_eq, List.isPrefixOf_iff_prefix]
  intro hx
  obtain ⟨r, hr⟩ := hx
  have h1 : s.data.toList[k]? = p.data.toList[k]? := by
    rw [← hr, List.getElem?_append_left (by rw [size_list]; exact hp)]
  rw [get_list s k hs, get_list p k hp] at h1
  exact h (by rw [Option.some.inj h1])
theorem pfx_all {p s : ByteArray} (hl : p.size ≤ s.size) (h : ∀ i, i < p.size → s.data.toList[i]? = p.data.toList[i]?) : pfx p s = true := by
  unfold pfx
  rw [List.isPrefixOf_iff_prefix, List.prefix_iff_eq_take]
  apply List.ext_getElem?
  intro i
  rw [List.getElem?_take, size_list]
  by_cases hi : i < p.size
  · rw [if_pos hi, h i hi]
  · rw [if_neg hi, List.getElem?_eq_none (by rw [size_list]; omega)]
theorem pfx_extract {p s : ByteArray} (hl : p.size ≤ s.size) : ((s.extract 0 p.size).toList == p.toList) = pfx p s := by
  rw [ByteArray.toList_eq, ByteArray.toList_eq, Lib.extract_data]
  unfold pfx
  rw [Bool.eq_iff_iff, beq_iff_eq, List.isPrefixOf_iff_prefix, List.prefix_iff_eq_take, size_list, List.drop_zero, Nat.sub_zero]
  exact eq_comm
theorem sfx_extract {s : ByteArray} (hl : 1 ≤ s.size) : ((s.extract (s.size - 1) s.size).toList == (⟨#[42]⟩ : ByteArray).toList) = pat s.data.toList := by
  rw [ByteArray.toList_eq, ByteArray.toList_eq, Lib.extract_data]
  have hlt : s.size - 1 < s.size := by omega
  have e : (s.data.toList.drop (s.size - 1)).take (s.size - (s.size - 1)) = [s[s.size - 1]] := by
    have hd := List.drop_eq_getElem_cons (l := s.data.toList) (i := s.size - 1) (by simpa using hlt)
    rw [hd, show s.size - (s.size - 1) = 1 by omega]
    rfl
  rw [e, pat_last hlt]
  rw [Bool.eq_iff_iff, beq_iff_eq, beq_iff_eq]
  constructor
  · intro h
    have : s[s.size - 1] = 42 := by simpa using h
    rw [this]; rfl
  · intro h
    have : s[s.size - 1] = 42 := by
      apply UInt8.toNat_inj.1
      have : s[s.size - 1].toNat = 42 := by omega
      rw [this]; rfl
    rw [this]

set_option maxHeartbeats 400000 in
theorem hasPrefix15_any (s p : ByteArray) (w : World) (hs : s.size ≤ maxLen) (hp : p.size ≤ maxLen) :
    Calls Try.prog 15 #[.string s, .string p] w fun e w' => e = .returned (.bool (pfx p s)) ∧ ∃ m, w' = w.drewN m := by
  unfold maxLen at hs hp
  by_cases hl : s.size < p.size
  · have h0 : ((s.size : Int) < (p.size : Int)) := by omega
    have HP : Hid (pfx p s = false) := pfx_long hl
    clear hl
    go_enter Try.func15, Try.ntmps15
    go_wp2
    go_ret
    exact ⟨retb HP.out.symm, 0, rfl⟩
  · have h0 : ¬ ((s.size : Int) < (p.size : Int)) := by omega
    have hle : p.size ≤ s.size := by omega
    clear hl
    go_enter Try.func15, Try.ntmps15
    go_wp2
    go_loopw [5] (fun i wr => ∃ k m : Nat, k ≤ p.size ∧ i = .int .i64 k ∧ (∀ j, j < k → s.data.toList[j]? = p.data.toList[j]?) ∧ wr = w.drewN m) (fun i _ => p.size - (intOf i).toNat)
    case atStart => exact ⟨0, 0, Nat.zero_le _, rfl, fun j hj => absurd hj (Nat.not_lt_zero j), rfl⟩
    case round =>
      obtain ⟨k, m, hk, rfl, HH, rfl⟩ := hrel
      have HK : Hid (∀ j, j < k → s.data.toList[j]? = p.data.toList[j]?) := HH
      clear HH
      by_cases hlt : k < p.size
      · have hls : k < s.size := by omega
        by_cases he : s[k].toNat = p[k].toNat
        · have c1 : ((s[k].toNat : Int) != (p[k].toNat : Int)) = false := by rw [he]; simp
          have HN : Hid (∀ j, j < k + 1 → s.data.toList[j]? = p.data.toList[j]?) := by
            intro j hj
            by_cases hjk : j < k
            · exact HK.out j hjk
            · obtain rfl : j = k := by omega
              rw [get_list s j hls, get_list p j hlt, UInt8.toNat_inj.1 he]
          clear he
          go_wp2
          go_quiet (fail)
          go_wp2
          go_roundw
          case rel => exact ⟨k + 1, m + nq, by omega, by go_num, HN.out, rfl⟩
          case measure => simp [intOf]; omega
        · have c1 : ((s[k].toNat : Int) != (p[k].toNat : Int)) = true := by rw [bne_iff_ne]; omega
          have HN : Hid (pfx p s = false) := pfx_at hlt hls he
          clear he
          go_wp2
          go_quiet (fail)
          go_wp2
          go_ret
          exact ⟨retb HN.out.symm, m + nq, by rw [World.drewN_drewN]⟩
      · have HN : Hid (pfx p s = true) := pfx_all hle (fun i hi => HK.out i (by omega))
        go_wp2
        go_ret
        exact ⟨retb HN.out.symm, m, rfl⟩

set_option maxHeartbeats 400000 in
theorem hasPrefix44_any (s p : ByteArray) (w : World) (hs : s.size ≤ maxLen) (hp : p.size ≤ maxLen) :
    Calls Try.prog 44 #[.string s, .string p] w fun e w' => e = .returned (.bool (pfx p s)) ∧ w' = w := by
  unfold maxLen at hs hp
  by_cases hl : s.size < p.size
  · have h0 : ¬ ((p.size : Int) ≤ (s.size : Int)) := by omega
    have HP : Hid (pfx p s = false) := pfx_long hl
    clear hl
    go_enter Try.func44, Try.ntmps44
    go_wp2
    go_ret
    exact ⟨retb HP.out.symm, rfl⟩
  · have h0 : ((p.size : Int) ≤ (s.size : Int)) := by omega
    have hle : p.size ≤ s.size := by omega
    have HP : Hid (((s.extract 0 p.size).toList == p.toList) = pfx p s) := pfx_extract hle
    clear hl
    go_enter Try.func44, Try.ntmps44
    go_wp2
    go_ret
    exact ⟨retb HP.out, rfl⟩

set_option maxHeartbeats 400000 in
theorem hasPrefix35_any (s p : ByteArray) (w : World) (hs : s.size ≤ maxLen) (hp : p.size ≤ maxLen) :
    Calls Try.prog 35 #[.string s, .string p] w fun e w' => e = .returned (.bool (pfx p s)) ∧ w' = w := by
  go_enter Try.func35, Try.ntmps35
  go_wp2_with fail
  refine (hasPrefix44_any s p _ hs hp).mono ?_
  rintro e w' ⟨rfl, hX⟩
  subst hX
  go_wp2
  go_ret
  exact ⟨rfl, rfl⟩

set_option maxHeartbeats 400000 in
theorem hasSuffix40_star (s : ByteArray) (w : World) (hs : s.size ≤ maxLen) :
    Calls Try.prog 40 #[.string s, .string ⟨#[42]⟩] w fun e w' => e = .returned (.bool (pat s.data.toList)) ∧ w' = w := by
  unfold maxLen at hs
  by_cases hl : s.size = 0
  · have h0 : ¬ ((1 : Int) ≤ (s.size : Int)) := by omega
    have HP : Hid (pat s.data.toList = false) := pat_empty hl
    clear hl
    go_enter Try.func40, Try.ntmps40
    go_wp2
    go_ret
    exact ⟨retb HP.out.symm, rfl⟩
  · have h0 : ((1 : Int) ≤ (s.size : Int)) := by omega
    have HP : Hid (((s.extract (s.size - 1) s.size).toList == [42]) = pat s.data.toList) := by
      have := sfx_extract (s := s) (by omega)
      rw [show (⟨#[42]⟩ : ByteArray).toList = [42] by rw [ByteArray.toList_eq]] at this
      exact this
    clear hl
    go_enter Try.func40, Try.ntmps40
    go_wp2
    go_ret
    exact ⟨retb HP.out, rfl⟩

set_option maxHeartbeats 400000 in
theorem hasSuffix30_star (s : ByteArray) (w : World) (hs : s.size ≤ maxLen) :
    Calls Try.prog 30 #[.string s, .string ⟨#[42]⟩] w fun e w' => e = .returned (.bool (pat s.data.toList)) ∧ w' = w := by
  go_enter Try.func30, Try.ntmps30
  go_wp2_with fail
  refine (hasSuffix40_star s _ hs).mono ?_
  rintro e w' ⟨rfl, hX⟩
  subst hX
  go_wp2
  go_ret
  exact ⟨rfl, rfl⟩

/-- 'cmp.Compare(len(b), len(a))'. -/
def cmpLen (a b : ByteArray) : Int := if b.size < a.size then -1 else if a.size < b.size then 1 else 0
set_option maxHeartbeats 400000 in
theorem isNaN_any (x : Int) (w : World) : Calls Try.prog 43 #[.int .i64 x] w fun e w' => e = .returned (.bool false) ∧ w' = w := by
  go_enter Try.func43, Try.ntmps43
  go_wp2
  go_ret
  exact ⟨by simp, rfl⟩
set_option maxHeartbeats 400000 in
theorem compare_any (x y : Int) (w : World) : Calls Try.prog 33 #[.int .i64 x, .int .i64 y] w fun e w' => e = .returned (.int .i64 (if x < y then -1 else if y < x then 1 else 0)) ∧ w' = w := by
  by_cases h1 : x < y
  · go_enter Try.func33, Try.ntmps33
    go_wp2_with (go_at_call 43; refine (isNaN_any _ _).mono ?_; rintro e w' ⟨rfl, rfl⟩)
    go_ret
    exact ⟨rfl, rfl⟩
  · by_cases h2 : y < x
    · go_enter Try.func33, Try.ntmps33
      go_wp2_with (go_at_call 43; refine (isNaN_any _ _).mono ?_; rintro e w' ⟨rfl, rfl⟩)
      go_ret
      exact ⟨rfl, rfl⟩
    · go_enter Try.func33, Try.ntmps33
      go_wp2_with (go_at_call 43; refine (isNaN_any _ _).mono ?_; rintro e w' ⟨rfl, rfl⟩)
      go_ret
      exact ⟨rfl, rfl⟩
set_option maxHeartbeats 400000 in
theorem cmp32_any (a b : ByteArray) (w : World) : Calls Try.prog 32 #[.string a, .string b] w fun e w' => e = .returned (.int .i64 (cmpLen a b)) ∧ w' = w := by
  have HC : Hid ((if (b.size : Int) < (a.size : Int) then (-1 : Int) else if (a.size : Int) < (b.size : Int) then 1 else 0) = cmpLen a b) := by
    show _ = _
    unfold cmpLen
    simp only [Int.ofNat_lt]
  go_enter Try.func32, Try.ntmps32
  go_wp2_with fail
  refine (compare_any _ _ _).mono ?_
  rintro e w' ⟨rfl, hX⟩
  subst hX
  rw [HC.out]
  go_wp2
  go_ret
  exact ⟨rfl, rfl⟩
end Go.Proofs.Qxb6605793a
