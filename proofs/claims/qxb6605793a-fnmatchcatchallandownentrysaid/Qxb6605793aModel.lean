import Derived.Test.Qxb6605793aSlc
namespace Go.Proofs.Qxb6605793a
open Go.RowKit
set_option linter.unusedVariables false

theorem snoc_getD (ss : List ByteArray) (x : ByteArray) (i : Nat) (h : i < ss.length) : (ss ++ [x]).getD i ByteArray.empty = ss.getD i ByteArray.empty := by
  rw [List.getD_eq_getElem?_getD, List.getD_eq_getElem?_getD, List.getElem?_append_left h]
theorem snoc_last (ss : List ByteArray) (x : ByteArray) : (ss ++ [x]).getD ss.length ByteArray.empty = x := by
  rw [List.getD_eq_getElem?_getD, List.getElem?_append_right (Nat.le_refl _)]; simp

set_option maxHeartbeats 1000000 in
theorem with13 (a : Option Addr) (cap : Nat) (ss : List ByteArray) (y : ByteArray) (w : World) (hS : Strs w a ss) (hl : ss.length ≤ 65536) :
    Calls Try.prog 13 #[.slice a ss.length cap, .string y] w fun e w' => Made w (ss ++ [y]) e w' := by
  obtain ⟨i0, hi, hz0, hz1, hz2⟩ := info_parts infoStr
  have HS : Hid (Strs w a ss) := hS
  clear hS
  go_enter Try.func13, Try.ntmps13
  go_wp2_with (at_make; refine wpList_make_full _ rfl _ _ 22 rfl w.heap.size 9 i0 (.string ByteArray.empty) 1 Try.underlying22 hi hz0 hz1 _ _ _ _ (ss.length + 1) rfl rfl (by omega) (by omega) (by rw [hz2]; omega) (by unfold maxLen; omega) (Nat.le_refl _) ?_; intro w2 hown2 hgrow2)
  have HF : Hid (Fill w w2 w.heap.size (ss.length + 1) 0 (ss ++ [y])) := Fill.start hown2 ((Below.refl _ _).grown hgrow2 (Nat.le_refl _) (by simp))
  clear hown2 hgrow2
  go_loopw [7] (fun i wr => ∃ k : Nat, k ≤ ss.length ∧ i = .int .i64 k ∧ Fill w wr w.heap.size (ss.length + 1) k (ss ++ [y])) (fun i _ => ss.length - (intOf i).toNat)
  case atStart => exact ⟨0, Nat.zero_le _, rfl, HF.out⟩
  case round =>
    obtain ⟨k, hk, rfl, hF⟩ := hrel
    have HG : Hid (Fill w wr w.heap.size (ss.length + 1) k (ss ++ [y])) := hF
    clear hF
    by_cases hlt : k < ss.length
    · obtain ⟨b, off, rfl, hc⟩ := (HS.out.below (by obtain ⟨_, _, _, _, hb, _⟩ := HG.out; exact hb)).at hlt
      obtain ⟨⟨v0, hc0⟩, hf0⟩ := HG.out.cell (j := k) (by omega)
      have HN : Hid (Fill w (wr.setCell ⟨w.heap.size, k, none⟩ (.string (ss.getD k ByteArray.empty))) w.heap.size (ss.length + 1) (k + 1) (ss ++ [y])) := by
        have := HG.out.step (by omega : k < ss.length + 1)
        rwa [snoc_getD ss y k hlt] at this
      obtain ⟨x, hxe⟩ : ∃ x, x = ss.getD k ByteArray.empty := ⟨_, rfl⟩
      rw [← hxe] at hc HN
      clear hxe
      go_wp2
      go_roundw
      case rel => exact ⟨k + 1, by omega, by go_num, HN.out⟩
      case measure => simp [intOf]; omega
    · obtain rfl : k = ss.length := by omega
      obtain ⟨⟨v0, hc0⟩, hf0⟩ := HG.out.cell (j := ss.length) (by omega)
      have HN : Hid (Fill w (wr.setCell ⟨w.heap.size, ss.length, none⟩ (.string y)) w.heap.size (ss.length + 1) (ss.length + 1) (ss ++ [y])) := by
        have := HG.out.step (by omega : ss.length < ss.length + 1)
        rwa [snoc_last ss y] at this
      have HM : Hid (Made w (ss ++ [y]) (.returned (.slice (some ⟨w.heap.size, 0, none⟩) (ss.length + 1) (ss.length + 1))) (wr.setCell ⟨w.heap.size, ss.length, none⟩ (.string y))) :=
        ⟨some ⟨w.heap.size, 0, none⟩, ss.length + 1, by simp, HN.out.strs (by simp), by obtain ⟨_, _, _, _, hb, _⟩ := HN.out; exact hb⟩
      go_wp2
      go_ret
      exact HM.out

/-- A string as its bytes. -/
def bs (s : ByteArray) : Bytes := s.data.toList
def bss (ss : List ByteArray) : List Bytes := ss.map bs
theorem bs_length (s : ByteArray) : (bs s).length = s.size := by simp [bs]
theorem bs_inj {a b : ByteArray} (h : bs a = bs b) : a = b := by
  obtain ⟨⟨l⟩⟩ := a
  obtain ⟨⟨m⟩⟩ := b
  simp [bs] at h
  rw [h]
theorem bss_take_snoc (ss : List ByteArray) (k : Nat) (h : k < ss.length) : bss (ss.take (k + 1)) = bss (ss.take k) ++ [bs (ss.getD k ByteArray.empty)] := by
  unfold bss
  rw [List.take_succ_eq_append_getElem h, List.map_append, List.getD_eq_getElem?_getD, List.getElem?_eq_getElem h]
  rfl
theorem pre_eq (e p : ByteArray) (h : 1 ≤ e.size) : pfx (e.extract 0 (e.size - 1)) p = pre (bs e) (bs p) := by
  unfold pfx pre bs
  rw [Lib.extract_data, List.drop_zero, Nat.sub_zero, List.dropLast_eq_take]
  simp
theorem mem_bss {x : Bytes} {ss : List ByteArray} : x ∈ bss ss ↔ ∃ s ∈ ss, bs s = x := by simp [bss]

/-- What a matcher hands back. -/
def Matched (ss : List ByteArray) (p : ByteArray) (e : Ending) : Prop := ∃ r ok, e = .returned (.tuple #[.string r, .bool ok]) ∧ Ans (bss ss) (bs p) (bs r) ok ∧ r.size ≤ maxLen

set_option maxHeartbeats 2000000 in
theorem model11 (a : Option Addr) (cap : Nat) (ss : List ByteArray) (p : ByteArray) (w : World) (hS : Strs w a ss) (hl : ss.length ≤ 65537) (hw : ∀ s ∈ ss, s.size ≤ 1048576) (hp : p.size ≤ 1048576) :
    Calls Try.prog 11 #[.slice a ss.length cap, .string p] w fun e w' => Matched ss p e ∧ ∃ m, w' = w.drewN m := by
  have HS : Hid (Strs w a ss) := hS
  have HW : Hid (∀ s ∈ ss, s.size ≤ 1048576) := hw
  clear hS hw
  go_enter Try.func11, Try.ntmps11
  go_wp2
  go_loopw [6, 7, 8, 9] (fun b f i _ wr => ∃ (k m : Nat) (best : ByteArray) (fd : Bool), k ≤ ss.length ∧ i = .int .i64 k ∧ b = .string best ∧ f = .bool fd ∧ Pass (bss (ss.take k)) (bs p) (bs best) fd ∧ best.size ≤ 1048576 ∧ wr = w.drewN m) (fun _ _ i _ _ => ss.length - (intOf i).toNat)
  case atStart => exact ⟨0, 0, ByteArray.empty, false, Nat.zero_le _, rfl, rfl, rfl, Pass.start _, Nat.zero_le _, rfl⟩
  case round =>
    obtain ⟨k, m, best, fd, hk, rfl, rfl, rfl, hP, hbz, rfl⟩ := hrel
    have HP : Hid (Pass (bss (ss.take k)) (bs p) (bs best) fd) := hP
    clear hP
    by_cases hlt : k < ss.length
    · obtain ⟨b, off, rfl, hc⟩ := HS.out.at hlt
      have hx := HW.out _ (getD_mem hlt)
      have HT : Hid (bss (ss.take (k + 1)) = bss (ss.take k) ++ [bs (ss.getD k ByteArray.empty)]) := bss_take_snoc ss k hlt
      have HMem : Hid (bs (ss.getD k ByteArray.empty) ∈ bss ss) := mem_bss.2 ⟨_, getD_mem hlt, rfl⟩
      obtain ⟨x, hxe⟩ : ∃ x, x = ss.getD k ByteArray.empty := ⟨_, rfl⟩
      rw [← hxe] at hc hx HT HMem
      clear hxe
      have hxm : x.size ≤ maxLen := by unfold maxLen; omega
      have hpm : p.size ≤ maxLen := by unfold maxLen; omega
      cases hpat : pat (bs x) with
      | false =>
        by_cases hxp : x = p
        · have c1 : (x.toList == p.toList) = true := by rw [hxp]; simp
          have HA : Hid (Matched ss p (.returned (.tuple #[.string p, .bool true]))) := ⟨p, true, rfl, ans_exact (by rw [← hxp]; exact HMem.out) (by rw [← hxp]; exact hpat), hpm⟩
          have C : Hid (pat x.data.toList = false) := hpat
          clear hpat hxp HMem HT
          go_wp2_with fail
          refine (isPattern_any x _ hxm).mono ?_
          rintro e X ⟨rfl, hX⟩
          have hX' := hX.symm
          subst hX'
          rw [C.out]
          go_wp2_with fail
          go_ret2
          exact ⟨HA.out, m, rfl⟩
        · have c1 : (x.toList == p.toList) = false := by
            rw [← beq_toListBytes]
            cases hb : (x == p) with
            | false => rfl
            | true => exact absurd ((MapKept.bytes_beq x p).1 hb) hxp
          have HN : Hid (Pass (bss (ss.take (k + 1))) (bs p) (bs best) fd) := by
            show Pass _ _ _ _
            rw [HT.out]; exact HP.out.plain hpat (fun e => hxp (bs_inj e))
          have C : Hid (pat x.data.toList = false) := hpat
          clear hpat hxp HMem HT
          go_wp2_with fail
          refine (isPattern_any x _ hxm).mono ?_
          rintro e X ⟨rfl, hX⟩
          have hX' := hX.symm
          subst hX'
          rw [C.out]
          go_wp2_with fail
          go_roundw
          case rel => exact ⟨k + 1, m, best, fd, by omega, by go_num, rfl, rfl, HN.out, hbz, rfl⟩
          case measure => simp [intOf]; omega
      | true =>
        have hx1 : 1 ≤ x.size := by rw [← bs_length]; exact pat_length hpat
        have C : Hid (pat x.data.toList = true) := hpat
        have hem : (x.extract 0 (x.size - 1)).size ≤ maxLen := by simp; unfold maxLen; omega
        have HE : Hid (pfx (x.extract 0 (x.size - 1)) p = pre (bs x) (bs p)) := pre_eq x p hx1
        cases hpre : pre (bs x) (bs p) with
        | false =>
          have HN : Hid (Pass (bss (ss.take (k + 1))) (bs p) (bs best) fd) := by
            show Pass _ _ _ _
            rw [HT.out]; exact HP.out.other hpat (.inl hpre)
          have HQ : Hid (pre (bs x) (bs p) = false) := hpre
          clear hpat HMem HT hpre
          go_wp2_with fail
          refine (isPattern_any x _ hxm).mono ?_
          rintro e X ⟨rfl, hX⟩
          have hX' := hX.symm
          subst hX'
          rw [C.out]
          go_wp2_with fail
          refine (hasPrefix15_any p (x.extract 0 (x.size - 1)) _ hpm hem).mono ?_
          rintro e X ⟨rfl, m2, hX⟩
          rw [HE.out, HQ.out, hX, World.drewN_drewN]
          clear hX X
          go_wp2_with fail
          go_roundw
          case rel => exact ⟨k + 1, m + m2, best, fd, by omega, by go_num, rfl, rfl, HN.out, hbz, rfl⟩
          case measure => simp [intOf]; omega
        | true =>
          have HQ : Hid (pre (bs x) (bs p) = true) := hpre
          cases fd with
          | false =>
            have HN : Hid (Pass (bss (ss.take (k + 1))) (bs p) (bs x) true) := by
              show Pass _ _ _ _
              rw [HT.out]; exact HP.out.take hpat hpre (.inl rfl)
            clear hpat HMem HT hpre
            go_wp2_with fail
            refine (isPattern_any x _ hxm).mono ?_
            rintro e X ⟨rfl, hX⟩
            have hX' := hX.symm
            subst hX'
            rw [C.out]
            go_wp2_with fail
            refine (hasPrefix15_any p (x.extract 0 (x.size - 1)) _ hpm hem).mono ?_
            rintro e X ⟨rfl, m2, hX⟩
            rw [HE.out, HQ.out, hX, World.drewN_drewN]
            clear hX X
            go_wp2_with fail
            go_roundw
            case rel => exact ⟨k + 1, m + m2, x, true, by omega, by go_num, rfl, rfl, HN.out, hx, rfl⟩
            case measure => simp [intOf]; omega
          | true =>
            by_cases hlen : best.size < x.size
            · have c2 : ((best.size : Int) < (x.size : Int)) := by omega
              have HN : Hid (Pass (bss (ss.take (k + 1))) (bs p) (bs x) true) := by
                show Pass _ _ _ _
                rw [HT.out]; exact HP.out.take hpat hpre (.inr (by rw [bs_length, bs_length]; exact hlen))
              clear hpat HMem HT hpre
              go_wp2_with fail
              refine (isPattern_any x _ hxm).mono ?_
              rintro e X ⟨rfl, hX⟩
              have hX' := hX.symm
              subst hX'
              rw [C.out]
              go_wp2_with fail
              refine (hasPrefix15_any p (x.extract 0 (x.size - 1)) _ hpm hem).mono ?_
              rintro e X ⟨rfl, m2, hX⟩
              rw [HE.out, HQ.out, hX, World.drewN_drewN]
              clear hX X
              go_wp2_with fail
              go_roundw
              case rel => exact ⟨k + 1, m + m2, x, true, by omega, by go_num, rfl, rfl, HN.out, hx, rfl⟩
              case measure => simp [intOf]; omega
            · have c2 : ¬ ((best.size : Int) < (x.size : Int)) := by omega
              have HN : Hid (Pass (bss (ss.take (k + 1))) (bs p) (bs best) true) := by
                show Pass _ _ _ _
                rw [HT.out]; exact HP.out.other hpat (.inr ⟨rfl, by rw [bs_length, bs_length]; omega⟩)
              clear hpat HMem HT hpre
              go_wp2_with fail
              refine (isPattern_any x _ hxm).mono ?_
              rintro e X ⟨rfl, hX⟩
              have hX' := hX.symm
              subst hX'
              rw [C.out]
              go_wp2_with fail
              refine (hasPrefix15_any p (x.extract 0 (x.size - 1)) _ hpm hem).mono ?_
              rintro e X ⟨rfl, m2, hX⟩
              rw [HE.out, HQ.out, hX, World.drewN_drewN]
              clear hX X
              go_wp2_with fail
              go_roundw
              case rel => exact ⟨k + 1, m + m2, best, true, by omega, by go_num, rfl, rfl, HN.out, hbz, rfl⟩
              case measure => simp [intOf]; omega
    · obtain rfl : k = ss.length := by omega
      have HA : Hid (Matched ss p (.returned (.tuple #[.string best, .bool fd]))) := ⟨best, fd, rfl, by
        have := HP.out.done
        rwa [List.take_of_length_le (Nat.le_refl _)] at this, by unfold maxLen; omega⟩
      go_wp2
      go_ret2
      exact ⟨HA.out, m, rfl⟩
end Go.Proofs.Qxb6605793a
