import Derived.Test.Qxb6605670aRows
import Derived.WalkKit
import Derived.WalkSpells
import Derived.WalkLawsBesides
import Derived.Deep.QuietTactic
import Derived.BigQuiet
namespace Go.Proofs.Qxb6605670a
open Go.RowKit

/-- 'holds' as a plain function: every octet is in the set. -/
def hold (f : Nat → Bool) (l : List UInt8) : Bool := l.all fun c => f c.toNat

theorem take_snoc (s : ByteArray) (k : Nat) (h : k < s.size) : s.data.toList.take (k + 1) = s.data.toList.take k ++ [s[k]] := by
  rw [List.take_succ_eq_append_getElem (by simpa using h)]; rfl

theorem hold_snoc (f : Nat → Bool) (l : List UInt8) (c : UInt8) : hold f (l ++ [c]) = (hold f l && f c.toNat) := by
  simp [hold]

theorem hold_no (f : Nat → Bool) (s : ByteArray) (k : Nat) (h : k < s.size) (hf : f s[k].toNat = false) : hold f s.data.toList = false := by
  unfold hold
  rw [List.all_eq_false]
  exact ⟨s[k], by
    show s.data[k] ∈ s.data.toList
    simp, by simp [hf]⟩

theorem ret_bool {a b : Bool} (h : a = b) : Ending.returned (.bool a) = .returned (.bool b) := by rw [h]

set_option maxHeartbeats 400000 in
theorem holds_any (b : Nat) (f : Nat → Bool) (s : ByteArray) (w : World) (hs : s.size ≤ maxLen)
    (hc : ∀ c : Nat, c < 256 → w.cell? ⟨b, c, none⟩ = some (.bool (f c))) :
    Calls Try.prog 24 #[.pointer (some ⟨b, 0, none⟩), .string s] w fun e w' => e = .returned (.bool (hold f s.data.toList)) ∧ ∃ m, w' = w.drewN m := by
  unfold maxLen at hs
  go_enter Try.func24, Try.ntmps24
  go_wp2
  go_loopw [5] (fun i wr => ∃ k m : Nat, k ≤ s.size ∧ i = .int .i64 k ∧ hold f (s.data.toList.take k) = true ∧ wr = w.drewN m) (fun i _ => s.size - (intOf i).toNat)
  case atStart => exact ⟨0, 0, Nat.zero_le _, rfl, rfl, rfl⟩
  case round =>
    obtain ⟨k, m, hk, rfl, HH, rfl⟩ := hrel
    have HK : Hid (hold f (s.data.toList.take k) = true) := HH
    clear HH
    by_cases hlt : k < s.size
    · have hx := hc s[k].toNat (UInt8.toNat_lt _)
      have hx256 : (s[k].toNat : Int) < 256 := by have := UInt8.toNat_lt s[k]; omega
      clear hc
      cases hf : f s[k].toNat
      · have HN : Hid (hold f s.data.toList = false) := hold_no f s k hlt hf
        rw [hf] at hx
        clear hf
        go_wp2
        go_quiet (fail)
        go_wp2
        go_ret
        exact ⟨ret_bool HN.out.symm, m + nq, by rw [World.drewN_drewN]⟩
      · have HN : Hid (hold f (s.data.toList.take (k + 1)) = true) := by
          show _ = _
          rw [take_snoc s k hlt, hold_snoc, HK.out, hf]; rfl
        rw [hf] at hx
        clear hf
        go_wp2
        go_quiet (fail)
        go_wp2
        go_roundw
        case rel => exact ⟨k + 1, m + nq, by omega, by go_num, HN.out, rfl⟩
        case measure => simp [intOf]; omega
    · clear hc
      go_wp2
      go_ret
      exact ⟨ret_bool (by rw [← HK.out, List.take_of_length_le (by simp; omega)]), m, rfl⟩

set_option maxHeartbeats 400000 in
theorem zzholds_any (b : Nat) (f : Nat → Bool) (s : ByteArray) (w : World) (hs : s.size ≤ maxLen)
    (hc : ∀ c : Nat, c < 256 → w.cell? ⟨b, c, none⟩ = some (.bool (f c))) :
    Calls Try.prog 15 #[.pointer (some ⟨b, 0, none⟩), .string s] w fun e w' => e = .returned (.bool (hold f s.data.toList)) ∧ ∃ m, w' = w.drewN m := by
  have HH : Hid (∀ c : Nat, c < 256 → w.cell? ⟨b, c, none⟩ = some (.bool (f c))) := hc
  clear hc
  go_enter Try.func15, Try.ntmps15
  go_wp2_with fail
  refine (holds_any b f s _ hs HH.out).mono ?_
  rintro e w' ⟨rfl, m, rfl⟩
  go_wp2
  go_ret
  exact ⟨rfl, m, rfl⟩

/-- The 256 cells of a set. -/
def tab (f : Nat → Bool) : Array Value := Array.ofFn (n := 256) fun i => .bool (f i.val)
theorem tab_size (f : Nat → Bool) : (tab f).size = 256 := by simp [tab]
theorem tab_get (f : Nat → Bool) (j : Nat) (h : j < 256) : (tab f)[j]? = some (.bool (f j)) := by simp [tab, h]
theorem tab_one (f : Nat → Bool) : (tab f).all (·.oneCell') = true := by
  rw [Array.all_eq_true_iff_forall_mem]
  intro x hx
  simp [tab] at hx
  obtain ⟨i, rfl⟩ := hx
  rfl

set_option maxHeartbeats 400000 in
theorem zzbytes14 (f : Nat → Bool) (s : ByteArray) (w : World) (hs : s.size ≤ maxLen) :
    Calls Try.prog 14 #[.agg (tab f), .string s] w fun e w' => e = .returned (.bool (decide (s.size ≤ 1048576))) ∧ w' = w.alloc (.cells (tab f) 26) := by
  unfold maxLen at hs
  by_cases h : s.size ≤ 1048576
  · have h1 : ¬ ((1048576 : Int) < (s.size : Int)) := by omega
    go_enter Try.func14, Try.ntmps14
    go_wp2
    go_ret
    exact ⟨by simp, rfl⟩
  · have h1 : ((1048576 : Int) < (s.size : Int)) := by omega
    go_enter Try.func14, Try.ntmps14
    go_wp2
    go_ret
    exact ⟨by simp [h], rfl⟩
end Go.Proofs.Qxb6605670a
