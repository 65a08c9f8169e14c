import Derived.Test.Qxb6605793aRec
namespace Go.Proofs.Qxb6605793a
open Go.RowKit

theorem ret_bool {a b : Bool} (h : a = b) : Ending.returned (.bool a) = .returned (.bool b) := by rw [h]
/-- The law's bound on the four strings. -/
def fits4 (a b c d : ByteArray) : Bool := decide (a.size + b.size + c.size + d.size ≤ 1048576)

set_option maxHeartbeats 1000000 in
theorem zzbytes19 (code : Int) (a b c d : ByteArray) (w : World) (ha : a.size ≤ maxLen) (hb : b.size ≤ maxLen) (hc : c.size ≤ maxLen) (hd : d.size ≤ maxLen) :
    Calls Try.prog 19 #[.int .i64 code, .string a, .string b, .string c, .string d] w fun e w' => e = .returned (.bool (fits4 a b c d)) ∧ w' = w := by
  unfold maxLen at ha hb hc hd
  by_cases h : a.size + b.size + c.size + d.size ≤ 1048576
  · have HF : Hid (fits4 a b c d = true) := by show _ = _; simp [fits4, h]
    have h1 : ¬ ((1048576 : Int) < (a.size : Int)) := by omega
    have h2 : ¬ ((1048576 : Int) < (b.size : Int)) := by omega
    have h3 : ¬ ((1048576 : Int) < (c.size : Int)) := by omega
    have h4 : ¬ ((1048576 : Int) < (d.size : Int)) := by omega
    have h5 : ¬ ((1048576 : Int) < (a.size : Int) + (b.size : Int)) := by omega
    have h6 : ¬ ((1048576 : Int) < (a.size : Int) + (b.size : Int) + (c.size : Int)) := by omega
    have h7 : ¬ ((1048576 : Int) < (a.size : Int) + (b.size : Int) + (c.size : Int) + (d.size : Int)) := by omega
    go_enter Try.func19, Try.ntmps19
    go_wp2
    go_ret
    exact ⟨ret_bool HF.out.symm, rfl⟩
  · have HF : Hid (fits4 a b c d = false) := by show _ = _; simp [fits4]; omega
    by_cases h1 : ((1048576 : Int) < (a.size : Int))
    · go_enter Try.func19, Try.ntmps19
      go_wp2
      go_ret
      exact ⟨ret_bool HF.out.symm, rfl⟩
    by_cases h2 : ((1048576 : Int) < (b.size : Int))
    · go_enter Try.func19, Try.ntmps19
      go_wp2
      go_ret
      exact ⟨ret_bool HF.out.symm, rfl⟩
    by_cases h5 : ((1048576 : Int) < (a.size : Int) + (b.size : Int))
    · go_enter Try.func19, Try.ntmps19
      go_wp2
      go_ret
      exact ⟨ret_bool HF.out.symm, rfl⟩
    by_cases h3 : ((1048576 : Int) < (c.size : Int))
    · go_enter Try.func19, Try.ntmps19
      go_wp2
      go_ret
      exact ⟨ret_bool HF.out.symm, rfl⟩
    by_cases h6 : ((1048576 : Int) < (a.size : Int) + (b.size : Int) + (c.size : Int))
    · go_enter Try.func19, Try.ntmps19
      go_wp2
      go_ret
      exact ⟨ret_bool HF.out.symm, rfl⟩
    by_cases h4 : ((1048576 : Int) < (d.size : Int))
    · go_enter Try.func19, Try.ntmps19
      go_wp2
      go_ret
      exact ⟨ret_bool HF.out.symm, rfl⟩
    have h7 : ((1048576 : Int) < (a.size : Int) + (b.size : Int) + (c.size : Int) + (d.size : Int)) := by omega
    go_enter Try.func19, Try.ntmps19
    go_wp2
    go_ret
    exact ⟨ret_bool HF.out.symm, rfl⟩
end Go.Proofs.Qxb6605793a
