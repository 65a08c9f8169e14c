import Derived.Test.Qxb6614516aRows
import Derived.WalkKit
import Derived.WalkSpells
import Derived.WalkLawsBesides
namespace Go.Proofs.Qxb6614516a
open Go.RowKit

theorem ret_bool {a b : Bool} (h : a = b) : Ending.returned (.bool a) = .returned (.bool b) := by rw [h]
/-- The law's bound on the five strings. -/
def fits5 (a b c d g : ByteArray) : Bool := decide (a.size + b.size + c.size + d.size + g.size ≤ 1048576)

set_option maxRecDepth 20000 in
set_option maxHeartbeats 1000000 in
theorem zzbytes7_yes (a b c d g : ByteArray) (x y : Bool) (m n p q : Int) (w : World) (h : a.size + b.size + c.size + d.size + g.size ≤ 1048576) :
    Calls Try.prog 7 #[.string a, .string b, .bool x, .int .i64 m, .int .i64 n, .string c, .string d, .bool y, .int .i64 p, .int .i64 q, .string g] w fun e w' => e = .returned (.bool true) ∧ w' = w := by
  have h1 : ¬ ((1048576 : Int) < (a.size : Int)) := by omega
  have h2 : ¬ ((1048576 : Int) < (b.size : Int)) := by omega
  have h3 : ¬ ((1048576 : Int) < (c.size : Int)) := by omega
  have h4 : ¬ ((1048576 : Int) < (d.size : Int)) := by omega
  have h5 : ¬ ((1048576 : Int) < (g.size : Int)) := by omega
  have s2 : ¬ ((1048576 : Int) < (a.size : Int) + (b.size : Int)) := by omega
  have s3 : ¬ ((1048576 : Int) < (a.size : Int) + (b.size : Int) + (c.size : Int)) := by omega
  have s4 : ¬ ((1048576 : Int) < (a.size : Int) + (b.size : Int) + (c.size : Int) + (d.size : Int)) := by omega
  have s5 : ¬ ((1048576 : Int) < (a.size : Int) + (b.size : Int) + (c.size : Int) + (d.size : Int) + (g.size : Int)) := by omega
  go_enter Try.func7, Try.ntmps7
  go_wp2
  go_ret
  exact ⟨rfl, rfl⟩

set_option maxRecDepth 20000 in
set_option maxHeartbeats 2000000 in
theorem zzbytes7_no (a b c d g : ByteArray) (x y : Bool) (m n p q : Int) (w : World) (ha : a.size ≤ maxLen) (hb : b.size ≤ maxLen) (hc : c.size ≤ maxLen) (hd : d.size ≤ maxLen) (hg : g.size ≤ maxLen) (h : ¬ a.size + b.size + c.size + d.size + g.size ≤ 1048576) :
    Calls Try.prog 7 #[.string a, .string b, .bool x, .int .i64 m, .int .i64 n, .string c, .string d, .bool y, .int .i64 p, .int .i64 q, .string g] w fun e w' => e = .returned (.bool false) ∧ w' = w := by
  unfold maxLen at ha hb hc hd hg
  by_cases h1 : ((1048576 : Int) < (a.size : Int))
  · go_enter Try.func7, Try.ntmps7
    go_wp2
    go_ret
    exact ⟨rfl, rfl⟩
  by_cases h2 : ((1048576 : Int) < (b.size : Int))
  · go_enter Try.func7, Try.ntmps7
    go_wp2
    go_ret
    exact ⟨rfl, rfl⟩
  by_cases s2 : ((1048576 : Int) < (a.size : Int) + (b.size : Int))
  · go_enter Try.func7, Try.ntmps7
    go_wp2
    go_ret
    exact ⟨rfl, rfl⟩
  by_cases h3 : ((1048576 : Int) < (c.size : Int))
  · go_enter Try.func7, Try.ntmps7
    go_wp2
    go_ret
    exact ⟨rfl, rfl⟩
  by_cases s3 : ((1048576 : Int) < (a.size : Int) + (b.size : Int) + (c.size : Int))
  · go_enter Try.func7, Try.ntmps7
    go_wp2
    go_ret
    exact ⟨rfl, rfl⟩
  by_cases h4 : ((1048576 : Int) < (d.size : Int))
  · go_enter Try.func7, Try.ntmps7
    go_wp2
    go_ret
    exact ⟨rfl, rfl⟩
  by_cases s4 : ((1048576 : Int) < (a.size : Int) + (b.size : Int) + (c.size : Int) + (d.size : Int))
  · go_enter Try.func7, Try.ntmps7
    go_wp2
    go_ret
    exact ⟨rfl, rfl⟩
  by_cases h5 : ((1048576 : Int) < (g.size : Int))
  · go_enter Try.func7, Try.ntmps7
    go_wp2
    go_ret
    exact ⟨rfl, rfl⟩
  have s5 : ((1048576 : Int) < (a.size : Int) + (b.size : Int) + (c.size : Int) + (d.size : Int) + (g.size : Int)) := by omega
  go_enter Try.func7, Try.ntmps7
  go_wp2
  go_ret
  exact ⟨rfl, rfl⟩

set_option maxHeartbeats 400000 in
theorem class_any (s : ByteArray) (b : Bool) (w : World) :
    Calls Try.prog 8 #[.string s, .bool b] w fun e w' => (∃ o : Option Addr, e = .returned (.pointer o)) ∧ Below w.heap.size w w' := by
  cases b
  · go_enter Try.func8, Try.ntmps8
    go_wp2
    go_ret
    exact ⟨⟨_, rfl⟩, Below.refl _ _⟩
  · go_enter Try.func8, Try.ntmps8
    go_wp2
    go_ret
    exact ⟨⟨_, rfl⟩, (Below.refl _ _).alloc (Nat.le_refl _) _⟩

set_option maxHeartbeats 400000 in
theorem refundable_any (v : Bool) (c g : ByteArray) (p : Option Addr) (y f : Int) (w : World) (hv : decide (g.size ≠ 0) = v) :
    Calls Try.prog 9 #[.agg #[.string c, .pointer p, .int .i64 y, .int .i64 f, .string g]] w fun e w' => e = .returned (.bool v) ∧ w' = w.alloc (.cells #[.string c, .pointer p, .int .i64 y, .int .i64 f, .string g] 37) := by
  subst hv
  go_enter Try.func9, Try.ntmps9
  go_wp2
  go_ret
  refine ⟨ret_bool ?_, rfl⟩
  rw [ByteArray.toList_eq]
  obtain ⟨⟨l⟩⟩ := g
  cases l with
  | nil => rfl
  | cons x l => simp [ByteArray.size]
end Go.Proofs.Qxb6614516a
