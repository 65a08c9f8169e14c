import Derived.Test.Qxb6605793aSort
namespace Go.Proofs.Qxb6605793a
open Go.RowKit Go.Shelf Go.Sort Go.Lib
set_option linter.unusedVariables false

set_option maxHeartbeats 2000000 in
theorem insertion53 (p : Option Addr) (cap : Nat) (fv : Value) (w : World) :
    Calls Try.prog 53 #[.slice p 0 cap, .int .i64 0, .int .i64 0, fv] w fun e w' => e = .returned (.tuple #[]) ∧ w' = w := by
  go_enter Try.func53, Try.ntmps53
  go_wp2
  refine wp_loop_rounds 1 ?_
  rw [rounds_succ]
  go_wp2
  go_end0
  exact ⟨rfl, rfl⟩

set_option maxHeartbeats 2000000 in
theorem pdq41 (p : Option Addr) (cap : Nat) (lim : Int) (fv : Value) (w : World) :
    Calls Try.prog 41 #[.slice p 0 cap, .int .i64 0, .int .i64 0, .int .i64 lim, fv] w fun e w' => e = .returned (.tuple #[]) ∧ w' = w := by
  have e20 : ∀ args w, (callFunc 53 args).run Try.prog w = .ok (.enter 53 args) w := enters_of Try.func53 (by kernel_rfl) rfl
  have hi := fun W => insertion53 p cap fv W
  go_enter Try.func41, Try.ntmps41
  go_wp2
  refine wp_loop_rounds 1 ?_
  rw [rounds_succ]
  go_wp2_with (go_at_fn 53; refine (hi _).mono ?_; rintro e w' ⟨rfl, rfl⟩)
  (try simp only [Exit.inBlock, Exit.then]); refine bodyPost_ret (results_none rfl _ _ _) rfl ?_
  exact ⟨rfl, rfl⟩

set_option maxHeartbeats 2000000 in
/-- The sort at no element. -/
theorem sort31_none (p : Option Addr) (cap : Nat) (fv : Value) (w : World) :
    Calls Try.prog 31 #[.slice p 0 cap, fv] w fun e w' => e = .returned (.tuple #[]) ∧ w' = w := by
  have e14 : ∀ args w, (callFunc 41 args).run Try.prog w = .ok (.enter 41 args) w := enters_of Try.func41 (by kernel_rfl) rfl
  have e15 : ∀ args w, (callFunc 42 args).run Try.prog w = .ok (.enter 42 args) w := enters_of Try.func42 (by kernel_rfl) rfl
  have hp := fun lim W => pdq41 p cap lim fv W
  have hl : ∀ W, Calls Try.prog 42 #[.int .u64 0] W fun e w' => e = .returned (.int .i64 (Lib.bitLen 0 : Nat)) ∧ w' = W := fun W => by
    have h := Any.bits_Len (SlLaysF0.n15.bits (P := Try.prog) (ρ := Try.sortF_ren) { Try.sortF with }) 0 W (by omega) (by omega)
    exact h
  go_enter Try.func31, Try.ntmps31
  go_wp2_with (first | (go_at_fn 42; refine (hl _).mono ?_; rintro e w' ⟨rfl, rfl⟩) | (go_at_fn 41; refine (hp _ _).mono ?_; rintro e w' ⟨rfl, rfl⟩))
  go_end0
  exact ⟨rfl, rfl⟩
end Go.Proofs.Qxb6605793a
