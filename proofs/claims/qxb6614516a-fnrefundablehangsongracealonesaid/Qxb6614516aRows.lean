/-
  No cell of these rows narrows 'for every input' (looked for: loops, veiled, ifaces, maps, wideKeys, modest, calm, conditions, laid).
  DERIVED. THE GIVEN ROWS OF THIS SEAT. 3 by the template 'for every input the law returns true; each argument reads behind the call as it read before'; 0 by the template 'total and deterministic' (their statements: Qxb6614516aTotals.lean).
  GIVEN WITH THE SEED: the statements are not yours to turn. If you find one false, say at which input.
  Laid BY PROGRAM, IN A SANDBOX (cutbox-rows.mjs): the forced cells as the released guide's own fill.sh prints them over the translation cd4ef27295e56c42… (all of the seat's roots in one cut). By AI agents, Wed Nov 11 2026. No macro, syntax, notation, axiom, sorry.
-/
import Derived.Test.Qxb6614516aChecked
import GoSem.Claim
import GoSem.ClaimJoined
import GoSem.ClaimMapViews
import Derived.JoinedTies
import Derived.KernelRfl
namespace Go.Proofs.Qxb6614516a
/- THE CELL 'sum', in the pinned program and in every row, IS THE sha256 OF THE DUMP (.gsa) THAT Qxb6614516aProg.lean LOADS. Nothing in Lean hashes anything: it is a label: what it is worth is what the hold of that sum in a sandbox is worth. -/
noncomputable def Try.pinned : Pinned := { name := "qxb6614516a", sum := "cd4ef27295e56c4274d03628bab24814bb47296b5eb370a2ca487b3f9b2247d5", checked := Try.checked }
namespace Rows
def none {H : Type} : Left H := { results := [], args := [] }

/-- 'zzlaws_internal_money_b1.FnRefundTwiceIsRefundOfSum': WHATEVER THE INPUT: true; the input reads as it did. -/
def fnRefundTwiceIsRefundOfSumSpec : ChangeSpec := { name := "fnRefundTwiceIsRefundOfSum", fn := fun _ => fun
  | [d1, d2, d3, d4, d5, d6] => { results := [.lit (.bool true)], args := [d1, d2, d3, d4, d5, d6] }
  | _ => none }
def fnRefundTwiceIsRefundOfSumRow : OpenClaim := { program := "qxb6614516a", sum := "cd4ef27295e56c4274d03628bab24814bb47296b5eb370a2ca487b3f9b2247d5", func := "example.com/bursar/bursar/zzlaws_internal_money_b1.FnRefundTwiceIsRefundOfSum", spec := "fnRefundTwiceIsRefundOfSum", apart := false }
def FnRefundTwiceIsRefundOfSumSaid : Prop := fnRefundTwiceIsRefundOfSumRow.holds Try.pinned (OpenSpec.ofChange fnRefundTwiceIsRefundOfSumSpec)

/-- ITS FALSE NEIGHBOUR: 'it returns false'. Refute it at one input. -/
def fnRefundTwiceIsRefundOfSumWrong : ChangeSpec := { name := "fnRefundTwiceIsRefundOfSum", fn := fun _ => fun
  | [d1, d2, d3, d4, d5, d6] => { results := [.lit (.bool false)], args := [d1, d2, d3, d4, d5, d6] }
  | _ => none }
def FnRefundTwiceIsRefundOfSumWrongFalsely : Prop := fnRefundTwiceIsRefundOfSumRow.holds Try.pinned (OpenSpec.ofChange fnRefundTwiceIsRefundOfSumWrong)

/-- 'zzlaws_internal_money_b1.FnRefundUndoneByNegatedRefund': WHATEVER THE INPUT: true; the input reads as it did. -/
def fnRefundUndoneByNegatedRefundSpec : ChangeSpec := { name := "fnRefundUndoneByNegatedRefund", fn := fun _ => fun
  | [d1, d2, d3, d4, d5] => { results := [.lit (.bool true)], args := [d1, d2, d3, d4, d5] }
  | _ => none }
def fnRefundUndoneByNegatedRefundRow : OpenClaim := { program := "qxb6614516a", sum := "cd4ef27295e56c4274d03628bab24814bb47296b5eb370a2ca487b3f9b2247d5", func := "example.com/bursar/bursar/zzlaws_internal_money_b1.FnRefundUndoneByNegatedRefund", spec := "fnRefundUndoneByNegatedRefund", apart := false }
def FnRefundUndoneByNegatedRefundSaid : Prop := fnRefundUndoneByNegatedRefundRow.holds Try.pinned (OpenSpec.ofChange fnRefundUndoneByNegatedRefundSpec)

/-- ITS FALSE NEIGHBOUR: 'it returns false'. Refute it at one input. -/
def fnRefundUndoneByNegatedRefundWrong : ChangeSpec := { name := "fnRefundUndoneByNegatedRefund", fn := fun _ => fun
  | [d1, d2, d3, d4, d5] => { results := [.lit (.bool false)], args := [d1, d2, d3, d4, d5] }
  | _ => none }
def FnRefundUndoneByNegatedRefundWrongFalsely : Prop := fnRefundUndoneByNegatedRefundRow.holds Try.pinned (OpenSpec.ofChange fnRefundUndoneByNegatedRefundWrong)

/-- 'zzlaws_internal_money_b1.FnRefundableHangsOnGraceAlone': WHATEVER THE INPUT: true; the input reads as it did. -/
def fnRefundableHangsOnGraceAloneSpec : ChangeSpec := { name := "fnRefundableHangsOnGraceAlone", fn := fun _ => fun
  | [d1, d2, d3, d4, d5, d6, d7, d8, d9, d10, d11] => { results := [.lit (.bool true)], args := [d1, d2, d3, d4, d5, d6, d7, d8, d9, d10, d11] }
  | _ => none }
def fnRefundableHangsOnGraceAloneRow : OpenClaim := { program := "qxb6614516a", sum := "cd4ef27295e56c4274d03628bab24814bb47296b5eb370a2ca487b3f9b2247d5", func := "example.com/bursar/bursar/zzlaws_internal_money_b1.FnRefundableHangsOnGraceAlone", spec := "fnRefundableHangsOnGraceAlone", apart := false }
def FnRefundableHangsOnGraceAloneSaid : Prop := fnRefundableHangsOnGraceAloneRow.holds Try.pinned (OpenSpec.ofChange fnRefundableHangsOnGraceAloneSpec)

/-- ITS FALSE NEIGHBOUR: 'it returns false'. Refute it at one input. -/
def fnRefundableHangsOnGraceAloneWrong : ChangeSpec := { name := "fnRefundableHangsOnGraceAlone", fn := fun _ => fun
  | [d1, d2, d3, d4, d5, d6, d7, d8, d9, d10, d11] => { results := [.lit (.bool false)], args := [d1, d2, d3, d4, d5, d6, d7, d8, d9, d10, d11] }
  | _ => none }
def FnRefundableHangsOnGraceAloneWrongFalsely : Prop := fnRefundableHangsOnGraceAloneRow.holds Try.pinned (OpenSpec.ofChange fnRefundableHangsOnGraceAloneWrong)

end Rows
end Go.Proofs.Qxb6614516a
