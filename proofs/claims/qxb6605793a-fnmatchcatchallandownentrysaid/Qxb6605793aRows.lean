/-
  No cell of these rows narrows 'for every input' (looked for: loops, veiled, ifaces, maps, wideKeys, modest, calm, conditions, laid).
  DERIVED. THE GIVEN ROWS OF THIS SEAT. 4 by the template 'for every input the law returns true; each argument reads behind the call as it read before'; 0 by the template 'total and deterministic' (their statements: Qxb6605793aTotals.lean).
  GIVEN WITH THE SEED: the statements are not yours to turn. If you find one false, say at which input.
  Laid BY PROGRAM, IN A SANDBOX (cutbox-rows.mjs): the forced cells as the released guide's own fill.sh prints them over the translation 39431814dacc44dc… (all of the seat's roots in one cut). By AI agents, Wed Nov 11 2026. No macro, syntax, notation, axiom, sorry.
-/
import Derived.Test.Qxb6605793aChecked
import GoSem.Claim
import GoSem.ClaimJoined
import GoSem.ClaimMapViews
import Derived.JoinedTies
import Derived.KernelRfl
namespace Go.Proofs.Qxb6605793a
/- THE CELL 'sum', in the pinned program and in every row, IS THE sha256 OF THE DUMP (.gsa) THAT Qxb6605793aProg.lean LOADS. Nothing in Lean hashes anything: it is a label: what it is worth is what the hold of that sum in a sandbox is worth. -/
noncomputable def Try.pinned : Pinned := { name := "qxb6605793a", sum := "39431814dacc44dcde42d36a700f899df61dd493f828d15375f961d824458f71", checked := Try.checked }
namespace Rows
def none {H : Type} : Left H := { results := [], args := [] }

/-- 'zzlaws_internal_budget_b1.FnMatchIsExactElseLongestPattern': WHATEVER THE INPUT: true; the input reads as it did. -/
def fnMatchIsExactElseLongestPatternSpec : ChangeSpec := { name := "fnMatchIsExactElseLongestPattern", fn := fun _ => fun
  | [d1, d2] => { results := [.lit (.bool true)], args := [d1, d2] }
  | _ => none }
def fnMatchIsExactElseLongestPatternRow : OpenClaim := { program := "qxb6605793a", sum := "39431814dacc44dcde42d36a700f899df61dd493f828d15375f961d824458f71", func := "example.com/lachesis/lachesis/zzlaws_internal_budget_b1.FnMatchIsExactElseLongestPattern", spec := "fnMatchIsExactElseLongestPattern", unfollowed := true, recurses := true, apart := false }
def FnMatchIsExactElseLongestPatternSaid : Prop := fnMatchIsExactElseLongestPatternRow.holds Try.pinned (OpenSpec.ofChange fnMatchIsExactElseLongestPatternSpec)

/-- ITS FALSE NEIGHBOUR: 'it returns false'. Refute it at one input. -/
def fnMatchIsExactElseLongestPatternWrong : ChangeSpec := { name := "fnMatchIsExactElseLongestPattern", fn := fun _ => fun
  | [d1, d2] => { results := [.lit (.bool false)], args := [d1, d2] }
  | _ => none }
def FnMatchIsExactElseLongestPatternWrongFalsely : Prop := fnMatchIsExactElseLongestPatternRow.holds Try.pinned (OpenSpec.ofChange fnMatchIsExactElseLongestPatternWrong)

/-- 'zzlaws_internal_budget_b1.FnMatchCatchAllAndOwnEntry': WHATEVER THE INPUT: true; the input reads as it did. -/
def fnMatchCatchAllAndOwnEntrySpec : ChangeSpec := { name := "fnMatchCatchAllAndOwnEntry", fn := fun _ => fun
  | [d1, d2] => { results := [.lit (.bool true)], args := [d1, d2] }
  | _ => none }
def fnMatchCatchAllAndOwnEntryRow : OpenClaim := { program := "qxb6605793a", sum := "39431814dacc44dcde42d36a700f899df61dd493f828d15375f961d824458f71", func := "example.com/lachesis/lachesis/zzlaws_internal_budget_b1.FnMatchCatchAllAndOwnEntry", spec := "fnMatchCatchAllAndOwnEntry", unfollowed := true, recurses := true, apart := false }
def FnMatchCatchAllAndOwnEntrySaid : Prop := fnMatchCatchAllAndOwnEntryRow.holds Try.pinned (OpenSpec.ofChange fnMatchCatchAllAndOwnEntrySpec)

/-- ITS FALSE NEIGHBOUR: 'it returns false'. Refute it at one input. -/
def fnMatchCatchAllAndOwnEntryWrong : ChangeSpec := { name := "fnMatchCatchAllAndOwnEntry", fn := fun _ => fun
  | [d1, d2] => { results := [.lit (.bool false)], args := [d1, d2] }
  | _ => none }
def FnMatchCatchAllAndOwnEntryWrongFalsely : Prop := fnMatchCatchAllAndOwnEntryRow.holds Try.pinned (OpenSpec.ofChange fnMatchCatchAllAndOwnEntryWrong)

/-- 'zzlaws_internal_budget_b1.FnHeaderIsOneLiveMap': WHATEVER THE INPUT: true; the input reads as it did. -/
def fnHeaderIsOneLiveMapSpec : ChangeSpec := { name := "fnHeaderIsOneLiveMap", fn := fun _ => fun
  | [d1, d2] => { results := [.lit (.bool true)], args := [d1, d2] }
  | _ => none }
def fnHeaderIsOneLiveMapRow : OpenClaim := { program := "qxb6605793a", sum := "39431814dacc44dcde42d36a700f899df61dd493f828d15375f961d824458f71", func := "example.com/lachesis/lachesis/zzlaws_internal_budget_b1.FnHeaderIsOneLiveMap", spec := "fnHeaderIsOneLiveMap", apart := false }
def FnHeaderIsOneLiveMapSaid : Prop := fnHeaderIsOneLiveMapRow.holds Try.pinned (OpenSpec.ofChange fnHeaderIsOneLiveMapSpec)

/-- ITS FALSE NEIGHBOUR: 'it returns false'. Refute it at one input. -/
def fnHeaderIsOneLiveMapWrong : ChangeSpec := { name := "fnHeaderIsOneLiveMap", fn := fun _ => fun
  | [d1, d2] => { results := [.lit (.bool false)], args := [d1, d2] }
  | _ => none }
def FnHeaderIsOneLiveMapWrongFalsely : Prop := fnHeaderIsOneLiveMapRow.holds Try.pinned (OpenSpec.ofChange fnHeaderIsOneLiveMapWrong)

/-- 'zzlaws_internal_budget_b1.FnHeaderFixedAtWriteHeader': WHATEVER THE INPUT: true; the input reads as it did. -/
def fnHeaderFixedAtWriteHeaderSpec : ChangeSpec := { name := "fnHeaderFixedAtWriteHeader", fn := fun _ => fun
  | [d1, d2, d3, d4, d5] => { results := [.lit (.bool true)], args := [d1, d2, d3, d4, d5] }
  | _ => none }
def fnHeaderFixedAtWriteHeaderRow : OpenClaim := { program := "qxb6605793a", sum := "39431814dacc44dcde42d36a700f899df61dd493f828d15375f961d824458f71", func := "example.com/lachesis/lachesis/zzlaws_internal_budget_b1.FnHeaderFixedAtWriteHeader", spec := "fnHeaderFixedAtWriteHeader", inPlace := ["(*internal/sync.Mutex).Lock", "internal/race.Disable", "sync/atomic.CompareAndSwapInt32", "internal/race.Enable", "internal/race.Acquire", "(*internal/sync.Mutex).lockSlow", "internal/sync.runtime_canSpin", "internal/sync.runtime_doSpin", "internal/sync.throw", "internal/sync.runtime_nanotime", "internal/sync.runtime_SemacquireMutex", "sync/atomic.AddInt32", "(*internal/sync.Mutex).Unlock", "internal/race.ReleaseMerge", "(*internal/sync.Mutex).unlockSlow", "internal/sync.fatal", "internal/sync.runtime_Semrelease"], apart := false }
def FnHeaderFixedAtWriteHeaderSaid : Prop := fnHeaderFixedAtWriteHeaderRow.holds Try.pinned (OpenSpec.ofChange fnHeaderFixedAtWriteHeaderSpec)

/-- ITS FALSE NEIGHBOUR: 'it returns false'. Refute it at one input. -/
def fnHeaderFixedAtWriteHeaderWrong : ChangeSpec := { name := "fnHeaderFixedAtWriteHeader", fn := fun _ => fun
  | [d1, d2, d3, d4, d5] => { results := [.lit (.bool false)], args := [d1, d2, d3, d4, d5] }
  | _ => none }
def FnHeaderFixedAtWriteHeaderWrongFalsely : Prop := fnHeaderFixedAtWriteHeaderRow.holds Try.pinned (OpenSpec.ofChange fnHeaderFixedAtWriteHeaderWrong)

end Rows
end Go.Proofs.Qxb6605793a
