/-
  No cell of these rows narrows 'for every input' (looked for: loops, veiled, ifaces, maps, wideKeys, modest, calm, conditions, laid).
  DERIVED. THE GIVEN ROWS OF THIS SEAT. 6 by the template 'for every input the law returns true; each argument reads behind the call as it read before'; 0 by the template 'total and deterministic' (their statements: Qxb6600935aModsTotals.lean).
  GIVEN WITH THE SEED: the statements are not yours to turn. If you find one false, say at which input.
  Laid BY PROGRAM, IN A SANDBOX (cutbox-rows.mjs): the forced cells as the released guide's own fill.sh prints them over the translation bab2136535f40a1d… (all of the seat's roots in one cut). By AI agents, Wed Nov 11 2026. No macro, syntax, notation, axiom, sorry.
-/
import Derived.Test.Qxb6600935aModsChecked
import GoSem.Claim
import GoSem.ClaimJoined
import GoSem.ClaimMapViews
import Derived.JoinedTies
import Derived.KernelRfl
namespace Go.Proofs.Qxb6600935aMods
/- THE CELL 'sum', in the pinned program and in every row, IS THE sha256 OF THE DUMP (.gsa) THAT Qxb6600935aModsProg.lean LOADS. Nothing in Lean hashes anything: it is a label: what it is worth is what the hold of that sum in a sandbox is worth. -/
noncomputable def Trym.pinned : Pinned := { name := "qxb6600935amods", sum := "bab2136535f40a1d49841dec0b2b7bacdafecc3e9fcda832ea4104690aff8067", checked := Trym.checked }
namespace Rows
def none {H : Type} : Left H := { results := [], args := [] }

/-- 'zzlaws_workflow_b1.FnNextBandedRowsMatchOSADistance': WHATEVER THE INPUT: true; the input reads as it did. -/
def fnNextBandedRowsMatchOSADistanceSpec : ChangeSpec := { name := "fnNextBandedRowsMatchOSADistance", fn := fun _ => fun
  | [d1, d2, d3, d4] => { results := [.lit (.bool true)], args := [d1, d2, d3, d4] }
  | _ => none }
def fnNextBandedRowsMatchOSADistanceRow : OpenClaim := { program := "qxb6600935amods", sum := "bab2136535f40a1d49841dec0b2b7bacdafecc3e9fcda832ea4104690aff8067", func := "example.com/baton/baton/zzlaws_workflow_b1.FnNextBandedRowsMatchOSADistance", spec := "fnNextBandedRowsMatchOSADistance", make := .lifted ["publicsums"], apart := false }
def FnNextBandedRowsMatchOSADistanceSaid : Prop := fnNextBandedRowsMatchOSADistanceRow.holds Trym.pinned (OpenSpec.ofChange fnNextBandedRowsMatchOSADistanceSpec)

/-- ITS FALSE NEIGHBOUR: 'it returns false'. Refute it at one input. -/
def fnNextBandedRowsMatchOSADistanceWrong : ChangeSpec := { name := "fnNextBandedRowsMatchOSADistance", fn := fun _ => fun
  | [d1, d2, d3, d4] => { results := [.lit (.bool false)], args := [d1, d2, d3, d4] }
  | _ => none }
def FnNextBandedRowsMatchOSADistanceWrongFalsely : Prop := fnNextBandedRowsMatchOSADistanceRow.holds Trym.pinned (OpenSpec.ofChange fnNextBandedRowsMatchOSADistanceWrong)

/-- 'zzlaws_workflow_b1.FnNextBudgetRefusesOrAgrees': WHATEVER THE INPUT: true; the input reads as it did. -/
def fnNextBudgetRefusesOrAgreesSpec : ChangeSpec := { name := "fnNextBudgetRefusesOrAgrees", fn := fun _ => fun
  | [d1, d2, d3, d4, d5, d6, d7, d8, d9] => { results := [.lit (.bool true)], args := [d1, d2, d3, d4, d5, d6, d7, d8, d9] }
  | _ => none }
def fnNextBudgetRefusesOrAgreesRow : OpenClaim := { program := "qxb6600935amods", sum := "bab2136535f40a1d49841dec0b2b7bacdafecc3e9fcda832ea4104690aff8067", func := "example.com/baton/baton/zzlaws_workflow_b1.FnNextBudgetRefusesOrAgrees", spec := "fnNextBudgetRefusesOrAgrees", make := .lifted ["publicsums"], apart := false }
def FnNextBudgetRefusesOrAgreesSaid : Prop := fnNextBudgetRefusesOrAgreesRow.holds Trym.pinned (OpenSpec.ofChange fnNextBudgetRefusesOrAgreesSpec)

/-- ITS FALSE NEIGHBOUR: 'it returns false'. Refute it at one input. -/
def fnNextBudgetRefusesOrAgreesWrong : ChangeSpec := { name := "fnNextBudgetRefusesOrAgrees", fn := fun _ => fun
  | [d1, d2, d3, d4, d5, d6, d7, d8, d9] => { results := [.lit (.bool false)], args := [d1, d2, d3, d4, d5, d6, d7, d8, d9] }
  | _ => none }
def FnNextBudgetRefusesOrAgreesWrongFalsely : Prop := fnNextBudgetRefusesOrAgreesRow.holds Trym.pinned (OpenSpec.ofChange fnNextBudgetRefusesOrAgreesWrong)

/-- 'zzlaws_workflow_b1.FnNextRowOutOfReachStaysOut': WHATEVER THE INPUT: true; the input reads as it did. -/
def fnNextRowOutOfReachStaysOutSpec : ChangeSpec := { name := "fnNextRowOutOfReachStaysOut", fn := fun _ => fun
  | [d1, d2, d3, d4] => { results := [.lit (.bool true)], args := [d1, d2, d3, d4] }
  | _ => none }
def fnNextRowOutOfReachStaysOutRow : OpenClaim := { program := "qxb6600935amods", sum := "bab2136535f40a1d49841dec0b2b7bacdafecc3e9fcda832ea4104690aff8067", func := "example.com/baton/baton/zzlaws_workflow_b1.FnNextRowOutOfReachStaysOut", spec := "fnNextRowOutOfReachStaysOut", make := .lifted ["publicsums"], apart := false }
def FnNextRowOutOfReachStaysOutSaid : Prop := fnNextRowOutOfReachStaysOutRow.holds Trym.pinned (OpenSpec.ofChange fnNextRowOutOfReachStaysOutSpec)

/-- ITS FALSE NEIGHBOUR: 'it returns false'. Refute it at one input. -/
def fnNextRowOutOfReachStaysOutWrong : ChangeSpec := { name := "fnNextRowOutOfReachStaysOut", fn := fun _ => fun
  | [d1, d2, d3, d4] => { results := [.lit (.bool false)], args := [d1, d2, d3, d4] }
  | _ => none }
def FnNextRowOutOfReachStaysOutWrongFalsely : Prop := fnNextRowOutOfReachStaysOutRow.holds Trym.pinned (OpenSpec.ofChange fnNextRowOutOfReachStaysOutWrong)

/-- 'zzlaws_workflow_b1.FnCompareSwapIsDeletion': WHATEVER THE INPUT: true; the input reads as it did. -/
def fnCompareSwapIsDeletionSpec : ChangeSpec := { name := "fnCompareSwapIsDeletion", fn := fun _ => fun
  | [d1, d2, d3, d4, d5] => { results := [.lit (.bool true)], args := [d1, d2, d3, d4, d5] }
  | _ => none }
def fnCompareSwapIsDeletionRow : OpenClaim := { program := "qxb6600935amods", sum := "bab2136535f40a1d49841dec0b2b7bacdafecc3e9fcda832ea4104690aff8067", func := "example.com/baton/baton/zzlaws_workflow_b1.FnCompareSwapIsDeletion", spec := "fnCompareSwapIsDeletion", make := .lifted ["publicsums"], apart := false }
def FnCompareSwapIsDeletionSaid : Prop := fnCompareSwapIsDeletionRow.holds Trym.pinned (OpenSpec.ofChange fnCompareSwapIsDeletionSpec)

/-- ITS FALSE NEIGHBOUR: 'it returns false'. Refute it at one input. -/
def fnCompareSwapIsDeletionWrong : ChangeSpec := { name := "fnCompareSwapIsDeletion", fn := fun _ => fun
  | [d1, d2, d3, d4, d5] => { results := [.lit (.bool false)], args := [d1, d2, d3, d4, d5] }
  | _ => none }
def FnCompareSwapIsDeletionWrongFalsely : Prop := fnCompareSwapIsDeletionRow.holds Trym.pinned (OpenSpec.ofChange fnCompareSwapIsDeletionWrong)

/-- 'zzlaws_workflow_b1.FnWalkMatchesRecursiveDFS': WHATEVER THE INPUT: true; the input reads as it did. -/
def fnWalkMatchesRecursiveDFSSpec : ChangeSpec := { name := "fnWalkMatchesRecursiveDFS", fn := fun _ => fun
  | [d1, d2, d3] => { results := [.lit (.bool true)], args := [d1, d2, d3] }
  | _ => none }
def fnWalkMatchesRecursiveDFSRow : OpenClaim := { program := "qxb6600935amods", sum := "bab2136535f40a1d49841dec0b2b7bacdafecc3e9fcda832ea4104690aff8067", func := "example.com/baton/baton/zzlaws_workflow_b1.FnWalkMatchesRecursiveDFS", spec := "fnWalkMatchesRecursiveDFS", unfollowed := true, recurses := true, make := .lifted ["publicsums"], apart := false }
def FnWalkMatchesRecursiveDFSSaid : Prop := fnWalkMatchesRecursiveDFSRow.holds Trym.pinned (OpenSpec.ofChange fnWalkMatchesRecursiveDFSSpec)

/-- ITS FALSE NEIGHBOUR: 'it returns false'. Refute it at one input. -/
def fnWalkMatchesRecursiveDFSWrong : ChangeSpec := { name := "fnWalkMatchesRecursiveDFS", fn := fun _ => fun
  | [d1, d2, d3] => { results := [.lit (.bool false)], args := [d1, d2, d3] }
  | _ => none }
def FnWalkMatchesRecursiveDFSWrongFalsely : Prop := fnWalkMatchesRecursiveDFSRow.holds Trym.pinned (OpenSpec.ofChange fnWalkMatchesRecursiveDFSWrong)

/-- 'zzlaws_workflow_b1.FnWalkVisitsNestAndCoverReach': WHATEVER THE INPUT: true; the input reads as it did. -/
def fnWalkVisitsNestAndCoverReachSpec : ChangeSpec := { name := "fnWalkVisitsNestAndCoverReach", fn := fun _ => fun
  | [d1, d2, d3] => { results := [.lit (.bool true)], args := [d1, d2, d3] }
  | _ => none }
def fnWalkVisitsNestAndCoverReachRow : OpenClaim := { program := "qxb6600935amods", sum := "bab2136535f40a1d49841dec0b2b7bacdafecc3e9fcda832ea4104690aff8067", func := "example.com/baton/baton/zzlaws_workflow_b1.FnWalkVisitsNestAndCoverReach", spec := "fnWalkVisitsNestAndCoverReach", unfollowed := true, recurses := true, make := .lifted ["publicsums"], apart := false }
def FnWalkVisitsNestAndCoverReachSaid : Prop := fnWalkVisitsNestAndCoverReachRow.holds Trym.pinned (OpenSpec.ofChange fnWalkVisitsNestAndCoverReachSpec)

/-- ITS FALSE NEIGHBOUR: 'it returns false'. Refute it at one input. -/
def fnWalkVisitsNestAndCoverReachWrong : ChangeSpec := { name := "fnWalkVisitsNestAndCoverReach", fn := fun _ => fun
  | [d1, d2, d3] => { results := [.lit (.bool false)], args := [d1, d2, d3] }
  | _ => none }
def FnWalkVisitsNestAndCoverReachWrongFalsely : Prop := fnWalkVisitsNestAndCoverReachRow.holds Trym.pinned (OpenSpec.ofChange fnWalkVisitsNestAndCoverReachWrong)

end Rows
end Go.Proofs.Qxb6600935aMods
