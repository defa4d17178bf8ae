/-
  No cell of these rows narrows 'for every input' (looked for: loops, veiled, ifaces, maps, wideKeys, modest, calm, conditions, laid).
  DERIVED. THE GIVEN ROWS OF THIS SEAT. 6 by the template 'for every input the law returns true; each argument reads behind the call as it read before'; 0 by the template 'total and deterministic' (their statements: Qxb6604085aModsTotals.lean).
  GIVEN WITH THE SEED: the statements are not yours to turn. If you find one false, say at which input.
  Laid BY PROGRAM, IN A SANDBOX (cutbox-rows.mjs): the forced cells as the released guide's own fill.sh prints them over the translation 06c663009e997da4… (all of the seat's roots in one cut). By AI agents, Wed Nov 11 2026. No macro, syntax, notation, axiom, sorry.
-/
import Derived.Test.Qxb6604085aModsChecked
import GoSem.Claim
import GoSem.ClaimJoined
import GoSem.ClaimMapViews
import Derived.JoinedTies
import Derived.KernelRfl
namespace Go.Proofs.Qxb6604085aMods
/- THE CELL 'sum', in the pinned program and in every row, IS THE sha256 OF THE DUMP (.gsa) THAT Qxb6604085aModsProg.lean LOADS. Nothing in Lean hashes anything: it is a label: what it is worth is what the hold of that sum in a sandbox is worth. -/
noncomputable def Trym.pinned : Pinned := { name := "qxb6604085amods", sum := "06c663009e997da401c74375bd09d1538dd724ca714bc4c5542a43ed1049cd42", checked := Trym.checked }
namespace Rows
def none {H : Type} : Left H := { results := [], args := [] }

/-- 'zzlaws_splice_b1.FnAppendPackedBitModel': WHATEVER THE INPUT: true; the input reads as it did. -/
def fnAppendPackedBitModelSpec : ChangeSpec := { name := "fnAppendPackedBitModel", fn := fun _ => fun
  | [d1, d2] => { results := [.lit (.bool true)], args := [d1, d2] }
  | _ => none }
def fnAppendPackedBitModelRow : OpenClaim := { program := "qxb6604085amods", sum := "06c663009e997da401c74375bd09d1538dd724ca714bc4c5542a43ed1049cd42", func := "example.com/splicewire/splicewire/zzlaws_splice_b1.FnAppendPackedBitModel", spec := "fnAppendPackedBitModel", make := .lifted ["publicsums"], apart := false }
def FnAppendPackedBitModelSaid : Prop := fnAppendPackedBitModelRow.holds Trym.pinned (OpenSpec.ofChange fnAppendPackedBitModelSpec)

/-- ITS FALSE NEIGHBOUR: 'it returns false'. Refute it at one input. -/
def fnAppendPackedBitModelWrong : ChangeSpec := { name := "fnAppendPackedBitModel", fn := fun _ => fun
  | [d1, d2] => { results := [.lit (.bool false)], args := [d1, d2] }
  | _ => none }
def FnAppendPackedBitModelWrongFalsely : Prop := fnAppendPackedBitModelRow.holds Trym.pinned (OpenSpec.ofChange fnAppendPackedBitModelWrong)

/-- 'zzlaws_splice_b1.FnVtInsertMatchesSearch': WHATEVER THE INPUT: true; the input reads as it did. -/
def fnVtInsertMatchesSearchSpec : ChangeSpec := { name := "fnVtInsertMatchesSearch", fn := fun _ => fun
  | [d1, d2] => { results := [.lit (.bool true)], args := [d1, d2] }
  | _ => none }
def fnVtInsertMatchesSearchRow : OpenClaim := { program := "qxb6604085amods", sum := "06c663009e997da401c74375bd09d1538dd724ca714bc4c5542a43ed1049cd42", func := "example.com/splicewire/splicewire/zzlaws_splice_b1.FnVtInsertMatchesSearch", spec := "fnVtInsertMatchesSearch", make := .lifted ["publicsums"], apart := false }
def FnVtInsertMatchesSearchSaid : Prop := fnVtInsertMatchesSearchRow.holds Trym.pinned (OpenSpec.ofChange fnVtInsertMatchesSearchSpec)

/-- ITS FALSE NEIGHBOUR: 'it returns false'. Refute it at one input. -/
def fnVtInsertMatchesSearchWrong : ChangeSpec := { name := "fnVtInsertMatchesSearch", fn := fun _ => fun
  | [d1, d2] => { results := [.lit (.bool false)], args := [d1, d2] }
  | _ => none }
def FnVtInsertMatchesSearchWrongFalsely : Prop := fnVtInsertMatchesSearchRow.holds Trym.pinned (OpenSpec.ofChange fnVtInsertMatchesSearchWrong)

/-- 'zzlaws_splice_b1.FnVtInsertCorrectsOneDeletion': WHATEVER THE INPUT: true; the input reads as it did. -/
def fnVtInsertCorrectsOneDeletionSpec : ChangeSpec := { name := "fnVtInsertCorrectsOneDeletion", fn := fun _ => fun
  | [d1, d2] => { results := [.lit (.bool true)], args := [d1, d2] }
  | _ => none }
def fnVtInsertCorrectsOneDeletionRow : OpenClaim := { program := "qxb6604085amods", sum := "06c663009e997da401c74375bd09d1538dd724ca714bc4c5542a43ed1049cd42", func := "example.com/splicewire/splicewire/zzlaws_splice_b1.FnVtInsertCorrectsOneDeletion", spec := "fnVtInsertCorrectsOneDeletion", make := .lifted ["publicsums"], apart := false }
def FnVtInsertCorrectsOneDeletionSaid : Prop := fnVtInsertCorrectsOneDeletionRow.holds Trym.pinned (OpenSpec.ofChange fnVtInsertCorrectsOneDeletionSpec)

/-- ITS FALSE NEIGHBOUR: 'it returns false'. Refute it at one input. -/
def fnVtInsertCorrectsOneDeletionWrong : ChangeSpec := { name := "fnVtInsertCorrectsOneDeletion", fn := fun _ => fun
  | [d1, d2] => { results := [.lit (.bool false)], args := [d1, d2] }
  | _ => none }
def FnVtInsertCorrectsOneDeletionWrongFalsely : Prop := fnVtInsertCorrectsOneDeletionRow.holds Trym.pinned (OpenSpec.ofChange fnVtInsertCorrectsOneDeletionWrong)

/-- 'zzlaws_splice_b1.FnVtDeleteMatchesSearch': WHATEVER THE INPUT: true; the input reads as it did. -/
def fnVtDeleteMatchesSearchSpec : ChangeSpec := { name := "fnVtDeleteMatchesSearch", fn := fun _ => fun
  | [d1, d2] => { results := [.lit (.bool true)], args := [d1, d2] }
  | _ => none }
def fnVtDeleteMatchesSearchRow : OpenClaim := { program := "qxb6604085amods", sum := "06c663009e997da401c74375bd09d1538dd724ca714bc4c5542a43ed1049cd42", func := "example.com/splicewire/splicewire/zzlaws_splice_b1.FnVtDeleteMatchesSearch", spec := "fnVtDeleteMatchesSearch", make := .lifted ["publicsums"], apart := false }
def FnVtDeleteMatchesSearchSaid : Prop := fnVtDeleteMatchesSearchRow.holds Trym.pinned (OpenSpec.ofChange fnVtDeleteMatchesSearchSpec)

/-- ITS FALSE NEIGHBOUR: 'it returns false'. Refute it at one input. -/
def fnVtDeleteMatchesSearchWrong : ChangeSpec := { name := "fnVtDeleteMatchesSearch", fn := fun _ => fun
  | [d1, d2] => { results := [.lit (.bool false)], args := [d1, d2] }
  | _ => none }
def FnVtDeleteMatchesSearchWrongFalsely : Prop := fnVtDeleteMatchesSearchRow.holds Trym.pinned (OpenSpec.ofChange fnVtDeleteMatchesSearchWrong)

/-- 'zzlaws_splice_b1.FnVtDeleteCorrectsOneInsertion': WHATEVER THE INPUT: true; the input reads as it did. -/
def fnVtDeleteCorrectsOneInsertionSpec : ChangeSpec := { name := "fnVtDeleteCorrectsOneInsertion", fn := fun _ => fun
  | [d1, d2, d3] => { results := [.lit (.bool true)], args := [d1, d2, d3] }
  | _ => none }
def fnVtDeleteCorrectsOneInsertionRow : OpenClaim := { program := "qxb6604085amods", sum := "06c663009e997da401c74375bd09d1538dd724ca714bc4c5542a43ed1049cd42", func := "example.com/splicewire/splicewire/zzlaws_splice_b1.FnVtDeleteCorrectsOneInsertion", spec := "fnVtDeleteCorrectsOneInsertion", make := .lifted ["publicsums"], apart := false }
def FnVtDeleteCorrectsOneInsertionSaid : Prop := fnVtDeleteCorrectsOneInsertionRow.holds Trym.pinned (OpenSpec.ofChange fnVtDeleteCorrectsOneInsertionSpec)

/-- ITS FALSE NEIGHBOUR: 'it returns false'. Refute it at one input. -/
def fnVtDeleteCorrectsOneInsertionWrong : ChangeSpec := { name := "fnVtDeleteCorrectsOneInsertion", fn := fun _ => fun
  | [d1, d2, d3] => { results := [.lit (.bool false)], args := [d1, d2, d3] }
  | _ => none }
def FnVtDeleteCorrectsOneInsertionWrongFalsely : Prop := fnVtDeleteCorrectsOneInsertionRow.holds Trym.pinned (OpenSpec.ofChange fnVtDeleteCorrectsOneInsertionWrong)

/-- 'zzlaws_splice_b1.FnVtDeleteUndoesOneInsertionIntoVtInsert': WHATEVER THE INPUT: true; the input reads as it did. -/
def fnVtDeleteUndoesOneInsertionIntoVtInsertSpec : ChangeSpec := { name := "fnVtDeleteUndoesOneInsertionIntoVtInsert", fn := fun _ => fun
  | [d1, d2, d3, d4] => { results := [.lit (.bool true)], args := [d1, d2, d3, d4] }
  | _ => none }
def fnVtDeleteUndoesOneInsertionIntoVtInsertRow : OpenClaim := { program := "qxb6604085amods", sum := "06c663009e997da401c74375bd09d1538dd724ca714bc4c5542a43ed1049cd42", func := "example.com/splicewire/splicewire/zzlaws_splice_b1.FnVtDeleteUndoesOneInsertionIntoVtInsert", spec := "fnVtDeleteUndoesOneInsertionIntoVtInsert", make := .lifted ["publicsums"], apart := false }
def FnVtDeleteUndoesOneInsertionIntoVtInsertSaid : Prop := fnVtDeleteUndoesOneInsertionIntoVtInsertRow.holds Trym.pinned (OpenSpec.ofChange fnVtDeleteUndoesOneInsertionIntoVtInsertSpec)

/-- ITS FALSE NEIGHBOUR: 'it returns false'. Refute it at one input. -/
def fnVtDeleteUndoesOneInsertionIntoVtInsertWrong : ChangeSpec := { name := "fnVtDeleteUndoesOneInsertionIntoVtInsert", fn := fun _ => fun
  | [d1, d2, d3, d4] => { results := [.lit (.bool false)], args := [d1, d2, d3, d4] }
  | _ => none }
def FnVtDeleteUndoesOneInsertionIntoVtInsertWrongFalsely : Prop := fnVtDeleteUndoesOneInsertionIntoVtInsertRow.holds Trym.pinned (OpenSpec.ofChange fnVtDeleteUndoesOneInsertionIntoVtInsertWrong)

end Rows
end Go.Proofs.Qxb6604085aMods
