/-
  NARROWER THAN 'FOR EVERY INPUT', by the rows' own cells (each row's printed sentence says how): FnSpelledCountsExpansions: loops · FnSpelledConcatenates: loops · FnSpelledCapOnly: loops.
  DERIVED. THE GIVEN ROWS OF THIS SEAT. 7 by the template 'for every input the law returns true; each argument reads behind the call as it read before'; 0 by the template 'total and deterministic' (their statements: Qxb6602406aTotals.lean).
  GIVEN WITH THE SEED: the statements are not yours to turn. If you find one false, say at which input.
  Laid BY PROGRAM, IN A SANDBOX (cutbox-rows.mjs): the forced cells as the released guide's own fill.sh prints them over the translation 17f1e98ef8210bb5… (all of the seat's roots in one cut). By AI agents, Wed Nov 11 2026. No macro, syntax, notation, axiom, sorry.
-/
import Derived.Test.Qxb6602406aChecked
import GoSem.Claim
import GoSem.ClaimJoined
import GoSem.ClaimMapViews
import Derived.JoinedTies
import Derived.KernelRfl
namespace Go.Proofs.Qxb6602406a
/- THE CELL 'sum', in the pinned program and in every row, IS THE sha256 OF THE DUMP (.gsa) THAT Qxb6602406aProg.lean LOADS. Nothing in Lean hashes anything: it is a label: what it is worth is what the hold of that sum in a sandbox is worth. -/
noncomputable def Try.pinned : Pinned := { name := "qxb6602406a", sum := "17f1e98ef8210bb553c68f8eeac92fc5c14832abfeb169b1ceceb4c4063ce23f", checked := Try.checked }
namespace Rows
def none {H : Type} : Left H := { results := [], args := [] }

/-- 'zzlaws_internal_glob_b1.FnNewSequenceDecodes': WHATEVER THE INPUT: true; the input reads as it did. -/
def fnNewSequenceDecodesSpec : ChangeSpec := { name := "fnNewSequenceDecodes", fn := fun _ => fun
  | [d] => { results := [.lit (.bool true)], args := [d] }
  | _ => none }
def fnNewSequenceDecodesRow : OpenClaim := { program := "qxb6602406a", sum := "17f1e98ef8210bb553c68f8eeac92fc5c14832abfeb169b1ceceb4c4063ce23f", func := "example.com/demesne/demesne/zzlaws_internal_glob_b1.FnNewSequenceDecodes", spec := "fnNewSequenceDecodes", apart := false }
def FnNewSequenceDecodesSaid : Prop := fnNewSequenceDecodesRow.holds Try.pinned (OpenSpec.ofChange fnNewSequenceDecodesSpec)

/-- ITS FALSE NEIGHBOUR: 'it returns false'. Refute it at one input. -/
def fnNewSequenceDecodesWrong : ChangeSpec := { name := "fnNewSequenceDecodes", fn := fun _ => fun
  | [d] => { results := [.lit (.bool false)], args := [d] }
  | _ => none }
def FnNewSequenceDecodesWrongFalsely : Prop := fnNewSequenceDecodesRow.holds Try.pinned (OpenSpec.ofChange fnNewSequenceDecodesWrong)

/-- 'zzlaws_internal_glob_b1.FnNewSequenceCompact': WHATEVER THE INPUT: true; the input reads as it did. -/
def fnNewSequenceCompactSpec : ChangeSpec := { name := "fnNewSequenceCompact", fn := fun _ => fun
  | [d] => { results := [.lit (.bool true)], args := [d] }
  | _ => none }
def fnNewSequenceCompactRow : OpenClaim := { program := "qxb6602406a", sum := "17f1e98ef8210bb553c68f8eeac92fc5c14832abfeb169b1ceceb4c4063ce23f", func := "example.com/demesne/demesne/zzlaws_internal_glob_b1.FnNewSequenceCompact", spec := "fnNewSequenceCompact", apart := false }
def FnNewSequenceCompactSaid : Prop := fnNewSequenceCompactRow.holds Try.pinned (OpenSpec.ofChange fnNewSequenceCompactSpec)

/-- ITS FALSE NEIGHBOUR: 'it returns false'. Refute it at one input. -/
def fnNewSequenceCompactWrong : ChangeSpec := { name := "fnNewSequenceCompact", fn := fun _ => fun
  | [d] => { results := [.lit (.bool false)], args := [d] }
  | _ => none }
def FnNewSequenceCompactWrongFalsely : Prop := fnNewSequenceCompactRow.holds Try.pinned (OpenSpec.ofChange fnNewSequenceCompactWrong)

/-- 'zzlaws_internal_glob_b1.FnSpelledCountsExpansions': WHATEVER THE INPUT: true; the input reads as it did. -/
def fnSpelledCountsExpansionsSpec : ChangeSpec := { name := "fnSpelledCountsExpansions", fn := fun _ => fun
  | [d1, d2] => { results := [.lit (.bool true)], args := [d1, d2] }
  | _ => none }
def fnSpelledCountsExpansionsRow : OpenClaim := { program := "qxb6602406a", sum := "17f1e98ef8210bb553c68f8eeac92fc5c14832abfeb169b1ceceb4c4063ce23f", func := "example.com/demesne/demesne/zzlaws_internal_glob_b1.FnSpelledCountsExpansions", spec := "fnSpelledCountsExpansions", unfollowed := true, recurses := true, loops := true, apart := false }
def FnSpelledCountsExpansionsSaid : Prop := fnSpelledCountsExpansionsRow.holds Try.pinned (OpenSpec.ofChange fnSpelledCountsExpansionsSpec)

/-- ITS FALSE NEIGHBOUR: 'it returns false'. Refute it at one input. -/
def fnSpelledCountsExpansionsWrong : ChangeSpec := { name := "fnSpelledCountsExpansions", fn := fun _ => fun
  | [d1, d2] => { results := [.lit (.bool false)], args := [d1, d2] }
  | _ => none }
def FnSpelledCountsExpansionsWrongFalsely : Prop := fnSpelledCountsExpansionsRow.holds Try.pinned (OpenSpec.ofChange fnSpelledCountsExpansionsWrong)

/-- 'zzlaws_internal_glob_b1.FnSpelledConcatenates': WHATEVER THE INPUT: true; the input reads as it did. -/
def fnSpelledConcatenatesSpec : ChangeSpec := { name := "fnSpelledConcatenates", fn := fun _ => fun
  | [d1, d2, d3] => { results := [.lit (.bool true)], args := [d1, d2, d3] }
  | _ => none }
def fnSpelledConcatenatesRow : OpenClaim := { program := "qxb6602406a", sum := "17f1e98ef8210bb553c68f8eeac92fc5c14832abfeb169b1ceceb4c4063ce23f", func := "example.com/demesne/demesne/zzlaws_internal_glob_b1.FnSpelledConcatenates", spec := "fnSpelledConcatenates", unfollowed := true, recurses := true, loops := true, apart := false }
def FnSpelledConcatenatesSaid : Prop := fnSpelledConcatenatesRow.holds Try.pinned (OpenSpec.ofChange fnSpelledConcatenatesSpec)

/-- ITS FALSE NEIGHBOUR: 'it returns false'. Refute it at one input. -/
def fnSpelledConcatenatesWrong : ChangeSpec := { name := "fnSpelledConcatenates", fn := fun _ => fun
  | [d1, d2, d3] => { results := [.lit (.bool false)], args := [d1, d2, d3] }
  | _ => none }
def FnSpelledConcatenatesWrongFalsely : Prop := fnSpelledConcatenatesRow.holds Try.pinned (OpenSpec.ofChange fnSpelledConcatenatesWrong)

/-- 'zzlaws_internal_glob_b1.FnSpelledCapOnly': WHATEVER THE INPUT: true; the input reads as it did. -/
def fnSpelledCapOnlySpec : ChangeSpec := { name := "fnSpelledCapOnly", fn := fun _ => fun
  | [d1, d2, d3] => { results := [.lit (.bool true)], args := [d1, d2, d3] }
  | _ => none }
def fnSpelledCapOnlyRow : OpenClaim := { program := "qxb6602406a", sum := "17f1e98ef8210bb553c68f8eeac92fc5c14832abfeb169b1ceceb4c4063ce23f", func := "example.com/demesne/demesne/zzlaws_internal_glob_b1.FnSpelledCapOnly", spec := "fnSpelledCapOnly", unfollowed := true, recurses := true, loops := true, apart := false }
def FnSpelledCapOnlySaid : Prop := fnSpelledCapOnlyRow.holds Try.pinned (OpenSpec.ofChange fnSpelledCapOnlySpec)

/-- ITS FALSE NEIGHBOUR: 'it returns false'. Refute it at one input. -/
def fnSpelledCapOnlyWrong : ChangeSpec := { name := "fnSpelledCapOnly", fn := fun _ => fun
  | [d1, d2, d3] => { results := [.lit (.bool false)], args := [d1, d2, d3] }
  | _ => none }
def FnSpelledCapOnlyWrongFalsely : Prop := fnSpelledCapOnlyRow.holds Try.pinned (OpenSpec.ofChange fnSpelledCapOnlyWrong)

/-- 'zzlaws_internal_glob_b1.FnChooseAnchorsLightestRun': WHATEVER THE INPUT: true; the input reads as it did. -/
def fnChooseAnchorsLightestRunSpec : ChangeSpec := { name := "fnChooseAnchorsLightestRun", fn := fun _ => fun
  | [d] => { results := [.lit (.bool true)], args := [d] }
  | _ => none }
def fnChooseAnchorsLightestRunRow : OpenClaim := { program := "qxb6602406a", sum := "17f1e98ef8210bb553c68f8eeac92fc5c14832abfeb169b1ceceb4c4063ce23f", func := "example.com/demesne/demesne/zzlaws_internal_glob_b1.FnChooseAnchorsLightestRun", spec := "fnChooseAnchorsLightestRun", apart := false }
def FnChooseAnchorsLightestRunSaid : Prop := fnChooseAnchorsLightestRunRow.holds Try.pinned (OpenSpec.ofChange fnChooseAnchorsLightestRunSpec)

/-- ITS FALSE NEIGHBOUR: 'it returns false'. Refute it at one input. -/
def fnChooseAnchorsLightestRunWrong : ChangeSpec := { name := "fnChooseAnchorsLightestRun", fn := fun _ => fun
  | [d] => { results := [.lit (.bool false)], args := [d] }
  | _ => none }
def FnChooseAnchorsLightestRunWrongFalsely : Prop := fnChooseAnchorsLightestRunRow.holds Try.pinned (OpenSpec.ofChange fnChooseAnchorsLightestRunWrong)

/-- 'zzlaws_internal_glob_b1.FnChooseAnchorsOrderFree': WHATEVER THE INPUT: true; the input reads as it did. -/
def fnChooseAnchorsOrderFreeSpec : ChangeSpec := { name := "fnChooseAnchorsOrderFree", fn := fun _ => fun
  | [d] => { results := [.lit (.bool true)], args := [d] }
  | _ => none }
def fnChooseAnchorsOrderFreeRow : OpenClaim := { program := "qxb6602406a", sum := "17f1e98ef8210bb553c68f8eeac92fc5c14832abfeb169b1ceceb4c4063ce23f", func := "example.com/demesne/demesne/zzlaws_internal_glob_b1.FnChooseAnchorsOrderFree", spec := "fnChooseAnchorsOrderFree", apart := false }
def FnChooseAnchorsOrderFreeSaid : Prop := fnChooseAnchorsOrderFreeRow.holds Try.pinned (OpenSpec.ofChange fnChooseAnchorsOrderFreeSpec)

/-- ITS FALSE NEIGHBOUR: 'it returns false'. Refute it at one input. -/
def fnChooseAnchorsOrderFreeWrong : ChangeSpec := { name := "fnChooseAnchorsOrderFree", fn := fun _ => fun
  | [d] => { results := [.lit (.bool false)], args := [d] }
  | _ => none }
def FnChooseAnchorsOrderFreeWrongFalsely : Prop := fnChooseAnchorsOrderFreeRow.holds Try.pinned (OpenSpec.ofChange fnChooseAnchorsOrderFreeWrong)

end Rows
end Go.Proofs.Qxb6602406a
