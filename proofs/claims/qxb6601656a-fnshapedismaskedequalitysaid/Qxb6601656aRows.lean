/-
  No cell of these rows narrows 'for every input' (looked for: loops, veiled, ifaces, maps, wideKeys, modest, calm, conditions, laid).
  DERIVED. THE GIVEN ROWS OF THIS SEAT. 4 by the template 'for every input the law returns true; each argument reads behind the call as it read before'; 0 by the template 'total and deterministic' (their statements: Qxb6601656aTotals.lean).
  GIVEN WITH THE SEED: the statements are not yours to turn. If you find one false, say at which input.
  Laid BY PROGRAM, IN A SANDBOX (cutbox-rows.mjs): the forced cells as the released guide's own fill.sh prints them over the translation 9ee531fff8f956c1… (all of the seat's roots in one cut). By AI agents, Wed Nov 11 2026. No macro, syntax, notation, axiom, sorry.
-/
import Derived.Test.Qxb6601656aChecked
import GoSem.Claim
import GoSem.ClaimJoined
import GoSem.ClaimMapViews
import Derived.JoinedTies
import Derived.KernelRfl
namespace Go.Proofs.Qxb6601656a
/- THE CELL 'sum', in the pinned program and in every row, IS THE sha256 OF THE DUMP (.gsa) THAT Qxb6601656aProg.lean LOADS. Nothing in Lean hashes anything: it is a label: what it is worth is what the hold of that sum in a sandbox is worth. -/
noncomputable def Try.pinned : Pinned := { name := "qxb6601656a", sum := "9ee531fff8f956c17df2c0df40612d0c13e3e67babb418beaf74d46c98e4ff37", checked := Try.checked }
namespace Rows
def none {H : Type} : Left H := { results := [], args := [] }

/-- 'zzlaws_root_b1.FnShapedIsMaskedEquality': WHATEVER THE INPUT: true; the input reads as it did. -/
def fnShapedIsMaskedEqualitySpec : ChangeSpec := { name := "fnShapedIsMaskedEquality", fn := fun _ => fun
  | [d1, d2] => { results := [.lit (.bool true)], args := [d1, d2] }
  | _ => none }
def fnShapedIsMaskedEqualityRow : OpenClaim := { program := "qxb6601656a", sum := "9ee531fff8f956c17df2c0df40612d0c13e3e67babb418beaf74d46c98e4ff37", func := "example.com/aeacus/aeacus/zzlaws_root_b1.FnShapedIsMaskedEquality", spec := "fnShapedIsMaskedEquality", apart := false }
def FnShapedIsMaskedEqualitySaid : Prop := fnShapedIsMaskedEqualityRow.holds Try.pinned (OpenSpec.ofChange fnShapedIsMaskedEqualitySpec)

/-- ITS FALSE NEIGHBOUR: 'it returns false'. Refute it at one input. -/
def fnShapedIsMaskedEqualityWrong : ChangeSpec := { name := "fnShapedIsMaskedEquality", fn := fun _ => fun
  | [d1, d2] => { results := [.lit (.bool false)], args := [d1, d2] }
  | _ => none }
def FnShapedIsMaskedEqualityWrongFalsely : Prop := fnShapedIsMaskedEqualityRow.holds Try.pinned (OpenSpec.ofChange fnShapedIsMaskedEqualityWrong)

/-- 'zzlaws_root_b1.FnNextReferenceIsFirstOpeningAndItsFirstClose': WHATEVER THE INPUT: true; the input reads as it did. -/
def fnNextReferenceIsFirstOpeningAndItsFirstCloseSpec : ChangeSpec := { name := "fnNextReferenceIsFirstOpeningAndItsFirstClose", fn := fun _ => fun
  | [d] => { results := [.lit (.bool true)], args := [d] }
  | _ => none }
def fnNextReferenceIsFirstOpeningAndItsFirstCloseRow : OpenClaim := { program := "qxb6601656a", sum := "9ee531fff8f956c17df2c0df40612d0c13e3e67babb418beaf74d46c98e4ff37", func := "example.com/aeacus/aeacus/zzlaws_root_b1.FnNextReferenceIsFirstOpeningAndItsFirstClose", spec := "fnNextReferenceIsFirstOpeningAndItsFirstClose", inPlace := ["internal/bytealg.IndexByteString", "internal/bytealg.IndexString"], named := ["internal/bytealg.MaxLen"], apart := false }
def FnNextReferenceIsFirstOpeningAndItsFirstCloseSaid : Prop := fnNextReferenceIsFirstOpeningAndItsFirstCloseRow.holds Try.pinned (OpenSpec.ofChange fnNextReferenceIsFirstOpeningAndItsFirstCloseSpec)

/-- ITS FALSE NEIGHBOUR: 'it returns false'. Refute it at one input. -/
def fnNextReferenceIsFirstOpeningAndItsFirstCloseWrong : ChangeSpec := { name := "fnNextReferenceIsFirstOpeningAndItsFirstClose", fn := fun _ => fun
  | [d] => { results := [.lit (.bool false)], args := [d] }
  | _ => none }
def FnNextReferenceIsFirstOpeningAndItsFirstCloseWrongFalsely : Prop := fnNextReferenceIsFirstOpeningAndItsFirstCloseRow.holds Try.pinned (OpenSpec.ofChange fnNextReferenceIsFirstOpeningAndItsFirstCloseWrong)

/-- 'zzlaws_root_b1.FnNextReferenceShiftsPastDollarFreePrefix': WHATEVER THE INPUT: true; the input reads as it did. -/
def fnNextReferenceShiftsPastDollarFreePrefixSpec : ChangeSpec := { name := "fnNextReferenceShiftsPastDollarFreePrefix", fn := fun _ => fun
  | [d1, d2] => { results := [.lit (.bool true)], args := [d1, d2] }
  | _ => none }
def fnNextReferenceShiftsPastDollarFreePrefixRow : OpenClaim := { program := "qxb6601656a", sum := "9ee531fff8f956c17df2c0df40612d0c13e3e67babb418beaf74d46c98e4ff37", func := "example.com/aeacus/aeacus/zzlaws_root_b1.FnNextReferenceShiftsPastDollarFreePrefix", spec := "fnNextReferenceShiftsPastDollarFreePrefix", inPlace := ["internal/bytealg.IndexByteString", "internal/bytealg.IndexString"], named := ["internal/bytealg.MaxLen"], apart := false }
def FnNextReferenceShiftsPastDollarFreePrefixSaid : Prop := fnNextReferenceShiftsPastDollarFreePrefixRow.holds Try.pinned (OpenSpec.ofChange fnNextReferenceShiftsPastDollarFreePrefixSpec)

/-- ITS FALSE NEIGHBOUR: 'it returns false'. Refute it at one input. -/
def fnNextReferenceShiftsPastDollarFreePrefixWrong : ChangeSpec := { name := "fnNextReferenceShiftsPastDollarFreePrefix", fn := fun _ => fun
  | [d1, d2] => { results := [.lit (.bool false)], args := [d1, d2] }
  | _ => none }
def FnNextReferenceShiftsPastDollarFreePrefixWrongFalsely : Prop := fnNextReferenceShiftsPastDollarFreePrefixRow.holds Try.pinned (OpenSpec.ofChange fnNextReferenceShiftsPastDollarFreePrefixWrong)

/-- 'zzlaws_root_b1.FnNextReferenceKeepsWhatItFoundWhenTextFollows': WHATEVER THE INPUT: true; the input reads as it did. -/
def fnNextReferenceKeepsWhatItFoundWhenTextFollowsSpec : ChangeSpec := { name := "fnNextReferenceKeepsWhatItFoundWhenTextFollows", fn := fun _ => fun
  | [d1, d2] => { results := [.lit (.bool true)], args := [d1, d2] }
  | _ => none }
def fnNextReferenceKeepsWhatItFoundWhenTextFollowsRow : OpenClaim := { program := "qxb6601656a", sum := "9ee531fff8f956c17df2c0df40612d0c13e3e67babb418beaf74d46c98e4ff37", func := "example.com/aeacus/aeacus/zzlaws_root_b1.FnNextReferenceKeepsWhatItFoundWhenTextFollows", spec := "fnNextReferenceKeepsWhatItFoundWhenTextFollows", inPlace := ["internal/bytealg.IndexByteString", "internal/bytealg.IndexString"], named := ["internal/bytealg.MaxLen"], apart := false }
def FnNextReferenceKeepsWhatItFoundWhenTextFollowsSaid : Prop := fnNextReferenceKeepsWhatItFoundWhenTextFollowsRow.holds Try.pinned (OpenSpec.ofChange fnNextReferenceKeepsWhatItFoundWhenTextFollowsSpec)

/-- ITS FALSE NEIGHBOUR: 'it returns false'. Refute it at one input. -/
def fnNextReferenceKeepsWhatItFoundWhenTextFollowsWrong : ChangeSpec := { name := "fnNextReferenceKeepsWhatItFoundWhenTextFollows", fn := fun _ => fun
  | [d1, d2] => { results := [.lit (.bool false)], args := [d1, d2] }
  | _ => none }
def FnNextReferenceKeepsWhatItFoundWhenTextFollowsWrongFalsely : Prop := fnNextReferenceKeepsWhatItFoundWhenTextFollowsRow.holds Try.pinned (OpenSpec.ofChange fnNextReferenceKeepsWhatItFoundWhenTextFollowsWrong)

end Rows
end Go.Proofs.Qxb6601656a
