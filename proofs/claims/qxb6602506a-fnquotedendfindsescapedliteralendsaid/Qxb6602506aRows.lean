/-
  No cell of these rows narrows 'for every input' (looked for: loops, veiled, ifaces, maps, wideKeys, modest, calm, conditions, laid).
  DERIVED. THE GIVEN ROWS OF THIS SEAT. 3 by the template 'for every input the law returns true; each argument reads behind the call as it read before'; 0 by the template 'total and deterministic' (their statements: Qxb6602506aTotals.lean).
  GIVEN WITH THE SEED: the statements are not yours to turn. If you find one false, say at which input.
  Laid BY PROGRAM, IN A SANDBOX (cutbox-rows.mjs): the forced cells as the released guide's own fill.sh prints them over the translation 07b82a84c7d644b6… (all of the seat's roots in one cut). By AI agents, Wed Nov 11 2026. No macro, syntax, notation, axiom, sorry.
-/
import Derived.Test.Qxb6602506aChecked
import GoSem.Claim
import GoSem.ClaimJoined
import GoSem.ClaimMapViews
import Derived.JoinedTies
import Derived.KernelRfl
namespace Go.Proofs.Qxb6602506a
/- THE CELL 'sum', in the pinned program and in every row, IS THE sha256 OF THE DUMP (.gsa) THAT Qxb6602506aProg.lean LOADS. Nothing in Lean hashes anything: it is a label: what it is worth is what the hold of that sum in a sandbox is worth. -/
noncomputable def Try.pinned : Pinned := { name := "qxb6602506a", sum := "07b82a84c7d644b67bdbced3dec1a2e3e570ca17163bf431cb4cc4f406790d13", checked := Try.checked }
namespace Rows
def none {H : Type} : Left H := { results := [], args := [] }

/-- 'zzlaws_internal_schema_b1.FnQuotedEndMatchesEvenBackslashRule': WHATEVER THE INPUT: true; the input reads as it did. -/
def fnQuotedEndMatchesEvenBackslashRuleSpec : ChangeSpec := { name := "fnQuotedEndMatchesEvenBackslashRule", fn := fun _ => fun
  | [d] => { results := [.lit (.bool true)], args := [d] }
  | _ => none }
def fnQuotedEndMatchesEvenBackslashRuleRow : OpenClaim := { program := "qxb6602506a", sum := "07b82a84c7d644b67bdbced3dec1a2e3e570ca17163bf431cb4cc4f406790d13", func := "example.com/kindred/kindred/zzlaws_internal_schema_b1.FnQuotedEndMatchesEvenBackslashRule", spec := "fnQuotedEndMatchesEvenBackslashRule", apart := false }
def FnQuotedEndMatchesEvenBackslashRuleSaid : Prop := fnQuotedEndMatchesEvenBackslashRuleRow.holds Try.pinned (OpenSpec.ofChange fnQuotedEndMatchesEvenBackslashRuleSpec)

/-- ITS FALSE NEIGHBOUR: 'it returns false'. Refute it at one input. -/
def fnQuotedEndMatchesEvenBackslashRuleWrong : ChangeSpec := { name := "fnQuotedEndMatchesEvenBackslashRule", fn := fun _ => fun
  | [d] => { results := [.lit (.bool false)], args := [d] }
  | _ => none }
def FnQuotedEndMatchesEvenBackslashRuleWrongFalsely : Prop := fnQuotedEndMatchesEvenBackslashRuleRow.holds Try.pinned (OpenSpec.ofChange fnQuotedEndMatchesEvenBackslashRuleWrong)

/-- 'zzlaws_internal_schema_b1.FnQuotedEndPrefixStable': WHATEVER THE INPUT: true; the input reads as it did. -/
def fnQuotedEndPrefixStableSpec : ChangeSpec := { name := "fnQuotedEndPrefixStable", fn := fun _ => fun
  | [d1, d2] => { results := [.lit (.bool true)], args := [d1, d2] }
  | _ => none }
def fnQuotedEndPrefixStableRow : OpenClaim := { program := "qxb6602506a", sum := "07b82a84c7d644b67bdbced3dec1a2e3e570ca17163bf431cb4cc4f406790d13", func := "example.com/kindred/kindred/zzlaws_internal_schema_b1.FnQuotedEndPrefixStable", spec := "fnQuotedEndPrefixStable", apart := false }
def FnQuotedEndPrefixStableSaid : Prop := fnQuotedEndPrefixStableRow.holds Try.pinned (OpenSpec.ofChange fnQuotedEndPrefixStableSpec)

/-- ITS FALSE NEIGHBOUR: 'it returns false'. Refute it at one input. -/
def fnQuotedEndPrefixStableWrong : ChangeSpec := { name := "fnQuotedEndPrefixStable", fn := fun _ => fun
  | [d1, d2] => { results := [.lit (.bool false)], args := [d1, d2] }
  | _ => none }
def FnQuotedEndPrefixStableWrongFalsely : Prop := fnQuotedEndPrefixStableRow.holds Try.pinned (OpenSpec.ofChange fnQuotedEndPrefixStableWrong)

/-- 'zzlaws_internal_schema_b1.FnQuotedEndFindsEscapedLiteralEnd': WHATEVER THE INPUT: true; the input reads as it did. -/
def fnQuotedEndFindsEscapedLiteralEndSpec : ChangeSpec := { name := "fnQuotedEndFindsEscapedLiteralEnd", fn := fun _ => fun
  | [d1, d2, d3] => { results := [.lit (.bool true)], args := [d1, d2, d3] }
  | _ => none }
def fnQuotedEndFindsEscapedLiteralEndRow : OpenClaim := { program := "qxb6602506a", sum := "07b82a84c7d644b67bdbced3dec1a2e3e570ca17163bf431cb4cc4f406790d13", func := "example.com/kindred/kindred/zzlaws_internal_schema_b1.FnQuotedEndFindsEscapedLiteralEnd", spec := "fnQuotedEndFindsEscapedLiteralEnd", apart := false }
def FnQuotedEndFindsEscapedLiteralEndSaid : Prop := fnQuotedEndFindsEscapedLiteralEndRow.holds Try.pinned (OpenSpec.ofChange fnQuotedEndFindsEscapedLiteralEndSpec)

/-- ITS FALSE NEIGHBOUR: 'it returns false'. Refute it at one input. -/
def fnQuotedEndFindsEscapedLiteralEndWrong : ChangeSpec := { name := "fnQuotedEndFindsEscapedLiteralEnd", fn := fun _ => fun
  | [d1, d2, d3] => { results := [.lit (.bool false)], args := [d1, d2, d3] }
  | _ => none }
def FnQuotedEndFindsEscapedLiteralEndWrongFalsely : Prop := fnQuotedEndFindsEscapedLiteralEndRow.holds Try.pinned (OpenSpec.ofChange fnQuotedEndFindsEscapedLiteralEndWrong)

end Rows
end Go.Proofs.Qxb6602506a
