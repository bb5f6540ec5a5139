/-
  No cell of these rows narrows 'for every input' (looked for: loops, veiled, ifaces, maps, wideKeys, modest, calm, conditions, laid).
  DERIVED. THE GIVEN ROWS OF THIS SEAT. 6 by the template 'for every input the law returns true; each argument reads behind the call as it read before'; 0 by the template 'total and deterministic' (their statements: Qxb6605804aTotals.lean).
  GIVEN WITH THE SEED: the statements are not yours to turn. If you find one false, say at which input.
  Laid BY PROGRAM, IN A SANDBOX (cutbox-rows.mjs): the forced cells as the released guide's own fill.sh prints them over the translation 7091fe7c5afcf792… (all of the seat's roots in one cut). By AI agents, Wed Nov 11 2026. No macro, syntax, notation, axiom, sorry.
-/
import Derived.Test.Qxb6605804aChecked
import GoSem.Claim
import GoSem.ClaimJoined
import GoSem.ClaimMapViews
import Derived.JoinedTies
import Derived.KernelRfl
namespace Go.Proofs.Qxb6605804a
/- THE CELL 'sum', in the pinned program and in every row, IS THE sha256 OF THE DUMP (.gsa) THAT Qxb6605804aProg.lean LOADS. Nothing in Lean hashes anything: it is a label: what it is worth is what the hold of that sum in a sandbox is worth. -/
noncomputable def Try.pinned : Pinned := { name := "qxb6605804a", sum := "7091fe7c5afcf7926683b585de4a48b93e88b255b0292cddaab054e03ca5ad3a", checked := Try.checked }
namespace Rows
def none {H : Type} : Left H := { results := [], args := [] }

/-- 'zzlaws_root_b1.FnOracleSigmaOmegaLookExact': WHATEVER THE INPUT: true; the input reads as it did. -/
def fnOracleSigmaOmegaLookExactSpec : ChangeSpec := { name := "fnOracleSigmaOmegaLookExact", fn := fun _ => fun
  | [d1, d2, d3, d4, d5, d6, d7, d8] => { results := [.lit (.bool true)], args := [d1, d2, d3, d4, d5, d6, d7, d8] }
  | _ => none }
def fnOracleSigmaOmegaLookExactRow : OpenClaim := { program := "qxb6605804a", sum := "7091fe7c5afcf7926683b585de4a48b93e88b255b0292cddaab054e03ca5ad3a", func := "example.com/nameless-accord/nameless-accord/zzlaws_root_b1.FnOracleSigmaOmegaLookExact", spec := "fnOracleSigmaOmegaLookExact", unfollowed := true, recurses := true, apart := false }
def FnOracleSigmaOmegaLookExactSaid : Prop := fnOracleSigmaOmegaLookExactRow.holds Try.pinned (OpenSpec.ofChange fnOracleSigmaOmegaLookExactSpec)

/-- ITS FALSE NEIGHBOUR: 'it returns false'. Refute it at one input. -/
def fnOracleSigmaOmegaLookExactWrong : ChangeSpec := { name := "fnOracleSigmaOmegaLookExact", fn := fun _ => fun
  | [d1, d2, d3, d4, d5, d6, d7, d8] => { results := [.lit (.bool false)], args := [d1, d2, d3, d4, d5, d6, d7, d8] }
  | _ => none }
def FnOracleSigmaOmegaLookExactWrongFalsely : Prop := fnOracleSigmaOmegaLookExactRow.holds Try.pinned (OpenSpec.ofChange fnOracleSigmaOmegaLookExactWrong)

/-- 'zzlaws_root_b1.FnOracleSigmaOmegaLookCapacityCut': WHATEVER THE INPUT: true; the input reads as it did. -/
def fnOracleSigmaOmegaLookCapacityCutSpec : ChangeSpec := { name := "fnOracleSigmaOmegaLookCapacityCut", fn := fun _ => fun
  | [d1, d2, d3, d4, d5, d6, d7, d8] => { results := [.lit (.bool true)], args := [d1, d2, d3, d4, d5, d6, d7, d8] }
  | _ => none }
def fnOracleSigmaOmegaLookCapacityCutRow : OpenClaim := { program := "qxb6605804a", sum := "7091fe7c5afcf7926683b585de4a48b93e88b255b0292cddaab054e03ca5ad3a", func := "example.com/nameless-accord/nameless-accord/zzlaws_root_b1.FnOracleSigmaOmegaLookCapacityCut", spec := "fnOracleSigmaOmegaLookCapacityCut", unfollowed := true, recurses := true, apart := false }
def FnOracleSigmaOmegaLookCapacityCutSaid : Prop := fnOracleSigmaOmegaLookCapacityCutRow.holds Try.pinned (OpenSpec.ofChange fnOracleSigmaOmegaLookCapacityCutSpec)

/-- ITS FALSE NEIGHBOUR: 'it returns false'. Refute it at one input. -/
def fnOracleSigmaOmegaLookCapacityCutWrong : ChangeSpec := { name := "fnOracleSigmaOmegaLookCapacityCut", fn := fun _ => fun
  | [d1, d2, d3, d4, d5, d6, d7, d8] => { results := [.lit (.bool false)], args := [d1, d2, d3, d4, d5, d6, d7, d8] }
  | _ => none }
def FnOracleSigmaOmegaLookCapacityCutWrongFalsely : Prop := fnOracleSigmaOmegaLookCapacityCutRow.holds Try.pinned (OpenSpec.ofChange fnOracleSigmaOmegaLookCapacityCutWrong)

/-- 'zzlaws_root_b1.FnVerdictStringParsesBack': WHATEVER THE INPUT: true; the input reads as it did. -/
def fnVerdictStringParsesBackSpec : ChangeSpec := { name := "fnVerdictStringParsesBack", fn := fun _ => fun
  | [d1, d2, d3] => { results := [.lit (.bool true)], args := [d1, d2, d3] }
  | _ => none }
def fnVerdictStringParsesBackRow : OpenClaim := { program := "qxb6605804a", sum := "7091fe7c5afcf7926683b585de4a48b93e88b255b0292cddaab054e03ca5ad3a", func := "example.com/nameless-accord/nameless-accord/zzlaws_root_b1.FnVerdictStringParsesBack", spec := "fnVerdictStringParsesBack", apart := false }
def FnVerdictStringParsesBackSaid : Prop := fnVerdictStringParsesBackRow.holds Try.pinned (OpenSpec.ofChange fnVerdictStringParsesBackSpec)

/-- ITS FALSE NEIGHBOUR: 'it returns false'. Refute it at one input. -/
def fnVerdictStringParsesBackWrong : ChangeSpec := { name := "fnVerdictStringParsesBack", fn := fun _ => fun
  | [d1, d2, d3] => { results := [.lit (.bool false)], args := [d1, d2, d3] }
  | _ => none }
def FnVerdictStringParsesBackWrongFalsely : Prop := fnVerdictStringParsesBackRow.holds Try.pinned (OpenSpec.ofChange fnVerdictStringParsesBackWrong)

/-- 'zzlaws_root_b1.FnVerdictStringThreeLinesDiffer': WHATEVER THE INPUT: true; the input reads as it did. -/
def fnVerdictStringThreeLinesDifferSpec : ChangeSpec := { name := "fnVerdictStringThreeLinesDiffer", fn := fun _ => fun
  | [d] => { results := [.lit (.bool true)], args := [d] }
  | _ => none }
def fnVerdictStringThreeLinesDifferRow : OpenClaim := { program := "qxb6605804a", sum := "7091fe7c5afcf7926683b585de4a48b93e88b255b0292cddaab054e03ca5ad3a", func := "example.com/nameless-accord/nameless-accord/zzlaws_root_b1.FnVerdictStringThreeLinesDiffer", spec := "fnVerdictStringThreeLinesDiffer", apart := false }
def FnVerdictStringThreeLinesDifferSaid : Prop := fnVerdictStringThreeLinesDifferRow.holds Try.pinned (OpenSpec.ofChange fnVerdictStringThreeLinesDifferSpec)

/-- ITS FALSE NEIGHBOUR: 'it returns false'. Refute it at one input. -/
def fnVerdictStringThreeLinesDifferWrong : ChangeSpec := { name := "fnVerdictStringThreeLinesDiffer", fn := fun _ => fun
  | [d] => { results := [.lit (.bool false)], args := [d] }
  | _ => none }
def FnVerdictStringThreeLinesDifferWrongFalsely : Prop := fnVerdictStringThreeLinesDifferRow.holds Try.pinned (OpenSpec.ofChange fnVerdictStringThreeLinesDifferWrong)

/-- 'zzlaws_root_b1.FnOracleCProcessCodeDecodes': WHATEVER THE INPUT: true; the input reads as it did. -/
def fnOracleCProcessCodeDecodesSpec : ChangeSpec := { name := "fnOracleCProcessCodeDecodes", fn := fun _ => fun
  | [d1, d2, d3, d4, d5] => { results := [.lit (.bool true)], args := [d1, d2, d3, d4, d5] }
  | _ => none }
def fnOracleCProcessCodeDecodesRow : OpenClaim := { program := "qxb6605804a", sum := "7091fe7c5afcf7926683b585de4a48b93e88b255b0292cddaab054e03ca5ad3a", func := "example.com/nameless-accord/nameless-accord/zzlaws_root_b1.FnOracleCProcessCodeDecodes", spec := "fnOracleCProcessCodeDecodes", apart := false }
def FnOracleCProcessCodeDecodesSaid : Prop := fnOracleCProcessCodeDecodesRow.holds Try.pinned (OpenSpec.ofChange fnOracleCProcessCodeDecodesSpec)

/-- ITS FALSE NEIGHBOUR: 'it returns false'. Refute it at one input. -/
def fnOracleCProcessCodeDecodesWrong : ChangeSpec := { name := "fnOracleCProcessCodeDecodes", fn := fun _ => fun
  | [d1, d2, d3, d4, d5] => { results := [.lit (.bool false)], args := [d1, d2, d3, d4, d5] }
  | _ => none }
def FnOracleCProcessCodeDecodesWrongFalsely : Prop := fnOracleCProcessCodeDecodesRow.holds Try.pinned (OpenSpec.ofChange fnOracleCProcessCodeDecodesWrong)

/-- 'zzlaws_root_b1.FnOracleCProcessCodeOwnStateOnly': WHATEVER THE INPUT: true; the input reads as it did. -/
def fnOracleCProcessCodeOwnStateOnlySpec : ChangeSpec := { name := "fnOracleCProcessCodeOwnStateOnly", fn := fun _ => fun
  | [d1, d2, d3, d4, d5] => { results := [.lit (.bool true)], args := [d1, d2, d3, d4, d5] }
  | _ => none }
def fnOracleCProcessCodeOwnStateOnlyRow : OpenClaim := { program := "qxb6605804a", sum := "7091fe7c5afcf7926683b585de4a48b93e88b255b0292cddaab054e03ca5ad3a", func := "example.com/nameless-accord/nameless-accord/zzlaws_root_b1.FnOracleCProcessCodeOwnStateOnly", spec := "fnOracleCProcessCodeOwnStateOnly", apart := false }
def FnOracleCProcessCodeOwnStateOnlySaid : Prop := fnOracleCProcessCodeOwnStateOnlyRow.holds Try.pinned (OpenSpec.ofChange fnOracleCProcessCodeOwnStateOnlySpec)

/-- ITS FALSE NEIGHBOUR: 'it returns false'. Refute it at one input. -/
def fnOracleCProcessCodeOwnStateOnlyWrong : ChangeSpec := { name := "fnOracleCProcessCodeOwnStateOnly", fn := fun _ => fun
  | [d1, d2, d3, d4, d5] => { results := [.lit (.bool false)], args := [d1, d2, d3, d4, d5] }
  | _ => none }
def FnOracleCProcessCodeOwnStateOnlyWrongFalsely : Prop := fnOracleCProcessCodeOwnStateOnlyRow.holds Try.pinned (OpenSpec.ofChange fnOracleCProcessCodeOwnStateOnlyWrong)

end Rows
end Go.Proofs.Qxb6605804a
