/-
  No cell of these rows narrows 'for every input' (looked for: loops, veiled, ifaces, maps, wideKeys, modest, calm, conditions, laid).
  DERIVED. THE GIVEN ROWS OF THIS SEAT. 6 by the template 'for every input the law returns true; each argument reads behind the call as it read before'; 0 by the template 'total and deterministic' (their statements: Qxb6605814aTotals.lean).
  GIVEN WITH THE SEED: the statements are not yours to turn. If you find one false, say at which input.
  Laid BY PROGRAM, IN A SANDBOX (cutbox-rows.mjs): the forced cells as the released guide's own fill.sh prints them over the translation e2085073dd0c4de1… (all of the seat's roots in one cut). By AI agents, Wed Nov 11 2026. No macro, syntax, notation, axiom, sorry.
-/
import Derived.Test.Qxb6605814aChecked
import GoSem.Claim
import GoSem.ClaimJoined
import GoSem.ClaimMapViews
import Derived.JoinedTies
import Derived.KernelRfl
namespace Go.Proofs.Qxb6605814a
/- THE CELL 'sum', in the pinned program and in every row, IS THE sha256 OF THE DUMP (.gsa) THAT Qxb6605814aProg.lean LOADS. Nothing in Lean hashes anything: it is a label: what it is worth is what the hold of that sum in a sandbox is worth. -/
noncomputable def Try.pinned : Pinned := { name := "qxb6605814a", sum := "e2085073dd0c4de19a6916d0b2ebda329ed35a6285d912878fe47f384b55cc2f", checked := Try.checked }
namespace Rows
def none {H : Type} : Left H := { results := [], args := [] }

/-- 'zzlaws_root_b1.FnPendingExactlyWhenUnsaved': WHATEVER THE INPUT: true; the input reads as it did. -/
def fnPendingExactlyWhenUnsavedSpec : ChangeSpec := { name := "fnPendingExactlyWhenUnsaved", fn := fun _ => fun
  | [d1, d2] => { results := [.lit (.bool true)], args := [d1, d2] }
  | _ => none }
def fnPendingExactlyWhenUnsavedRow : OpenClaim := { program := "qxb6605814a", sum := "e2085073dd0c4de19a6916d0b2ebda329ed35a6285d912878fe47f384b55cc2f", func := "example.com/hustings/zzlaws_root_b1.FnPendingExactlyWhenUnsaved", spec := "fnPendingExactlyWhenUnsaved", apart := false }
def FnPendingExactlyWhenUnsavedSaid : Prop := fnPendingExactlyWhenUnsavedRow.holds Try.pinned (OpenSpec.ofChange fnPendingExactlyWhenUnsavedSpec)

/-- ITS FALSE NEIGHBOUR: 'it returns false'. Refute it at one input. -/
def fnPendingExactlyWhenUnsavedWrong : ChangeSpec := { name := "fnPendingExactlyWhenUnsaved", fn := fun _ => fun
  | [d1, d2] => { results := [.lit (.bool false)], args := [d1, d2] }
  | _ => none }
def FnPendingExactlyWhenUnsavedWrongFalsely : Prop := fnPendingExactlyWhenUnsavedRow.holds Try.pinned (OpenSpec.ofChange fnPendingExactlyWhenUnsavedWrong)

/-- 'zzlaws_root_b1.FnPendingScriptOfSaves': WHATEVER THE INPUT: true; the input reads as it did. -/
def fnPendingScriptOfSavesSpec : ChangeSpec := { name := "fnPendingScriptOfSaves", fn := fun _ => fun
  | [d1, d2] => { results := [.lit (.bool true)], args := [d1, d2] }
  | _ => none }
def fnPendingScriptOfSavesRow : OpenClaim := { program := "qxb6605814a", sum := "e2085073dd0c4de19a6916d0b2ebda329ed35a6285d912878fe47f384b55cc2f", func := "example.com/hustings/zzlaws_root_b1.FnPendingScriptOfSaves", spec := "fnPendingScriptOfSaves", apart := false }
def FnPendingScriptOfSavesSaid : Prop := fnPendingScriptOfSavesRow.holds Try.pinned (OpenSpec.ofChange fnPendingScriptOfSavesSpec)

/-- ITS FALSE NEIGHBOUR: 'it returns false'. Refute it at one input. -/
def fnPendingScriptOfSavesWrong : ChangeSpec := { name := "fnPendingScriptOfSaves", fn := fun _ => fun
  | [d1, d2] => { results := [.lit (.bool false)], args := [d1, d2] }
  | _ => none }
def FnPendingScriptOfSavesWrongFalsely : Prop := fnPendingScriptOfSavesRow.holds Try.pinned (OpenSpec.ofChange fnPendingScriptOfSavesWrong)

/-- 'zzlaws_root_b1.FnMembershipExact': WHATEVER THE INPUT: true; the input reads as it did. -/
def fnMembershipExactSpec : ChangeSpec := { name := "fnMembershipExact", fn := fun _ => fun
  | [d1, d2, d3] => { results := [.lit (.bool true)], args := [d1, d2, d3] }
  | _ => none }
def fnMembershipExactRow : OpenClaim := { program := "qxb6605814a", sum := "e2085073dd0c4de19a6916d0b2ebda329ed35a6285d912878fe47f384b55cc2f", func := "example.com/hustings/zzlaws_root_b1.FnMembershipExact", spec := "fnMembershipExact", apart := false }
def FnMembershipExactSaid : Prop := fnMembershipExactRow.holds Try.pinned (OpenSpec.ofChange fnMembershipExactSpec)

/-- ITS FALSE NEIGHBOUR: 'it returns false'. Refute it at one input. -/
def fnMembershipExactWrong : ChangeSpec := { name := "fnMembershipExact", fn := fun _ => fun
  | [d1, d2, d3] => { results := [.lit (.bool false)], args := [d1, d2, d3] }
  | _ => none }
def FnMembershipExactWrongFalsely : Prop := fnMembershipExactRow.holds Try.pinned (OpenSpec.ofChange fnMembershipExactWrong)

/-- 'zzlaws_root_b1.FnMembershipSharesAndCaps': WHATEVER THE INPUT: true; the input reads as it did. -/
def fnMembershipSharesAndCapsSpec : ChangeSpec := { name := "fnMembershipSharesAndCaps", fn := fun _ => fun
  | [d1, d2, d3] => { results := [.lit (.bool true)], args := [d1, d2, d3] }
  | _ => none }
def fnMembershipSharesAndCapsRow : OpenClaim := { program := "qxb6605814a", sum := "e2085073dd0c4de19a6916d0b2ebda329ed35a6285d912878fe47f384b55cc2f", func := "example.com/hustings/zzlaws_root_b1.FnMembershipSharesAndCaps", spec := "fnMembershipSharesAndCaps", apart := false }
def FnMembershipSharesAndCapsSaid : Prop := fnMembershipSharesAndCapsRow.holds Try.pinned (OpenSpec.ofChange fnMembershipSharesAndCapsSpec)

/-- ITS FALSE NEIGHBOUR: 'it returns false'. Refute it at one input. -/
def fnMembershipSharesAndCapsWrong : ChangeSpec := { name := "fnMembershipSharesAndCaps", fn := fun _ => fun
  | [d1, d2, d3] => { results := [.lit (.bool false)], args := [d1, d2, d3] }
  | _ => none }
def FnMembershipSharesAndCapsWrongFalsely : Prop := fnMembershipSharesAndCapsRow.holds Try.pinned (OpenSpec.ofChange fnMembershipSharesAndCapsWrong)

/-- 'zzlaws_root_b1.FnHasMatchesScan': WHATEVER THE INPUT: true; the input reads as it did. -/
def fnHasMatchesScanSpec : ChangeSpec := { name := "fnHasMatchesScan", fn := fun _ => fun
  | [d1, d2, d3, d4] => { results := [.lit (.bool true)], args := [d1, d2, d3, d4] }
  | _ => none }
def fnHasMatchesScanRow : OpenClaim := { program := "qxb6605814a", sum := "e2085073dd0c4de19a6916d0b2ebda329ed35a6285d912878fe47f384b55cc2f", func := "example.com/hustings/zzlaws_root_b1.FnHasMatchesScan", spec := "fnHasMatchesScan", apart := false }
def FnHasMatchesScanSaid : Prop := fnHasMatchesScanRow.holds Try.pinned (OpenSpec.ofChange fnHasMatchesScanSpec)

/-- ITS FALSE NEIGHBOUR: 'it returns false'. Refute it at one input. -/
def fnHasMatchesScanWrong : ChangeSpec := { name := "fnHasMatchesScan", fn := fun _ => fun
  | [d1, d2, d3, d4] => { results := [.lit (.bool false)], args := [d1, d2, d3, d4] }
  | _ => none }
def FnHasMatchesScanWrongFalsely : Prop := fnHasMatchesScanRow.holds Try.pinned (OpenSpec.ofChange fnHasMatchesScanWrong)

/-- 'zzlaws_root_b1.FnHasEveryMemberFound': WHATEVER THE INPUT: true; the input reads as it did. -/
def fnHasEveryMemberFoundSpec : ChangeSpec := { name := "fnHasEveryMemberFound", fn := fun _ => fun
  | [d1, d2, d3] => { results := [.lit (.bool true)], args := [d1, d2, d3] }
  | _ => none }
def fnHasEveryMemberFoundRow : OpenClaim := { program := "qxb6605814a", sum := "e2085073dd0c4de19a6916d0b2ebda329ed35a6285d912878fe47f384b55cc2f", func := "example.com/hustings/zzlaws_root_b1.FnHasEveryMemberFound", spec := "fnHasEveryMemberFound", apart := false }
def FnHasEveryMemberFoundSaid : Prop := fnHasEveryMemberFoundRow.holds Try.pinned (OpenSpec.ofChange fnHasEveryMemberFoundSpec)

/-- ITS FALSE NEIGHBOUR: 'it returns false'. Refute it at one input. -/
def fnHasEveryMemberFoundWrong : ChangeSpec := { name := "fnHasEveryMemberFound", fn := fun _ => fun
  | [d1, d2, d3] => { results := [.lit (.bool false)], args := [d1, d2, d3] }
  | _ => none }
def FnHasEveryMemberFoundWrongFalsely : Prop := fnHasEveryMemberFoundRow.holds Try.pinned (OpenSpec.ofChange fnHasEveryMemberFoundWrong)

end Rows
end Go.Proofs.Qxb6605814a
