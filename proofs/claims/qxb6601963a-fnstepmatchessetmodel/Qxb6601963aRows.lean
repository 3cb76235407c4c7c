/-
  No cell of these rows narrows 'for every input' (looked for: loops, veiled, ifaces, maps, wideKeys, modest, calm, conditions, laid).
  DERIVED. THE GIVEN ROWS OF THIS SEAT. 3 by the template 'for every input the law returns true; each argument reads behind the call as it read before'; 0 by the template 'total and deterministic' (their statements: Qxb6601963aTotals.lean).
  GIVEN WITH THE SEED: the statements are not yours to turn. If you find one false, say at which input.
  Laid BY PROGRAM, IN A SANDBOX (cutbox-rows.mjs): the forced cells as the released guide's own fill.sh prints them over the translation 167d3d9b040cd1c6… (all of the seat's roots in one cut). By AI agents, Wed Nov 11 2026. No macro, syntax, notation, axiom, sorry.
-/
import Derived.Test.Qxb6601963aChecked
import GoSem.Claim
import GoSem.ClaimJoined
import GoSem.ClaimMapViews
import Derived.JoinedTies
import Derived.KernelRfl
namespace Go.Proofs.Qxb6601963a
/- THE CELL 'sum', in the pinned program and in every row, IS THE sha256 OF THE DUMP (.gsa) THAT Qxb6601963aProg.lean LOADS. Nothing in Lean hashes anything: it is a label: what it is worth is what the hold of that sum in a sandbox is worth. -/
noncomputable def Try.pinned : Pinned := { name := "qxb6601963a", sum := "167d3d9b040cd1c60e9c8b1b9107e6b83b6d33e394a3351c9f51e1bc13359dab", checked := Try.checked }
namespace Rows
def none {H : Type} : Left H := { results := [], args := [] }

/-- 'zzlaws_internal_history_b1.FnStepMatchesSetModel': WHATEVER THE INPUT: true; the input reads as it did. -/
def fnStepMatchesSetModelSpec : ChangeSpec := { name := "fnStepMatchesSetModel", fn := fun _ => fun
  | [d1, d2, d3] => { results := [.lit (.bool true)], args := [d1, d2, d3] }
  | _ => none }
def fnStepMatchesSetModelRow : OpenClaim := { program := "qxb6601963a", sum := "167d3d9b040cd1c60e9c8b1b9107e6b83b6d33e394a3351c9f51e1bc13359dab", func := "example.com/moorlock/moorlock/zzlaws_internal_history_b1.FnStepMatchesSetModel", spec := "fnStepMatchesSetModel", recurses := true, apart := false }
def FnStepMatchesSetModelSaid : Prop := fnStepMatchesSetModelRow.holds Try.pinned (OpenSpec.ofChange fnStepMatchesSetModelSpec)

/-- ITS FALSE NEIGHBOUR: 'it returns false'. Refute it at one input. -/
def fnStepMatchesSetModelWrong : ChangeSpec := { name := "fnStepMatchesSetModel", fn := fun _ => fun
  | [d1, d2, d3] => { results := [.lit (.bool false)], args := [d1, d2, d3] }
  | _ => none }
def FnStepMatchesSetModelWrongFalsely : Prop := fnStepMatchesSetModelRow.holds Try.pinned (OpenSpec.ofChange fnStepMatchesSetModelWrong)

/-- 'zzlaws_internal_history_b1.FnStepFailedCASOrderFree': WHATEVER THE INPUT: true; the input reads as it did. -/
def fnStepFailedCASOrderFreeSpec : ChangeSpec := { name := "fnStepFailedCASOrderFree", fn := fun _ => fun
  | [d1, d2, d3] => { results := [.lit (.bool true)], args := [d1, d2, d3] }
  | _ => none }
def fnStepFailedCASOrderFreeRow : OpenClaim := { program := "qxb6601963a", sum := "167d3d9b040cd1c60e9c8b1b9107e6b83b6d33e394a3351c9f51e1bc13359dab", func := "example.com/moorlock/moorlock/zzlaws_internal_history_b1.FnStepFailedCASOrderFree", spec := "fnStepFailedCASOrderFree", recurses := true, apart := false }
def FnStepFailedCASOrderFreeSaid : Prop := fnStepFailedCASOrderFreeRow.holds Try.pinned (OpenSpec.ofChange fnStepFailedCASOrderFreeSpec)

/-- ITS FALSE NEIGHBOUR: 'it returns false'. Refute it at one input. -/
def fnStepFailedCASOrderFreeWrong : ChangeSpec := { name := "fnStepFailedCASOrderFree", fn := fun _ => fun
  | [d1, d2, d3] => { results := [.lit (.bool false)], args := [d1, d2, d3] }
  | _ => none }
def FnStepFailedCASOrderFreeWrongFalsely : Prop := fnStepFailedCASOrderFreeRow.holds Try.pinned (OpenSpec.ofChange fnStepFailedCASOrderFreeWrong)

/-- 'zzlaws_internal_history_b1.FnMembersStringReadsBack': WHATEVER THE INPUT: true; the input reads as it did. -/
def fnMembersStringReadsBackSpec : ChangeSpec := { name := "fnMembersStringReadsBack", fn := fun _ => fun
  | [d1, d2, d3, d4, d5, d6] => { results := [.lit (.bool true)], args := [d1, d2, d3, d4, d5, d6] }
  | _ => none }
def fnMembersStringReadsBackRow : OpenClaim := { program := "qxb6601963a", sum := "167d3d9b040cd1c60e9c8b1b9107e6b83b6d33e394a3351c9f51e1bc13359dab", func := "example.com/moorlock/moorlock/zzlaws_internal_history_b1.FnMembersStringReadsBack", spec := "fnMembersStringReadsBack", apart := false }
def FnMembersStringReadsBackSaid : Prop := fnMembersStringReadsBackRow.holds Try.pinned (OpenSpec.ofChange fnMembersStringReadsBackSpec)

/-- ITS FALSE NEIGHBOUR: 'it returns false'. Refute it at one input. -/
def fnMembersStringReadsBackWrong : ChangeSpec := { name := "fnMembersStringReadsBack", fn := fun _ => fun
  | [d1, d2, d3, d4, d5, d6] => { results := [.lit (.bool false)], args := [d1, d2, d3, d4, d5, d6] }
  | _ => none }
def FnMembersStringReadsBackWrongFalsely : Prop := fnMembersStringReadsBackRow.holds Try.pinned (OpenSpec.ofChange fnMembersStringReadsBackWrong)

end Rows
end Go.Proofs.Qxb6601963a
