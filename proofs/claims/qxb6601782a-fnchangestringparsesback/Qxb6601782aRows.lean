/-
  No cell of these rows narrows 'for every input' (looked for: loops, veiled, ifaces, maps, wideKeys, modest, calm, conditions, laid).
  DERIVED. THE GIVEN ROWS OF THIS SEAT. 2 by the template 'for every input the law returns true; each argument reads behind the call as it read before'; 0 by the template 'total and deterministic' (their statements: Qxb6601782aTotals.lean).
  GIVEN WITH THE SEED: the statements are not yours to turn. If you find one false, say at which input.
  Laid BY PROGRAM, IN A SANDBOX (cutbox-rows.mjs): the forced cells as the released guide's own fill.sh prints them over the translation 0c5b921626d35470… (all of the seat's roots in one cut). By AI agents, Wed Nov 11 2026. No macro, syntax, notation, axiom, sorry.
-/
import Derived.Test.Qxb6601782aChecked
import GoSem.Claim
import GoSem.ClaimJoined
import GoSem.ClaimMapViews
import Derived.JoinedTies
import Derived.KernelRfl
namespace Go.Proofs.Qxb6601782a
/- THE CELL 'sum', in the pinned program and in every row, IS THE sha256 OF THE DUMP (.gsa) THAT Qxb6601782aProg.lean LOADS. Nothing in Lean hashes anything: it is a label: what it is worth is what the hold of that sum in a sandbox is worth. -/
noncomputable def Try.pinned : Pinned := { name := "qxb6601782a", sum := "0c5b921626d35470fac6f9e786a0267b8ecefc2ded701b3e2df4bace891b13f8", checked := Try.checked }
namespace Rows
def none {H : Type} : Left H := { results := [], args := [] }

/-- 'zzlaws_internal_rigs_durable_b1.FnChangeStringParsesBack': WHATEVER THE INPUT: true; the input reads as it did. -/
def fnChangeStringParsesBackSpec : ChangeSpec := { name := "fnChangeStringParsesBack", fn := fun _ => fun
  | [d1, d2, d3, d4, d5, d6, d7, d8, d9] => { results := [.lit (.bool true)], args := [d1, d2, d3, d4, d5, d6, d7, d8, d9] }
  | _ => none }
def fnChangeStringParsesBackRow : OpenClaim := { program := "qxb6601782a", sum := "0c5b921626d35470fac6f9e786a0267b8ecefc2ded701b3e2df4bace891b13f8", func := "example.com/strict-grants/strict-grants/zzlaws_internal_rigs_durable_b1.FnChangeStringParsesBack", spec := "fnChangeStringParsesBack", apart := false }
def FnChangeStringParsesBackSaid : Prop := fnChangeStringParsesBackRow.holds Try.pinned (OpenSpec.ofChange fnChangeStringParsesBackSpec)

/-- ITS FALSE NEIGHBOUR: 'it returns false'. Refute it at one input. -/
def fnChangeStringParsesBackWrong : ChangeSpec := { name := "fnChangeStringParsesBack", fn := fun _ => fun
  | [d1, d2, d3, d4, d5, d6, d7, d8, d9] => { results := [.lit (.bool false)], args := [d1, d2, d3, d4, d5, d6, d7, d8, d9] }
  | _ => none }
def FnChangeStringParsesBackWrongFalsely : Prop := fnChangeStringParsesBackRow.holds Try.pinned (OpenSpec.ofChange fnChangeStringParsesBackWrong)

/-- 'zzlaws_internal_rigs_durable_b1.FnHoldsReadsBack': WHATEVER THE INPUT: true; the input reads as it did. -/
def fnHoldsReadsBackSpec : ChangeSpec := { name := "fnHoldsReadsBack", fn := fun _ => fun
  | [d1, d2] => { results := [.lit (.bool true)], args := [d1, d2] }
  | _ => none }
def fnHoldsReadsBackRow : OpenClaim := { program := "qxb6601782a", sum := "0c5b921626d35470fac6f9e786a0267b8ecefc2ded701b3e2df4bace891b13f8", func := "example.com/strict-grants/strict-grants/zzlaws_internal_rigs_durable_b1.FnHoldsReadsBack", spec := "fnHoldsReadsBack", apart := false }
def FnHoldsReadsBackSaid : Prop := fnHoldsReadsBackRow.holds Try.pinned (OpenSpec.ofChange fnHoldsReadsBackSpec)

/-- ITS FALSE NEIGHBOUR: 'it returns false'. Refute it at one input. -/
def fnHoldsReadsBackWrong : ChangeSpec := { name := "fnHoldsReadsBack", fn := fun _ => fun
  | [d1, d2] => { results := [.lit (.bool false)], args := [d1, d2] }
  | _ => none }
def FnHoldsReadsBackWrongFalsely : Prop := fnHoldsReadsBackRow.holds Try.pinned (OpenSpec.ofChange fnHoldsReadsBackWrong)

end Rows
end Go.Proofs.Qxb6601782a
