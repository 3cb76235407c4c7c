/-
  NARROWER THAN 'FOR EVERY INPUT', by the rows' own cells (each row's printed sentence says how): FnFixedLengthIsTheOneLength: loops · FnFixedLengthNeverClaimsFalsely: loops.
  DERIVED. THE GIVEN ROWS OF THIS SEAT. 3 by the template 'for every input the law returns true; each argument reads behind the call as it read before'; 0 by the template 'total and deterministic' (their statements: Qxb6601528aTotals.lean).
  GIVEN WITH THE SEED: the statements are not yours to turn. If you find one false, say at which input.
  Laid BY PROGRAM, IN A SANDBOX (cutbox-rows.mjs): the forced cells as the released guide's own fill.sh prints them over the translation 380bec3097bb037d… (all of the seat's roots in one cut). By AI agents, Wed Nov 11 2026. No macro, syntax, notation, axiom, sorry.
-/
import Derived.Test.Qxb6601528aChecked
import GoSem.Claim
import GoSem.ClaimJoined
import GoSem.ClaimMapViews
import Derived.JoinedTies
import Derived.KernelRfl
namespace Go.Proofs.Qxb6601528a
/- THE CELL 'sum', in the pinned program and in every row, IS THE sha256 OF THE DUMP (.gsa) THAT Qxb6601528aProg.lean LOADS. Nothing in Lean hashes anything: it is a label: what it is worth is what the hold of that sum in a sandbox is worth. -/
noncomputable def Try.pinned : Pinned := { name := "qxb6601528a", sum := "380bec3097bb037d32cc94a81490ca64793aad964f79a497e01668ebfebf68c2", checked := Try.checked }
namespace Rows
def none {H : Type} : Left H := { results := [], args := [] }

/-- 'zzlaws_internal_regex_b1.FnFixedLengthIsTheOneLength': WHATEVER THE INPUT: true; the input reads as it did. -/
def fnFixedLengthIsTheOneLengthSpec : ChangeSpec := { name := "fnFixedLengthIsTheOneLength", fn := fun _ => fun
  | [d] => { results := [.lit (.bool true)], args := [d] }
  | _ => none }
def fnFixedLengthIsTheOneLengthRow : OpenClaim := { program := "qxb6601528a", sum := "380bec3097bb037d32cc94a81490ca64793aad964f79a497e01668ebfebf68c2", func := "example.com/crossbill/crossbill/zzlaws_internal_regex_b1.FnFixedLengthIsTheOneLength", spec := "fnFixedLengthIsTheOneLength", recurses := true, loops := true, apart := false }
def FnFixedLengthIsTheOneLengthSaid : Prop := fnFixedLengthIsTheOneLengthRow.holds Try.pinned (OpenSpec.ofChange fnFixedLengthIsTheOneLengthSpec)

/-- ITS FALSE NEIGHBOUR: 'it returns false'. Refute it at one input. -/
def fnFixedLengthIsTheOneLengthWrong : ChangeSpec := { name := "fnFixedLengthIsTheOneLength", fn := fun _ => fun
  | [d] => { results := [.lit (.bool false)], args := [d] }
  | _ => none }
def FnFixedLengthIsTheOneLengthWrongFalsely : Prop := fnFixedLengthIsTheOneLengthRow.holds Try.pinned (OpenSpec.ofChange fnFixedLengthIsTheOneLengthWrong)

/-- 'zzlaws_internal_regex_b1.FnFixedLengthNeverClaimsFalsely': WHATEVER THE INPUT: true; the input reads as it did. -/
def fnFixedLengthNeverClaimsFalselySpec : ChangeSpec := { name := "fnFixedLengthNeverClaimsFalsely", fn := fun _ => fun
  | [d] => { results := [.lit (.bool true)], args := [d] }
  | _ => none }
def fnFixedLengthNeverClaimsFalselyRow : OpenClaim := { program := "qxb6601528a", sum := "380bec3097bb037d32cc94a81490ca64793aad964f79a497e01668ebfebf68c2", func := "example.com/crossbill/crossbill/zzlaws_internal_regex_b1.FnFixedLengthNeverClaimsFalsely", spec := "fnFixedLengthNeverClaimsFalsely", recurses := true, loops := true, apart := false }
def FnFixedLengthNeverClaimsFalselySaid : Prop := fnFixedLengthNeverClaimsFalselyRow.holds Try.pinned (OpenSpec.ofChange fnFixedLengthNeverClaimsFalselySpec)

/-- ITS FALSE NEIGHBOUR: 'it returns false'. Refute it at one input. -/
def fnFixedLengthNeverClaimsFalselyWrong : ChangeSpec := { name := "fnFixedLengthNeverClaimsFalsely", fn := fun _ => fun
  | [d] => { results := [.lit (.bool false)], args := [d] }
  | _ => none }
def FnFixedLengthNeverClaimsFalselyWrongFalsely : Prop := fnFixedLengthNeverClaimsFalselyRow.holds Try.pinned (OpenSpec.ofChange fnFixedLengthNeverClaimsFalselyWrong)

/-- 'zzlaws_internal_regex_b1.FnBackrefReadsFirstCapturedElseLast': WHATEVER THE INPUT: true; the input reads as it did. -/
def fnBackrefReadsFirstCapturedElseLastSpec : ChangeSpec := { name := "fnBackrefReadsFirstCapturedElseLast", fn := fun _ => fun
  | [d1, d2, d3, d4, d5] => { results := [.lit (.bool true)], args := [d1, d2, d3, d4, d5] }
  | _ => none }
def fnBackrefReadsFirstCapturedElseLastRow : OpenClaim := { program := "qxb6601528a", sum := "380bec3097bb037d32cc94a81490ca64793aad964f79a497e01668ebfebf68c2", func := "example.com/crossbill/crossbill/zzlaws_internal_regex_b1.FnBackrefReadsFirstCapturedElseLast", spec := "fnBackrefReadsFirstCapturedElseLast", apart := false }
def FnBackrefReadsFirstCapturedElseLastSaid : Prop := fnBackrefReadsFirstCapturedElseLastRow.holds Try.pinned (OpenSpec.ofChange fnBackrefReadsFirstCapturedElseLastSpec)

/-- ITS FALSE NEIGHBOUR: 'it returns false'. Refute it at one input. -/
def fnBackrefReadsFirstCapturedElseLastWrong : ChangeSpec := { name := "fnBackrefReadsFirstCapturedElseLast", fn := fun _ => fun
  | [d1, d2, d3, d4, d5] => { results := [.lit (.bool false)], args := [d1, d2, d3, d4, d5] }
  | _ => none }
def FnBackrefReadsFirstCapturedElseLastWrongFalsely : Prop := fnBackrefReadsFirstCapturedElseLastRow.holds Try.pinned (OpenSpec.ofChange fnBackrefReadsFirstCapturedElseLastWrong)

end Rows
end Go.Proofs.Qxb6601528a
