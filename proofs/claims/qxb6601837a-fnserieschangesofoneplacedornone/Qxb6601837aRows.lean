/-
  No cell of these rows narrows 'for every input' (looked for: loops, veiled, ifaces, maps, wideKeys, modest, calm, conditions, laid).
  DERIVED. THE GIVEN ROWS OF THIS SEAT. 6 by the template 'for every input the law returns true; each argument reads behind the call as it read before'; 0 by the template 'total and deterministic' (their statements: Qxb6601837aTotals.lean).
  GIVEN WITH THE SEED: the statements are not yours to turn. If you find one false, say at which input.
  Laid BY PROGRAM, IN A SANDBOX (cutbox-rows.mjs): the forced cells as the released guide's own fill.sh prints them over the translation ac1b510bc0317477… (all of the seat's roots in one cut). By AI agents, Wed Nov 11 2026. No macro, syntax, notation, axiom, sorry.
-/
import Derived.Test.Qxb6601837aChecked
import GoSem.Claim
import GoSem.ClaimJoined
import GoSem.ClaimMapViews
import Derived.JoinedTies
import Derived.KernelRfl
namespace Go.Proofs.Qxb6601837a
/- THE CELL 'sum', in the pinned program and in every row, IS THE sha256 OF THE DUMP (.gsa) THAT Qxb6601837aProg.lean LOADS. Nothing in Lean hashes anything: it is a label: what it is worth is what the hold of that sum in a sandbox is worth. -/
noncomputable def Try.pinned : Pinned := { name := "qxb6601837a", sum := "ac1b510bc0317477c5b81b486182de6e9f652e6e2b57506893d456ec011f3e4f", checked := Try.checked }
namespace Rows
def none {H : Type} : Left H := { results := [], args := [] }

/-- 'zzlaws_replay_b1.FnChangesSplitsWithinALine': WHATEVER THE INPUT: true; the input reads as it did. -/
def fnChangesSplitsWithinALineSpec : ChangeSpec := { name := "fnChangesSplitsWithinALine", fn := fun _ => fun
  | [d1, d2, d3, d4] => { results := [.lit (.bool true)], args := [d1, d2, d3, d4] }
  | _ => none }
def fnChangesSplitsWithinALineRow : OpenClaim := { program := "qxb6601837a", sum := "ac1b510bc0317477c5b81b486182de6e9f652e6e2b57506893d456ec011f3e4f", func := "example.com/restrata/restrata/zzlaws_replay_b1.FnChangesSplitsWithinALine", spec := "fnChangesSplitsWithinALine", apart := false }
def FnChangesSplitsWithinALineSaid : Prop := fnChangesSplitsWithinALineRow.holds Try.pinned (OpenSpec.ofChange fnChangesSplitsWithinALineSpec)

/-- ITS FALSE NEIGHBOUR: 'it returns false'. Refute it at one input. -/
def fnChangesSplitsWithinALineWrong : ChangeSpec := { name := "fnChangesSplitsWithinALine", fn := fun _ => fun
  | [d1, d2, d3, d4] => { results := [.lit (.bool false)], args := [d1, d2, d3, d4] }
  | _ => none }
def FnChangesSplitsWithinALineWrongFalsely : Prop := fnChangesSplitsWithinALineRow.holds Try.pinned (OpenSpec.ofChange fnChangesSplitsWithinALineWrong)

/-- 'zzlaws_replay_b1.FnChangesIsTheJoinOfItsRows': WHATEVER THE INPUT: true; the input reads as it did. -/
def fnChangesIsTheJoinOfItsRowsSpec : ChangeSpec := { name := "fnChangesIsTheJoinOfItsRows", fn := fun _ => fun
  | [d1, d2] => { results := [.lit (.bool true)], args := [d1, d2] }
  | _ => none }
def fnChangesIsTheJoinOfItsRowsRow : OpenClaim := { program := "qxb6601837a", sum := "ac1b510bc0317477c5b81b486182de6e9f652e6e2b57506893d456ec011f3e4f", func := "example.com/restrata/restrata/zzlaws_replay_b1.FnChangesIsTheJoinOfItsRows", spec := "fnChangesIsTheJoinOfItsRows", apart := false }
def FnChangesIsTheJoinOfItsRowsSaid : Prop := fnChangesIsTheJoinOfItsRowsRow.holds Try.pinned (OpenSpec.ofChange fnChangesIsTheJoinOfItsRowsSpec)

/-- ITS FALSE NEIGHBOUR: 'it returns false'. Refute it at one input. -/
def fnChangesIsTheJoinOfItsRowsWrong : ChangeSpec := { name := "fnChangesIsTheJoinOfItsRows", fn := fun _ => fun
  | [d1, d2] => { results := [.lit (.bool false)], args := [d1, d2] }
  | _ => none }
def FnChangesIsTheJoinOfItsRowsWrongFalsely : Prop := fnChangesIsTheJoinOfItsRowsRow.holds Try.pinned (OpenSpec.ofChange fnChangesIsTheJoinOfItsRowsWrong)

/-- 'zzlaws_replay_b1.FnChangesSwappedHashesGiveTheReverse': WHATEVER THE INPUT: true; the input reads as it did. -/
def fnChangesSwappedHashesGiveTheReverseSpec : ChangeSpec := { name := "fnChangesSwappedHashesGiveTheReverse", fn := fun _ => fun
  | [d1, d2] => { results := [.lit (.bool true)], args := [d1, d2] }
  | _ => none }
def fnChangesSwappedHashesGiveTheReverseRow : OpenClaim := { program := "qxb6601837a", sum := "ac1b510bc0317477c5b81b486182de6e9f652e6e2b57506893d456ec011f3e4f", func := "example.com/restrata/restrata/zzlaws_replay_b1.FnChangesSwappedHashesGiveTheReverse", spec := "fnChangesSwappedHashesGiveTheReverse", apart := false }
def FnChangesSwappedHashesGiveTheReverseSaid : Prop := fnChangesSwappedHashesGiveTheReverseRow.holds Try.pinned (OpenSpec.ofChange fnChangesSwappedHashesGiveTheReverseSpec)

/-- ITS FALSE NEIGHBOUR: 'it returns false'. Refute it at one input. -/
def fnChangesSwappedHashesGiveTheReverseWrong : ChangeSpec := { name := "fnChangesSwappedHashesGiveTheReverse", fn := fun _ => fun
  | [d1, d2] => { results := [.lit (.bool false)], args := [d1, d2] }
  | _ => none }
def FnChangesSwappedHashesGiveTheReverseWrongFalsely : Prop := fnChangesSwappedHashesGiveTheReverseRow.holds Try.pinned (OpenSpec.ofChange fnChangesSwappedHashesGiveTheReverseWrong)

/-- 'zzlaws_replay_b1.FnSeriesChangesOfOnePlacedOrNone': WHATEVER THE INPUT: true; the input reads as it did. -/
def fnSeriesChangesOfOnePlacedOrNoneSpec : ChangeSpec := { name := "fnSeriesChangesOfOnePlacedOrNone", fn := fun _ => fun
  | [d] => { results := [.lit (.bool true)], args := [d] }
  | _ => none }
def fnSeriesChangesOfOnePlacedOrNoneRow : OpenClaim := { program := "qxb6601837a", sum := "ac1b510bc0317477c5b81b486182de6e9f652e6e2b57506893d456ec011f3e4f", func := "example.com/restrata/restrata/zzlaws_replay_b1.FnSeriesChangesOfOnePlacedOrNone", spec := "fnSeriesChangesOfOnePlacedOrNone", apart := false }
def FnSeriesChangesOfOnePlacedOrNoneSaid : Prop := fnSeriesChangesOfOnePlacedOrNoneRow.holds Try.pinned (OpenSpec.ofChange fnSeriesChangesOfOnePlacedOrNoneSpec)

/-- ITS FALSE NEIGHBOUR: 'it returns false'. Refute it at one input. -/
def fnSeriesChangesOfOnePlacedOrNoneWrong : ChangeSpec := { name := "fnSeriesChangesOfOnePlacedOrNone", fn := fun _ => fun
  | [d] => { results := [.lit (.bool false)], args := [d] }
  | _ => none }
def FnSeriesChangesOfOnePlacedOrNoneWrongFalsely : Prop := fnSeriesChangesOfOnePlacedOrNoneRow.holds Try.pinned (OpenSpec.ofChange fnSeriesChangesOfOnePlacedOrNoneWrong)

/-- 'zzlaws_replay_b1.FnSeriesChangesSplitsAtAnyPlace': WHATEVER THE INPUT: true; the input reads as it did. -/
def fnSeriesChangesSplitsAtAnyPlaceSpec : ChangeSpec := { name := "fnSeriesChangesSplitsAtAnyPlace", fn := fun _ => fun
  | [d1, d2] => { results := [.lit (.bool true)], args := [d1, d2] }
  | _ => none }
def fnSeriesChangesSplitsAtAnyPlaceRow : OpenClaim := { program := "qxb6601837a", sum := "ac1b510bc0317477c5b81b486182de6e9f652e6e2b57506893d456ec011f3e4f", func := "example.com/restrata/restrata/zzlaws_replay_b1.FnSeriesChangesSplitsAtAnyPlace", spec := "fnSeriesChangesSplitsAtAnyPlace", apart := false }
def FnSeriesChangesSplitsAtAnyPlaceSaid : Prop := fnSeriesChangesSplitsAtAnyPlaceRow.holds Try.pinned (OpenSpec.ofChange fnSeriesChangesSplitsAtAnyPlaceSpec)

/-- ITS FALSE NEIGHBOUR: 'it returns false'. Refute it at one input. -/
def fnSeriesChangesSplitsAtAnyPlaceWrong : ChangeSpec := { name := "fnSeriesChangesSplitsAtAnyPlace", fn := fun _ => fun
  | [d1, d2] => { results := [.lit (.bool false)], args := [d1, d2] }
  | _ => none }
def FnSeriesChangesSplitsAtAnyPlaceWrongFalsely : Prop := fnSeriesChangesSplitsAtAnyPlaceRow.holds Try.pinned (OpenSpec.ofChange fnSeriesChangesSplitsAtAnyPlaceWrong)

/-- 'zzlaws_replay_b1.FnSeriesChangesIgnoresCompensations': WHATEVER THE INPUT: true; the input reads as it did. -/
def fnSeriesChangesIgnoresCompensationsSpec : ChangeSpec := { name := "fnSeriesChangesIgnoresCompensations", fn := fun _ => fun
  | [d] => { results := [.lit (.bool true)], args := [d] }
  | _ => none }
def fnSeriesChangesIgnoresCompensationsRow : OpenClaim := { program := "qxb6601837a", sum := "ac1b510bc0317477c5b81b486182de6e9f652e6e2b57506893d456ec011f3e4f", func := "example.com/restrata/restrata/zzlaws_replay_b1.FnSeriesChangesIgnoresCompensations", spec := "fnSeriesChangesIgnoresCompensations", apart := false }
def FnSeriesChangesIgnoresCompensationsSaid : Prop := fnSeriesChangesIgnoresCompensationsRow.holds Try.pinned (OpenSpec.ofChange fnSeriesChangesIgnoresCompensationsSpec)

/-- ITS FALSE NEIGHBOUR: 'it returns false'. Refute it at one input. -/
def fnSeriesChangesIgnoresCompensationsWrong : ChangeSpec := { name := "fnSeriesChangesIgnoresCompensations", fn := fun _ => fun
  | [d] => { results := [.lit (.bool false)], args := [d] }
  | _ => none }
def FnSeriesChangesIgnoresCompensationsWrongFalsely : Prop := fnSeriesChangesIgnoresCompensationsRow.holds Try.pinned (OpenSpec.ofChange fnSeriesChangesIgnoresCompensationsWrong)

end Rows
end Go.Proofs.Qxb6601837a
