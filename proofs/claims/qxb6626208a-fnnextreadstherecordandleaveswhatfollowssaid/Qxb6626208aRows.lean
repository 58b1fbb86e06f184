/-
  No cell of these rows narrows 'for every input' (looked for: loops, veiled, ifaces, maps, wideKeys, modest, calm, conditions, laid).
  DERIVED. THE GIVEN ROWS OF THIS SEAT. 2 by the template 'for every input the law returns true; each argument reads behind the call as it read before'; 0 by the template 'total and deterministic' (their statements: Qxb6626208aTotals.lean).
  GIVEN WITH THE SEED: the statements are not yours to turn. If you find one false, say at which input.
  Laid BY PROGRAM, IN A SANDBOX (cutbox-rows.mjs): the forced cells as the released guide's own fill.sh prints them over the translation 35559919e256ec65… (all of the seat's roots in one cut). By AI agents, Wed Nov 11 2026. No macro, syntax, notation, axiom, sorry.
-/
import Derived.Test.Qxb6626208aChecked
import GoSem.Claim
import GoSem.ClaimJoined
import GoSem.ClaimMapViews
import Derived.JoinedTies
import Derived.KernelRfl
namespace Go.Proofs.Qxb6626208a
/- THE CELL 'sum', in the pinned program and in every row, IS THE sha256 OF THE DUMP (.gsa) THAT Qxb6626208aProg.lean LOADS. Nothing in Lean hashes anything: it is a label: what it is worth is what the hold of that sum in a sandbox is worth. -/
noncomputable def Try.pinned : Pinned := { name := "qxb6626208a", sum := "35559919e256ec65494896a15453cae949402cbb5ff6feed222a9504be0b6f4e", checked := Try.checked }
namespace Rows
def none {H : Type} : Left H := { results := [], args := [] }

/-- 'zzlaws_codec_b1.FnNextReadsTheRecordAndLeavesWhatFollows': WHATEVER THE INPUT: true; the input reads as it did. -/
def fnNextReadsTheRecordAndLeavesWhatFollowsSpec : ChangeSpec := { name := "fnNextReadsTheRecordAndLeavesWhatFollows", fn := fun _ => fun
  | [d1, d2] => { results := [.lit (.bool true)], args := [d1, d2] }
  | _ => none }
def fnNextReadsTheRecordAndLeavesWhatFollowsRow : OpenClaim := { program := "qxb6626208a", sum := "35559919e256ec65494896a15453cae949402cbb5ff6feed222a9504be0b6f4e", func := "example.com/mortise/mortise/zzlaws_codec_b1.FnNextReadsTheRecordAndLeavesWhatFollows", spec := "fnNextReadsTheRecordAndLeavesWhatFollows", apart := false }
def FnNextReadsTheRecordAndLeavesWhatFollowsSaid : Prop := fnNextReadsTheRecordAndLeavesWhatFollowsRow.holds Try.pinned (OpenSpec.ofChange fnNextReadsTheRecordAndLeavesWhatFollowsSpec)

/-- ITS FALSE NEIGHBOUR: 'it returns false'. Refute it at one input. -/
def fnNextReadsTheRecordAndLeavesWhatFollowsWrong : ChangeSpec := { name := "fnNextReadsTheRecordAndLeavesWhatFollows", fn := fun _ => fun
  | [d1, d2] => { results := [.lit (.bool false)], args := [d1, d2] }
  | _ => none }
def FnNextReadsTheRecordAndLeavesWhatFollowsWrongFalsely : Prop := fnNextReadsTheRecordAndLeavesWhatFollowsRow.holds Try.pinned (OpenSpec.ofChange fnNextReadsTheRecordAndLeavesWhatFollowsWrong)

/-- 'zzlaws_codec_b1.FnNextReadsRecordsInTurn': WHATEVER THE INPUT: true; the input reads as it did. -/
def fnNextReadsRecordsInTurnSpec : ChangeSpec := { name := "fnNextReadsRecordsInTurn", fn := fun _ => fun
  | [d] => { results := [.lit (.bool true)], args := [d] }
  | _ => none }
def fnNextReadsRecordsInTurnRow : OpenClaim := { program := "qxb6626208a", sum := "35559919e256ec65494896a15453cae949402cbb5ff6feed222a9504be0b6f4e", func := "example.com/mortise/mortise/zzlaws_codec_b1.FnNextReadsRecordsInTurn", spec := "fnNextReadsRecordsInTurn", apart := false }
def FnNextReadsRecordsInTurnSaid : Prop := fnNextReadsRecordsInTurnRow.holds Try.pinned (OpenSpec.ofChange fnNextReadsRecordsInTurnSpec)

/-- ITS FALSE NEIGHBOUR: 'it returns false'. Refute it at one input. -/
def fnNextReadsRecordsInTurnWrong : ChangeSpec := { name := "fnNextReadsRecordsInTurn", fn := fun _ => fun
  | [d] => { results := [.lit (.bool false)], args := [d] }
  | _ => none }
def FnNextReadsRecordsInTurnWrongFalsely : Prop := fnNextReadsRecordsInTurnRow.holds Try.pinned (OpenSpec.ofChange fnNextReadsRecordsInTurnWrong)

end Rows
end Go.Proofs.Qxb6626208a
