/-
  No cell of these rows narrows 'for every input' (looked for: loops, veiled, ifaces, maps, wideKeys, modest, calm, conditions, laid).
  DERIVED. THE GIVEN ROWS OF THIS SEAT. 2 by the template 'for every input the law returns true; each argument reads behind the call as it read before'; 0 by the template 'total and deterministic' (their statements: Qxb6626238aTotals.lean).
  GIVEN WITH THE SEED: the statements are not yours to turn. If you find one false, say at which input.
  Laid BY PROGRAM, IN A SANDBOX (cutbox-rows.mjs): the forced cells as the released guide's own fill.sh prints them over the translation cafae0db1d5c3fc2… (all of the seat's roots in one cut). By AI agents, Wed Nov 11 2026. No macro, syntax, notation, axiom, sorry.
-/
import Derived.Test.Qxb6626238aChecked
import GoSem.Claim
import GoSem.ClaimJoined
import GoSem.ClaimMapViews
import Derived.JoinedTies
import Derived.KernelRfl
namespace Go.Proofs.Qxb6626238a
/- THE CELL 'sum', in the pinned program and in every row, IS THE sha256 OF THE DUMP (.gsa) THAT Qxb6626238aProg.lean LOADS. Nothing in Lean hashes anything: it is a label: what it is worth is what the hold of that sum in a sandbox is worth. -/
noncomputable def Try.pinned : Pinned := { name := "qxb6626238a", sum := "cafae0db1d5c3fc2d96fbb11c0ad94529fc3543b28ab5b9dea1803b647e092cf", checked := Try.checked }
namespace Rows
def none {H : Type} : Left H := { results := [], args := [] }

/-- 'zzlaws_internal_model_b1.FnMinLengthInsertOne': WHATEVER THE INPUT: true; the input reads as it did. -/
def fnMinLengthInsertOneSpec : ChangeSpec := { name := "fnMinLengthInsertOne", fn := fun _ => fun
  | [d1, d2, d3] => { results := [.lit (.bool true)], args := [d1, d2, d3] }
  | _ => none }
def fnMinLengthInsertOneRow : OpenClaim := { program := "qxb6626238a", sum := "cafae0db1d5c3fc2d96fbb11c0ad94529fc3543b28ab5b9dea1803b647e092cf", func := "example.com/plainwire/plainwire/zzlaws_internal_model_b1.FnMinLengthInsertOne", spec := "fnMinLengthInsertOne", apart := false }
def FnMinLengthInsertOneSaid : Prop := fnMinLengthInsertOneRow.holds Try.pinned (OpenSpec.ofChange fnMinLengthInsertOneSpec)

/-- ITS FALSE NEIGHBOUR: 'it returns false'. Refute it at one input. -/
def fnMinLengthInsertOneWrong : ChangeSpec := { name := "fnMinLengthInsertOne", fn := fun _ => fun
  | [d1, d2, d3] => { results := [.lit (.bool false)], args := [d1, d2, d3] }
  | _ => none }
def FnMinLengthInsertOneWrongFalsely : Prop := fnMinLengthInsertOneRow.holds Try.pinned (OpenSpec.ofChange fnMinLengthInsertOneWrong)

/-- 'zzlaws_internal_model_b1.FnMinLengthSplice': WHATEVER THE INPUT: true; the input reads as it did. -/
def fnMinLengthSpliceSpec : ChangeSpec := { name := "fnMinLengthSplice", fn := fun _ => fun
  | [d1, d2, d3, d4] => { results := [.lit (.bool true)], args := [d1, d2, d3, d4] }
  | _ => none }
def fnMinLengthSpliceRow : OpenClaim := { program := "qxb6626238a", sum := "cafae0db1d5c3fc2d96fbb11c0ad94529fc3543b28ab5b9dea1803b647e092cf", func := "example.com/plainwire/plainwire/zzlaws_internal_model_b1.FnMinLengthSplice", spec := "fnMinLengthSplice", apart := false }
def FnMinLengthSpliceSaid : Prop := fnMinLengthSpliceRow.holds Try.pinned (OpenSpec.ofChange fnMinLengthSpliceSpec)

/-- ITS FALSE NEIGHBOUR: 'it returns false'. Refute it at one input. -/
def fnMinLengthSpliceWrong : ChangeSpec := { name := "fnMinLengthSplice", fn := fun _ => fun
  | [d1, d2, d3, d4] => { results := [.lit (.bool false)], args := [d1, d2, d3, d4] }
  | _ => none }
def FnMinLengthSpliceWrongFalsely : Prop := fnMinLengthSpliceRow.holds Try.pinned (OpenSpec.ofChange fnMinLengthSpliceWrong)

end Rows
end Go.Proofs.Qxb6626238a
