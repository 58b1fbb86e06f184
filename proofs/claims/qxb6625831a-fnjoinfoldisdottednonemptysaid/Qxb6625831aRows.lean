/-
  No cell of these rows narrows 'for every input' (looked for: loops, veiled, ifaces, maps, wideKeys, modest, calm, conditions, laid).
  DERIVED. THE GIVEN ROWS OF THIS SEAT. 2 by the template 'for every input the law returns true; each argument reads behind the call as it read before'; 0 by the template 'total and deterministic' (their statements: Qxb6625831aTotals.lean).
  GIVEN WITH THE SEED: the statements are not yours to turn. If you find one false, say at which input.
  Laid BY PROGRAM, IN A SANDBOX (cutbox-rows.mjs): the forced cells as the released guide's own fill.sh prints them over the translation c8388b48949b3c6b… (all of the seat's roots in one cut). By AI agents, Wed Nov 11 2026. No macro, syntax, notation, axiom, sorry.
-/
import Derived.Test.Qxb6625831aChecked
import GoSem.Claim
import GoSem.ClaimJoined
import GoSem.ClaimMapViews
import Derived.JoinedTies
import Derived.KernelRfl
namespace Go.Proofs.Qxb6625831a
/- THE CELL 'sum', in the pinned program and in every row, IS THE sha256 OF THE DUMP (.gsa) THAT Qxb6625831aProg.lean LOADS. Nothing in Lean hashes anything: it is a label: what it is worth is what the hold of that sum in a sandbox is worth. -/
noncomputable def Try.pinned : Pinned := { name := "qxb6625831a", sum := "c8388b48949b3c6b4595f51e48fb45a2794b94bbb991b06379ac42188e3ebeaf", checked := Try.checked }
namespace Rows
def none {H : Type} : Left H := { results := [], args := [] }

/-- 'zzlaws_internal_jsonform_b1.FnJoinFoldIsDottedNonEmpty': WHATEVER THE INPUT: true; the input reads as it did. -/
def fnJoinFoldIsDottedNonEmptySpec : ChangeSpec := { name := "fnJoinFoldIsDottedNonEmpty", fn := fun _ => fun
  | [d] => { results := [.lit (.bool true)], args := [d] }
  | _ => none }
def fnJoinFoldIsDottedNonEmptyRow : OpenClaim := { program := "qxb6625831a", sum := "c8388b48949b3c6b4595f51e48fb45a2794b94bbb991b06379ac42188e3ebeaf", func := "example.com/zhaomu/zhaomu/zzlaws_internal_jsonform_b1.FnJoinFoldIsDottedNonEmpty", spec := "fnJoinFoldIsDottedNonEmpty", apart := false }
def FnJoinFoldIsDottedNonEmptySaid : Prop := fnJoinFoldIsDottedNonEmptyRow.holds Try.pinned (OpenSpec.ofChange fnJoinFoldIsDottedNonEmptySpec)

/-- ITS FALSE NEIGHBOUR: 'it returns false'. Refute it at one input. -/
def fnJoinFoldIsDottedNonEmptyWrong : ChangeSpec := { name := "fnJoinFoldIsDottedNonEmpty", fn := fun _ => fun
  | [d] => { results := [.lit (.bool false)], args := [d] }
  | _ => none }
def FnJoinFoldIsDottedNonEmptyWrongFalsely : Prop := fnJoinFoldIsDottedNonEmptyRow.holds Try.pinned (OpenSpec.ofChange fnJoinFoldIsDottedNonEmptyWrong)

/-- 'zzlaws_internal_jsonform_b1.FnJoinMonoid': WHATEVER THE INPUT: true; the input reads as it did. -/
def fnJoinMonoidSpec : ChangeSpec := { name := "fnJoinMonoid", fn := fun _ => fun
  | [d1, d2, d3] => { results := [.lit (.bool true)], args := [d1, d2, d3] }
  | _ => none }
def fnJoinMonoidRow : OpenClaim := { program := "qxb6625831a", sum := "c8388b48949b3c6b4595f51e48fb45a2794b94bbb991b06379ac42188e3ebeaf", func := "example.com/zhaomu/zhaomu/zzlaws_internal_jsonform_b1.FnJoinMonoid", spec := "fnJoinMonoid", apart := false }
def FnJoinMonoidSaid : Prop := fnJoinMonoidRow.holds Try.pinned (OpenSpec.ofChange fnJoinMonoidSpec)

/-- ITS FALSE NEIGHBOUR: 'it returns false'. Refute it at one input. -/
def fnJoinMonoidWrong : ChangeSpec := { name := "fnJoinMonoid", fn := fun _ => fun
  | [d1, d2, d3] => { results := [.lit (.bool false)], args := [d1, d2, d3] }
  | _ => none }
def FnJoinMonoidWrongFalsely : Prop := fnJoinMonoidRow.holds Try.pinned (OpenSpec.ofChange fnJoinMonoidWrong)

end Rows
end Go.Proofs.Qxb6625831a
