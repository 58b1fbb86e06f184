/-
  DERIVED. GIVEN WITH THE SEED: THE CARDS: each row of Qxb6625877aDoorRows.lean that lists a variable, with what it lists TIED to the program's text (the seventh form; the later family's looks); each row that meets fmt, with fmt's text TOLD by the authors' own Lean function (tested against real Go, not proved from fmt's source: count such statements apart). THE CARD IS WHAT COUNTS. Prove the row's statement (the work); the ties are given (Qxb6625877aDoorTie.lean); close each card by the builder's one call (the guide's Derived/Test/ToyasCard.lean, 'card_holds'). Laid BY PROGRAM, IN A SANDBOX (cutbox-door.mjs). By AI agents, Wed Nov 11 2026. No macro, syntax, notation, axiom, sorry.
-/
import Derived.Test.Qxb6625877aDoorRows
import GoSem.ClaimSeven
namespace Go.Proofs.Qxb6625877aDoor
namespace Rows

/-- THE TIED CARD OF 'zzlaws_internal_userdb_b1.FnIdIsDecimalValueOfField'. -/
def fnIdIsDecimalValueOfFieldCard : Claim7 := { stood := { row := fnIdIsDecimalValueOfFieldRow, standIns := [], harness := (true, "3f5f468e5d4f52caa0c6cfb88027c928828d458a06f037425681b0b8cb17ceaa"), looks := true }, kinds := [], alts := [], laidByText := true, laidKinds := [.data, .data, .data, .sentinel, .sentinel], laidTests := true, laidLooks := .later }
def FnIdIsDecimalValueOfFieldCardSaid : Prop := Claim7.holds Tryd.pinned (.plain (OpenSpec.ofChange fnIdIsDecimalValueOfFieldSpec)) fnIdIsDecimalValueOfFieldCard

/-- THE TIED CARD OF 'zzlaws_internal_userdb_b1.FnIdAppendDigitShiftsValue'. -/
def fnIdAppendDigitShiftsValueCard : Claim7 := { stood := { row := fnIdAppendDigitShiftsValueRow, standIns := [], harness := (true, "3f5f468e5d4f52caa0c6cfb88027c928828d458a06f037425681b0b8cb17ceaa"), looks := true }, kinds := [], alts := [], laidByText := true, laidKinds := [.data, .data, .data, .sentinel, .sentinel], laidTests := true, laidLooks := .later }
def FnIdAppendDigitShiftsValueCardSaid : Prop := Claim7.holds Tryd.pinned (.plain (OpenSpec.ofChange fnIdAppendDigitShiftsValueSpec)) fnIdAppendDigitShiftsValueCard
end Rows
end Go.Proofs.Qxb6625877aDoor
