/-
  DERIVED. GIVEN WITH THE SEED: THE CARDS: each row of YtblmbbllfiigmaaDoorRows.lean that lists a variable, with what it lists TIED to the program's text (the seventh form; the later family's looks); each row that meets fmt, with fmt's text TOLD by the authors' own Lean function (tested against real Go, not proved from fmt's source: count such statements apart). THE CARD IS WHAT COUNTS. Prove the row's statement (the work); the ties are given (YtblmbbllfiigmaaDoorTie.lean); close each card by the builder's one call (the guide's Derived/Test/ToyasCard.lean, 'card_holds'). Laid BY PROGRAM, IN A SANDBOX (cutbox-door.mjs). By AI agents, Wed Nov 11 2026. No macro, syntax, notation, axiom, sorry.
-/
import Derived.Test.YtblmbbllfiigmaaDoorRows
import GoSem.ClaimSeven
namespace Go.Proofs.YtblmbbllfiigmaaDoor
namespace Rows

/-- THE TIED CARD OF 'laws.FnDoubledPieces'. -/
def fnDoubledPiecesCard : Claim7 := { stood := { row := fnDoubledPiecesRow, standIns := [], harness := (true, "f0849dc0adad4582659c2941a1b367326477102137680474a0858cbc33eb8ea8"), looks := false }, kinds := [], alts := [], laidByText := true, laidKinds := [.data, .data, .sentinel, .sentinel, .sentinel, .sentinel, .sentinel], laidTests := true, laidLooks := .later }
def FnDoubledPiecesCardSaid : Prop := Claim7.holds Tryd.pinned (.plain (OpenSpec.ofChange fnDoubledPiecesSpec)) fnDoubledPiecesCard

/-- THE TIED CARD OF 'laws.FnManyTogether'. -/
def fnManyTogetherCard : Claim7 := { stood := { row := fnManyTogetherRow, standIns := [], harness := (true, "f0849dc0adad4582659c2941a1b367326477102137680474a0858cbc33eb8ea8"), looks := false }, kinds := [], alts := [], laidByText := true, laidKinds := [.data, .data, .sentinel, .sentinel, .sentinel, .sentinel, .sentinel], laidTests := true, laidLooks := .later }
def FnManyTogetherCardSaid : Prop := Claim7.holds Tryd.pinned (.plain (OpenSpec.ofChange fnManyTogetherSpec)) fnManyTogetherCard

/-- THE TIED CARD OF 'laws.FnOldPieces'. -/
def fnOldPiecesCard : Claim7 := { stood := { row := fnOldPiecesRow, standIns := [], harness := (true, "f0849dc0adad4582659c2941a1b367326477102137680474a0858cbc33eb8ea8"), looks := false }, kinds := [], alts := [], laidByText := true, laidKinds := [.data, .data, .sentinel, .sentinel, .sentinel, .sentinel, .sentinel], laidTests := true, laidLooks := .later }
def FnOldPiecesCardSaid : Prop := Claim7.holds Tryd.pinned (.plain (OpenSpec.ofChange fnOldPiecesSpec)) fnOldPiecesCard

/-- THE TIED CARD OF 'laws.FnPiecesAgainst'. -/
def fnPiecesAgainstCard : Claim7 := { stood := { row := fnPiecesAgainstRow, standIns := [], harness := (true, "f0849dc0adad4582659c2941a1b367326477102137680474a0858cbc33eb8ea8"), looks := false }, kinds := [], alts := [], laidByText := true, laidKinds := [.data, .data, .sentinel, .sentinel, .sentinel, .sentinel, .sentinel], laidTests := true, laidLooks := .later }
def FnPiecesAgainstCardSaid : Prop := Claim7.holds Tryd.pinned (.plain (OpenSpec.ofChange fnPiecesAgainstSpec)) fnPiecesAgainstCard

/-- THE SECOND FORM's CARD OF 'laws.FnDoubledPieces'. -/
def fnDoubledPiecesUptoCard : Claim7 := { stood := { row := fnDoubledPiecesUptoRow, standIns := [], harness := (true, "f0849dc0adad4582659c2941a1b367326477102137680474a0858cbc33eb8ea8"), looks := false }, kinds := [], alts := [], laidByText := true, laidKinds := [.data, .data, .sentinel, .sentinel, .sentinel, .sentinel, .sentinel], laidTests := true, laidLooks := .later }
def FnDoubledPiecesUptoCardSaid : Prop := Claim7.holds Tryd.pinned (.plain (OpenSpec.upto fnDoubledPiecesSpec)) fnDoubledPiecesUptoCard

/-- THE SECOND FORM's CARD OF 'laws.FnManyTogether'. -/
def fnManyTogetherUptoCard : Claim7 := { stood := { row := fnManyTogetherUptoRow, standIns := [], harness := (true, "f0849dc0adad4582659c2941a1b367326477102137680474a0858cbc33eb8ea8"), looks := false }, kinds := [], alts := [], laidByText := true, laidKinds := [.data, .data, .sentinel, .sentinel, .sentinel, .sentinel, .sentinel], laidTests := true, laidLooks := .later }
def FnManyTogetherUptoCardSaid : Prop := Claim7.holds Tryd.pinned (.plain (OpenSpec.upto fnManyTogetherSpec)) fnManyTogetherUptoCard

/-- THE SECOND FORM's CARD OF 'laws.FnOldPieces'. -/
def fnOldPiecesUptoCard : Claim7 := { stood := { row := fnOldPiecesUptoRow, standIns := [], harness := (true, "f0849dc0adad4582659c2941a1b367326477102137680474a0858cbc33eb8ea8"), looks := false }, kinds := [], alts := [], laidByText := true, laidKinds := [.data, .data, .sentinel, .sentinel, .sentinel, .sentinel, .sentinel], laidTests := true, laidLooks := .later }
def FnOldPiecesUptoCardSaid : Prop := Claim7.holds Tryd.pinned (.plain (OpenSpec.upto fnOldPiecesSpec)) fnOldPiecesUptoCard

/-- THE SECOND FORM's CARD OF 'laws.FnPiecesAgainst'. -/
def fnPiecesAgainstUptoCard : Claim7 := { stood := { row := fnPiecesAgainstUptoRow, standIns := [], harness := (true, "f0849dc0adad4582659c2941a1b367326477102137680474a0858cbc33eb8ea8"), looks := false }, kinds := [], alts := [], laidByText := true, laidKinds := [.data, .data, .sentinel, .sentinel, .sentinel, .sentinel, .sentinel], laidTests := true, laidLooks := .later }
def FnPiecesAgainstUptoCardSaid : Prop := Claim7.holds Tryd.pinned (.plain (OpenSpec.upto fnPiecesAgainstSpec)) fnPiecesAgainstUptoCard
end Rows
end Go.Proofs.YtblmbbllfiigmaaDoor
