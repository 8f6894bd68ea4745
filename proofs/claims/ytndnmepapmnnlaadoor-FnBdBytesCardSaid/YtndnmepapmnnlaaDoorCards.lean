/-
  DERIVED. GIVEN WITH THE SEED: THE CARDS: each row of YtndnmepapmnnlaaDoorRows.lean that lists a variable, with what it lists TIED to the program's text (the seventh form; the later family's looks); each row that meets fmt, with fmt's text TOLD by the authors' own Lean function (tested against real Go, not proved from fmt's source: count such statements apart). THE CARD IS WHAT COUNTS. Prove the row's statement (the work); the ties are given (YtndnmepapmnnlaaDoorTie.lean); close each card by the builder's one call (the guide's Derived/Test/ToyasCard.lean, 'card_holds'). Laid BY PROGRAM, IN A SANDBOX (cutbox-door.mjs). By AI agents, Wed Nov 11 2026. No macro, syntax, notation, axiom, sorry.
-/
import Derived.Test.YtndnmepapmnnlaaDoorRows
import GoSem.ClaimSeven
namespace Go.Proofs.YtndnmepapmnnlaaDoor
namespace Rows

/-- THE TIED CARD OF 'laws.FnBdSquares'. -/
def fnBdSquaresCard : Claim7 := { stood := { row := fnBdSquaresRow, standIns := [], harness := (true, "abbc71c2669ef199aa29e6b4009f9073bbdeaad88b9e6ac19be18495bd105839"), looks := false }, kinds := [], alts := [], laidByText := true, laidKinds := [.data], laidTests := true, laidLooks := .later }
def FnBdSquaresCardSaid : Prop := Claim7.holds Tryd.pinned (.plain (OpenSpec.ofChange fnBdSquaresSpec)) fnBdSquaresCard

/-- THE TIED CARD OF 'laws.FnBdRotate'. -/
def fnBdRotateCard : Claim7 := { stood := { row := fnBdRotateRow, standIns := [], harness := (true, "abbc71c2669ef199aa29e6b4009f9073bbdeaad88b9e6ac19be18495bd105839"), looks := false }, kinds := [], alts := [], laidByText := true, laidKinds := [.data], laidTests := true, laidLooks := .later }
def FnBdRotateCardSaid : Prop := Claim7.holds Tryd.pinned (.plain (OpenSpec.ofChange fnBdRotateSpec)) fnBdRotateCard

/-- THE TIED CARD OF 'laws.FnBdBytes'. -/
def fnBdBytesCard : Claim7 := { stood := { row := fnBdBytesRow, standIns := [], harness := (true, "abbc71c2669ef199aa29e6b4009f9073bbdeaad88b9e6ac19be18495bd105839"), looks := false }, kinds := [], alts := [], laidByText := true, laidKinds := [.data], laidTests := true, laidLooks := .later }
def FnBdBytesCardSaid : Prop := Claim7.holds Tryd.pinned (.plain (OpenSpec.ofChange fnBdBytesSpec)) fnBdBytesCard

/-- THE TIED CARD OF 'laws.FnBdText'. -/
def fnBdTextCard : Claim7 := { stood := { row := fnBdTextRow, standIns := [], harness := (true, "abbc71c2669ef199aa29e6b4009f9073bbdeaad88b9e6ac19be18495bd105839"), looks := false }, kinds := [], alts := [], laidByText := true, laidKinds := [.data, .data, .data, .data], laidTests := true, laidLooks := .later }
def FnBdTextCardSaid : Prop := Claim7.holds Tryd.pinned (.plain (OpenSpec.ofChange fnBdTextSpec)) fnBdTextCard

/-- THE SECOND FORM's CARD OF 'laws.FnBdSquares'. -/
def fnBdSquaresUptoCard : Claim7 := { stood := { row := fnBdSquaresUptoRow, standIns := [], harness := (true, "abbc71c2669ef199aa29e6b4009f9073bbdeaad88b9e6ac19be18495bd105839"), looks := false }, kinds := [], alts := [], laidByText := true, laidKinds := [.data], laidTests := true, laidLooks := .later }
def FnBdSquaresUptoCardSaid : Prop := Claim7.holds Tryd.pinned (.plain (OpenSpec.upto fnBdSquaresSpec)) fnBdSquaresUptoCard

/-- THE SECOND FORM's CARD OF 'laws.FnBdRotate'. -/
def fnBdRotateUptoCard : Claim7 := { stood := { row := fnBdRotateUptoRow, standIns := [], harness := (true, "abbc71c2669ef199aa29e6b4009f9073bbdeaad88b9e6ac19be18495bd105839"), looks := false }, kinds := [], alts := [], laidByText := true, laidKinds := [.data], laidTests := true, laidLooks := .later }
def FnBdRotateUptoCardSaid : Prop := Claim7.holds Tryd.pinned (.plain (OpenSpec.upto fnBdRotateSpec)) fnBdRotateUptoCard

/-- THE SECOND FORM's CARD OF 'laws.FnBdBytes'. -/
def fnBdBytesUptoCard : Claim7 := { stood := { row := fnBdBytesUptoRow, standIns := [], harness := (true, "abbc71c2669ef199aa29e6b4009f9073bbdeaad88b9e6ac19be18495bd105839"), looks := false }, kinds := [], alts := [], laidByText := true, laidKinds := [.data], laidTests := true, laidLooks := .later }
def FnBdBytesUptoCardSaid : Prop := Claim7.holds Tryd.pinned (.plain (OpenSpec.upto fnBdBytesSpec)) fnBdBytesUptoCard

/-- THE SECOND FORM's CARD OF 'laws.FnBdText'. -/
def fnBdTextUptoCard : Claim7 := { stood := { row := fnBdTextUptoRow, standIns := [], harness := (true, "abbc71c2669ef199aa29e6b4009f9073bbdeaad88b9e6ac19be18495bd105839"), looks := false }, kinds := [], alts := [], laidByText := true, laidKinds := [.data, .data, .data, .data], laidTests := true, laidLooks := .later }
def FnBdTextUptoCardSaid : Prop := Claim7.holds Tryd.pinned (.plain (OpenSpec.upto fnBdTextSpec)) fnBdTextUptoCard
end Rows
end Go.Proofs.YtndnmepapmnnlaaDoor
