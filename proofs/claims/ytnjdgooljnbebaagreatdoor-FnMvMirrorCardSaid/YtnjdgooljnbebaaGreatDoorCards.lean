/-
  DERIVED. GIVEN WITH THE SEED: THE CARDS: each row of YtnjdgooljnbebaaGreatDoorRows.lean that lists a variable, with what it lists TIED to the program's text (the seventh form; the later family's looks); each row that meets fmt, with fmt's text TOLD by the authors' own Lean function (tested against real Go, not proved from fmt's source: count such statements apart). THE CARD IS WHAT COUNTS. Prove the row's statement (the work); the ties are given (YtnjdgooljnbebaaGreatDoorTie.lean); close each card by the builder's one call (the guide's Derived/Test/ToyasCard.lean, 'card_holds'). Laid BY PROGRAM, IN A SANDBOX (cutbox-door.mjs). By AI agents, Wed Nov 11 2026. No macro, syntax, notation, axiom, sorry.
-/
import Derived.Test.YtnjdgooljnbebaaGreatDoorRows
import GoSem.ClaimSeven
namespace Go.Proofs.YtnjdgooljnbebaaGreatDoor
namespace Rows

/-- THE TIED CARD OF 'laws.FnMvStatus'. -/
def fnMvStatusCard : Claim7 := { stood := { row := fnMvStatusRow, standIns := [], harness := (true, "b016d6af0469fd999689c53e2c02e45fae6e2b4de065c726de7d537d848f443d"), looks := false }, kinds := [], alts := [], laidByText := true, laidKinds := [.data, .data, .data, .data, .data, .data, .data, .data, .data, .pinned, .pinned], laidTests := true, laidLooks := .later }
def FnMvStatusCardSaid : Prop := Claim7.holds Tryz.pinned (.plain (OpenSpec.ofChange fnMvStatusSpec)) fnMvStatusCard

/-- THE TIED CARD OF 'laws.FnMvMirror'. -/
def fnMvMirrorCard : Claim7 := { stood := { row := fnMvMirrorRow, standIns := [], harness := (true, "b016d6af0469fd999689c53e2c02e45fae6e2b4de065c726de7d537d848f443d"), looks := false }, kinds := [], alts := [], laidByText := true, laidKinds := [.data, .data, .data, .data, .data, .data, .data, .data, .data, .pinned, .pinned], laidTests := true, laidLooks := .later }
def FnMvMirrorCardSaid : Prop := Claim7.holds Tryz.pinned (.plain (OpenSpec.ofChange fnMvMirrorSpec)) fnMvMirrorCard

/-- THE TIED CARD OF 'laws.FnMvAllTags'. -/
def fnMvAllTagsCard : Claim7 := { stood := { row := fnMvAllTagsRow, standIns := [], harness := (true, "b016d6af0469fd999689c53e2c02e45fae6e2b4de065c726de7d537d848f443d"), looks := false }, kinds := [], alts := [], laidByText := true, laidKinds := [.data, .data, .data, .data, .data, .data, .data, .data, .data, .pinned, .pinned], laidTests := true, laidLooks := .later }
def FnMvAllTagsCardSaid : Prop := Claim7.holds Tryz.pinned (.plain (OpenSpec.ofChange fnMvAllTagsSpec)) fnMvAllTagsCard

/-- THE TIED CARD OF 'laws.FnSanSign'. -/
def fnSanSignCard : Claim7 := { stood := { row := fnSanSignRow, standIns := [], harness := (true, "b016d6af0469fd999689c53e2c02e45fae6e2b4de065c726de7d537d848f443d"), looks := false }, kinds := [], alts := [], laidByText := true, laidKinds := [.data, .data, .data, .data, .data, .data, .data, .data, .data, .pinned, .pinned], laidTests := true, laidLooks := .later }
def FnSanSignCardSaid : Prop := Claim7.holds Tryz.pinned (.plain (OpenSpec.ofChange fnSanSignSpec)) fnSanSignCard

/-- THE TIED CARD OF 'laws.FnMvPlay'. -/
def fnMvPlayCard : Claim7 := { stood := { row := fnMvPlayRow, standIns := [], harness := (true, "b016d6af0469fd999689c53e2c02e45fae6e2b4de065c726de7d537d848f443d"), looks := false }, kinds := [], alts := [], laidByText := true, laidKinds := [.data, .data, .data, .data, .data, .data, .data, .data, .data, .pinned, .pinned], laidTests := true, laidLooks := .later }
def FnMvPlayCardSaid : Prop := Claim7.holds Tryz.pinned (.plain (OpenSpec.ofChange fnMvPlaySpec)) fnMvPlayCard

/-- THE TIED CARD OF 'laws.FnMvWalk'. -/
def fnMvWalkCard : Claim7 := { stood := { row := fnMvWalkRow, standIns := [], harness := (true, "b016d6af0469fd999689c53e2c02e45fae6e2b4de065c726de7d537d848f443d"), looks := false }, kinds := [], alts := [], laidByText := true, laidKinds := [.data, .data, .data, .data, .data, .data, .data, .data, .data, .data, .data, .pinned, .pinned], laidTests := true, laidLooks := .later }
def FnMvWalkCardSaid : Prop := Claim7.holds Tryz.pinned (.plain (OpenSpec.ofChange fnMvWalkSpec)) fnMvWalkCard

/-- THE SECOND FORM's CARD OF 'laws.FnMvStatus'. -/
def fnMvStatusUptoCard : Claim7 := { stood := { row := fnMvStatusUptoRow, standIns := [], harness := (true, "b016d6af0469fd999689c53e2c02e45fae6e2b4de065c726de7d537d848f443d"), looks := false }, kinds := [], alts := [], laidByText := true, laidKinds := [.data, .data, .data, .data, .data, .data, .data, .data, .data, .pinned, .pinned], laidTests := true, laidLooks := .later }
def FnMvStatusUptoCardSaid : Prop := Claim7.holds Tryz.pinned (.plain (OpenSpec.upto fnMvStatusSpec)) fnMvStatusUptoCard

/-- THE SECOND FORM's CARD OF 'laws.FnMvMirror'. -/
def fnMvMirrorUptoCard : Claim7 := { stood := { row := fnMvMirrorUptoRow, standIns := [], harness := (true, "b016d6af0469fd999689c53e2c02e45fae6e2b4de065c726de7d537d848f443d"), looks := false }, kinds := [], alts := [], laidByText := true, laidKinds := [.data, .data, .data, .data, .data, .data, .data, .data, .data, .pinned, .pinned], laidTests := true, laidLooks := .later }
def FnMvMirrorUptoCardSaid : Prop := Claim7.holds Tryz.pinned (.plain (OpenSpec.upto fnMvMirrorSpec)) fnMvMirrorUptoCard

/-- THE SECOND FORM's CARD OF 'laws.FnMvAllTags'. -/
def fnMvAllTagsUptoCard : Claim7 := { stood := { row := fnMvAllTagsUptoRow, standIns := [], harness := (true, "b016d6af0469fd999689c53e2c02e45fae6e2b4de065c726de7d537d848f443d"), looks := false }, kinds := [], alts := [], laidByText := true, laidKinds := [.data, .data, .data, .data, .data, .data, .data, .data, .data, .pinned, .pinned], laidTests := true, laidLooks := .later }
def FnMvAllTagsUptoCardSaid : Prop := Claim7.holds Tryz.pinned (.plain (OpenSpec.upto fnMvAllTagsSpec)) fnMvAllTagsUptoCard

/-- THE SECOND FORM's CARD OF 'laws.FnSanSign'. -/
def fnSanSignUptoCard : Claim7 := { stood := { row := fnSanSignUptoRow, standIns := [], harness := (true, "b016d6af0469fd999689c53e2c02e45fae6e2b4de065c726de7d537d848f443d"), looks := false }, kinds := [], alts := [], laidByText := true, laidKinds := [.data, .data, .data, .data, .data, .data, .data, .data, .data, .pinned, .pinned], laidTests := true, laidLooks := .later }
def FnSanSignUptoCardSaid : Prop := Claim7.holds Tryz.pinned (.plain (OpenSpec.upto fnSanSignSpec)) fnSanSignUptoCard

/-- THE SECOND FORM's CARD OF 'laws.FnMvPlay'. -/
def fnMvPlayUptoCard : Claim7 := { stood := { row := fnMvPlayUptoRow, standIns := [], harness := (true, "b016d6af0469fd999689c53e2c02e45fae6e2b4de065c726de7d537d848f443d"), looks := false }, kinds := [], alts := [], laidByText := true, laidKinds := [.data, .data, .data, .data, .data, .data, .data, .data, .data, .pinned, .pinned], laidTests := true, laidLooks := .later }
def FnMvPlayUptoCardSaid : Prop := Claim7.holds Tryz.pinned (.plain (OpenSpec.upto fnMvPlaySpec)) fnMvPlayUptoCard

/-- THE SECOND FORM's CARD OF 'laws.FnMvWalk'. -/
def fnMvWalkUptoCard : Claim7 := { stood := { row := fnMvWalkUptoRow, standIns := [], harness := (true, "b016d6af0469fd999689c53e2c02e45fae6e2b4de065c726de7d537d848f443d"), looks := false }, kinds := [], alts := [], laidByText := true, laidKinds := [.data, .data, .data, .data, .data, .data, .data, .data, .data, .data, .data, .pinned, .pinned], laidTests := true, laidLooks := .later }
def FnMvWalkUptoCardSaid : Prop := Claim7.holds Tryz.pinned (.plain (OpenSpec.upto fnMvWalkSpec)) fnMvWalkUptoCard
end Rows
end Go.Proofs.YtnjdgooljnbebaaGreatDoor
