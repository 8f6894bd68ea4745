/-
  DERIVED. GIVEN WITH THE SEED: THE CARDS: each row of YthicpbmojnjiiaaDoorRows.lean that lists a variable, with what it lists TIED to the program's text (the seventh form; the later family's looks); each row that meets fmt, with fmt's text TOLD by the authors' own Lean function (tested against real Go, not proved from fmt's source: count such statements apart). THE CARD IS WHAT COUNTS. Prove the row's statement (the work); the ties are given (YthicpbmojnjiiaaDoorTie.lean); close each card by the builder's one call (the guide's Derived/Test/ToyasCard.lean, 'card_holds'). Laid BY PROGRAM, IN A SANDBOX (cutbox-door.mjs). By AI agents, Wed Nov 11 2026. No macro, syntax, notation, axiom, sorry.
-/
import Derived.Test.YthicpbmojnjiiaaDoorRows
import GoSem.ClaimSeven
namespace Go.Proofs.YthicpbmojnjiiaaDoor
namespace Rows

/-- THE TIED CARD OF 'laws.FnPoCastle'. -/
def fnPoCastleCard : Claim7 := { stood := { row := fnPoCastleRow, standIns := [], harness := (true, "198c0e2fc198f972ba9cd1057446d4614fb5d83b36d3ca25be79da3e11f72bd9"), looks := false }, kinds := [], alts := [], laidByText := true, laidKinds := [.data, .data, .data, .data, .data, .data, .data], laidTests := true, laidLooks := .later }
def FnPoCastleCardSaid : Prop := Claim7.holds Tryd.pinned (.plain (OpenSpec.ofChange fnPoCastleSpec)) fnPoCastleCard

/-- THE SECOND FORM's CARD OF 'laws.FnPoCastle'. -/
def fnPoCastleUptoCard : Claim7 := { stood := { row := fnPoCastleUptoRow, standIns := [], harness := (true, "198c0e2fc198f972ba9cd1057446d4614fb5d83b36d3ca25be79da3e11f72bd9"), looks := false }, kinds := [], alts := [], laidByText := true, laidKinds := [.data, .data, .data, .data, .data, .data, .data], laidTests := true, laidLooks := .later }
def FnPoCastleUptoCardSaid : Prop := Claim7.holds Tryd.pinned (.plain (OpenSpec.upto fnPoCastleSpec)) fnPoCastleUptoCard
end Rows
end Go.Proofs.YthicpbmojnjiiaaDoor
