/-
  DERIVED. GIVEN WITH THE SEED: THE CARDS: each row of YtnpklkenjaambaaDoorRows.lean that lists a variable, with what it lists TIED to the program's text (the seventh form; the later family's looks); each row that meets fmt, with fmt's text TOLD by the authors' own Lean function (tested against real Go, not proved from fmt's source: count such statements apart). THE CARD IS WHAT COUNTS. Prove the row's statement (the work); the ties are given (YtnpklkenjaambaaDoorTie.lean); close each card by the builder's one call (the guide's Derived/Test/ToyasCard.lean, 'card_holds'). Laid BY PROGRAM, IN A SANDBOX (cutbox-door.mjs). By AI agents, Wed Nov 11 2026. No macro, syntax, notation, axiom, sorry.
-/
import Derived.Test.YtnpklkenjaambaaDoorRows
import GoSem.ClaimSeven
namespace Go.Proofs.YtnpklkenjaambaaDoor
namespace Rows

/-- THE TIED CARD OF 'laws.FnSanOptions'. -/
def fnSanOptionsCard : Claim7 := { stood := { row := fnSanOptionsRow, standIns := [], harness := (true, "e4204d6c425e05cba543f061ca33fc281be5c38ddcd7370ddbc437b5f90ecd22"), looks := false }, kinds := [], alts := [], laidByText := true, laidKinds := [.data], laidTests := true, laidLooks := .later }
def FnSanOptionsCardSaid : Prop := Claim7.holds Tryd.pinned (.plain (OpenSpec.ofChange fnSanOptionsSpec)) fnSanOptionsCard

/-- THE TIED CARD OF 'laws.FnBdText'. -/
def fnBdTextCard : Claim7 := { stood := { row := fnBdTextRow, standIns := [], harness := (true, "e4204d6c425e05cba543f061ca33fc281be5c38ddcd7370ddbc437b5f90ecd22"), looks := false }, kinds := [], alts := [], laidByText := true, laidKinds := [.data, .data, .data, .data], laidTests := true, laidLooks := .later }
def FnBdTextCardSaid : Prop := Claim7.holds Tryd.pinned (.plain (OpenSpec.ofChange fnBdTextSpec)) fnBdTextCard

/-- THE TIED CARD OF 'laws.FnNmColors'. -/
def fnNmColorsCard : Claim7 := { stood := { row := fnNmColorsRow, standIns := [], harness := (true, "e4204d6c425e05cba543f061ca33fc281be5c38ddcd7370ddbc437b5f90ecd22"), looks := false }, kinds := [], alts := [], laidByText := true, laidKinds := [.data, .pinned, .pinned], laidTests := true, laidLooks := .later }
def FnNmColorsCardSaid : Prop := Claim7.holds Tryd.pinned (.plain (OpenSpec.ofChange fnNmColorsSpec)) fnNmColorsCard

/-- THE SECOND FORM's CARD OF 'laws.FnSanOptions'. -/
def fnSanOptionsUptoCard : Claim7 := { stood := { row := fnSanOptionsUptoRow, standIns := [], harness := (true, "e4204d6c425e05cba543f061ca33fc281be5c38ddcd7370ddbc437b5f90ecd22"), looks := false }, kinds := [], alts := [], laidByText := true, laidKinds := [.data], laidTests := true, laidLooks := .later }
def FnSanOptionsUptoCardSaid : Prop := Claim7.holds Tryd.pinned (.plain (OpenSpec.upto fnSanOptionsSpec)) fnSanOptionsUptoCard

/-- THE SECOND FORM's CARD OF 'laws.FnBdText'. -/
def fnBdTextUptoCard : Claim7 := { stood := { row := fnBdTextUptoRow, standIns := [], harness := (true, "e4204d6c425e05cba543f061ca33fc281be5c38ddcd7370ddbc437b5f90ecd22"), looks := false }, kinds := [], alts := [], laidByText := true, laidKinds := [.data, .data, .data, .data], laidTests := true, laidLooks := .later }
def FnBdTextUptoCardSaid : Prop := Claim7.holds Tryd.pinned (.plain (OpenSpec.upto fnBdTextSpec)) fnBdTextUptoCard

/-- THE SECOND FORM's CARD OF 'laws.FnNmColors'. -/
def fnNmColorsUptoCard : Claim7 := { stood := { row := fnNmColorsUptoRow, standIns := [], harness := (true, "e4204d6c425e05cba543f061ca33fc281be5c38ddcd7370ddbc437b5f90ecd22"), looks := false }, kinds := [], alts := [], laidByText := true, laidKinds := [.data, .pinned, .pinned], laidTests := true, laidLooks := .later }
def FnNmColorsUptoCardSaid : Prop := Claim7.holds Tryd.pinned (.plain (OpenSpec.upto fnNmColorsSpec)) fnNmColorsUptoCard
end Rows
end Go.Proofs.YtnpklkenjaambaaDoor
