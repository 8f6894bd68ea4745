/-
  DERIVED. GIVEN WITH THE SEED: THE CARDS: each row of YtplkcmlpomjojaaDoorRows.lean that lists a variable, with what it lists TIED to the program's text (the seventh form; the later family's looks); each row that meets fmt, with fmt's text TOLD by the authors' own Lean function (tested against real Go, not proved from fmt's source: count such statements apart). THE CARD IS WHAT COUNTS. Prove the row's statement (the work); the ties are given (YtplkcmlpomjojaaDoorTie.lean); close each card by the builder's one call (the guide's Derived/Test/ToyasCard.lean, 'card_holds'). Laid BY PROGRAM, IN A SANDBOX (cutbox-door.mjs). By AI agents, Wed Nov 11 2026. No macro, syntax, notation, axiom, sorry.
-/
import Derived.Test.YtplkcmlpomjojaaDoorRows
import GoSem.ClaimSeven
namespace Go.Proofs.YtplkcmlpomjojaaDoor
namespace Rows

/-- THE TIED CARD OF 'laws.FnBiAttacked'. -/
def fnBiAttackedCard : Claim7 := { stood := { row := fnBiAttackedRow, standIns := [], harness := (true, "ad167f85529ebee3d17afe7ef3d70ad73e95d24afb3ea0b8cb602c62a3691e42"), looks := false }, kinds := [], alts := [], laidByText := true, laidKinds := [.data, .data, .data, .data, .data, .data, .data], laidTests := true, laidLooks := .later }
def FnBiAttackedCardSaid : Prop := Claim7.holds Tryd.pinned (.plain (OpenSpec.ofChange fnBiAttackedSpec)) fnBiAttackedCard

/-- THE TIED CARD OF 'laws.FnMvPly'. -/
def fnMvPlyCard : Claim7 := { stood := { row := fnMvPlyRow, standIns := [], harness := (true, "ad167f85529ebee3d17afe7ef3d70ad73e95d24afb3ea0b8cb602c62a3691e42"), looks := false }, kinds := [], alts := [], laidByText := true, laidKinds := [.data, .data, .data, .data, .data, .data, .data], laidTests := true, laidLooks := .later }
def FnMvPlyCardSaid : Prop := Claim7.holds Tryd.pinned (.plain (OpenSpec.ofChange fnMvPlySpec)) fnMvPlyCard

/-- THE TIED CARD OF 'laws.FnMvAlike'. -/
def fnMvAlikeCard : Claim7 := { stood := { row := fnMvAlikeRow, standIns := [], harness := (true, "ad167f85529ebee3d17afe7ef3d70ad73e95d24afb3ea0b8cb602c62a3691e42"), looks := false }, kinds := [], alts := [], laidByText := true, laidKinds := [.data, .data, .data, .data, .data, .data, .data, .data, .data], laidTests := true, laidLooks := .later }
def FnMvAlikeCardSaid : Prop := Claim7.holds Tryd.pinned (.plain (OpenSpec.ofChange fnMvAlikeSpec)) fnMvAlikeCard

/-- THE SECOND FORM's CARD OF 'laws.FnBiAttacked'. -/
def fnBiAttackedUptoCard : Claim7 := { stood := { row := fnBiAttackedUptoRow, standIns := [], harness := (true, "ad167f85529ebee3d17afe7ef3d70ad73e95d24afb3ea0b8cb602c62a3691e42"), looks := false }, kinds := [], alts := [], laidByText := true, laidKinds := [.data, .data, .data, .data, .data, .data, .data], laidTests := true, laidLooks := .later }
def FnBiAttackedUptoCardSaid : Prop := Claim7.holds Tryd.pinned (.plain (OpenSpec.upto fnBiAttackedSpec)) fnBiAttackedUptoCard

/-- THE SECOND FORM's CARD OF 'laws.FnMvPly'. -/
def fnMvPlyUptoCard : Claim7 := { stood := { row := fnMvPlyUptoRow, standIns := [], harness := (true, "ad167f85529ebee3d17afe7ef3d70ad73e95d24afb3ea0b8cb602c62a3691e42"), looks := false }, kinds := [], alts := [], laidByText := true, laidKinds := [.data, .data, .data, .data, .data, .data, .data], laidTests := true, laidLooks := .later }
def FnMvPlyUptoCardSaid : Prop := Claim7.holds Tryd.pinned (.plain (OpenSpec.upto fnMvPlySpec)) fnMvPlyUptoCard

/-- THE SECOND FORM's CARD OF 'laws.FnMvAlike'. -/
def fnMvAlikeUptoCard : Claim7 := { stood := { row := fnMvAlikeUptoRow, standIns := [], harness := (true, "ad167f85529ebee3d17afe7ef3d70ad73e95d24afb3ea0b8cb602c62a3691e42"), looks := false }, kinds := [], alts := [], laidByText := true, laidKinds := [.data, .data, .data, .data, .data, .data, .data, .data, .data], laidTests := true, laidLooks := .later }
def FnMvAlikeUptoCardSaid : Prop := Claim7.holds Tryd.pinned (.plain (OpenSpec.upto fnMvAlikeSpec)) fnMvAlikeUptoCard
end Rows
end Go.Proofs.YtplkcmlpomjojaaDoor
