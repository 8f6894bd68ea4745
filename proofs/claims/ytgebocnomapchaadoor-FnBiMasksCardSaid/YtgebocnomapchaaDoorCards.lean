/-
  DERIVED. GIVEN WITH THE SEED: THE CARDS: each row of YtgebocnomapchaaDoorRows.lean that lists a variable, with what it lists TIED to the program's text (the seventh form; the later family's looks); each row that meets fmt, with fmt's text TOLD by the authors' own Lean function (tested against real Go, not proved from fmt's source: count such statements apart). THE CARD IS WHAT COUNTS. Prove the row's statement (the work); the ties are given (YtgebocnomapchaaDoorTie.lean); close each card by the builder's one call (the guide's Derived/Test/ToyasCard.lean, 'card_holds'). Laid BY PROGRAM, IN A SANDBOX (cutbox-door.mjs). By AI agents, Wed Nov 11 2026. No macro, syntax, notation, axiom, sorry.
-/
import Derived.Test.YtgebocnomapchaaDoorRows
import GoSem.ClaimSeven
namespace Go.Proofs.YtgebocnomapchaaDoor
namespace Rows

/-- THE TIED CARD OF 'laws.FnNmSigns'. -/
def fnNmSignsCard : Claim7 := { stood := { row := fnNmSignsRow, standIns := [], harness := (true, "e432ee2c842eb08e96e15b5c74ce5f95c523c3fac02726d30bad39c1c8b80b27"), looks := false }, kinds := [], alts := [], laidByText := true, laidKinds := [.data, .data], laidTests := true, laidLooks := .later }
def FnNmSignsCardSaid : Prop := Claim7.holds Tryd.pinned (.plain (OpenSpec.ofChange fnNmSignsSpec)) fnNmSignsCard

/-- THE TIED CARD OF 'laws.FnUciPercent'. -/
def fnUciPercentCard : Claim7 := { stood := { row := fnUciPercentRow, standIns := [], harness := (true, "e432ee2c842eb08e96e15b5c74ce5f95c523c3fac02726d30bad39c1c8b80b27"), looks := false }, kinds := [], alts := [], laidByText := true, laidKinds := [.sentinel], laidTests := true, laidLooks := .later }
def FnUciPercentCardSaid : Prop := Claim7.holds Tryd.pinned (.plain (OpenSpec.ofChange fnUciPercentSpec)) fnUciPercentCard

/-- THE TIED CARD OF 'laws.FnBiMasks'. -/
def fnBiMasksCard : Claim7 := { stood := { row := fnBiMasksRow, standIns := [], harness := (true, "e432ee2c842eb08e96e15b5c74ce5f95c523c3fac02726d30bad39c1c8b80b27"), looks := false }, kinds := [], alts := [], laidByText := true, laidKinds := [.data, .data, .data, .data, .data, .data], laidTests := true, laidLooks := .later }
def FnBiMasksCardSaid : Prop := Claim7.holds Tryd.pinned (.plain (OpenSpec.ofChange fnBiMasksSpec)) fnBiMasksCard

/-- THE TIED CARD OF 'laws.FnBiLinear'. -/
def fnBiLinearCard : Claim7 := { stood := { row := fnBiLinearRow, standIns := [], harness := (true, "e432ee2c842eb08e96e15b5c74ce5f95c523c3fac02726d30bad39c1c8b80b27"), looks := false }, kinds := [], alts := [], laidByText := true, laidKinds := [.data, .data, .data, .data], laidTests := true, laidLooks := .later }
def FnBiLinearCardSaid : Prop := Claim7.holds Tryd.pinned (.plain (OpenSpec.ofChange fnBiLinearSpec)) fnBiLinearCard

/-- THE TIED CARD OF 'laws.FnSanOptions'. -/
def fnSanOptionsCard : Claim7 := { stood := { row := fnSanOptionsRow, standIns := [], harness := (true, "e432ee2c842eb08e96e15b5c74ce5f95c523c3fac02726d30bad39c1c8b80b27"), looks := false }, kinds := [], alts := [], laidByText := true, laidKinds := [.data], laidTests := true, laidLooks := .later }
def FnSanOptionsCardSaid : Prop := Claim7.holds Tryd.pinned (.plain (OpenSpec.ofChange fnSanOptionsSpec)) fnSanOptionsCard

/-- THE TIED CARD OF 'laws.FnNmMethods'. -/
def fnNmMethodsCard : Claim7 := { stood := { row := fnNmMethodsRow, standIns := [], harness := (true, "e432ee2c842eb08e96e15b5c74ce5f95c523c3fac02726d30bad39c1c8b80b27"), looks := false }, kinds := [], alts := [], laidByText := true, laidKinds := [.data, .data, .data, .data], laidTests := true, laidLooks := .later }
def FnNmMethodsCardSaid : Prop := Claim7.holds Tryd.pinned (.plain (OpenSpec.ofChange fnNmMethodsSpec)) fnNmMethodsCard

/-- THE TIED CARD OF 'laws.FnNmColors'. -/
def fnNmColorsCard : Claim7 := { stood := { row := fnNmColorsRow, standIns := [], harness := (true, "e432ee2c842eb08e96e15b5c74ce5f95c523c3fac02726d30bad39c1c8b80b27"), looks := false }, kinds := [], alts := [], laidByText := true, laidKinds := [.data, .pinned, .pinned], laidTests := true, laidLooks := .later }
def FnNmColorsCardSaid : Prop := Claim7.holds Tryd.pinned (.plain (OpenSpec.ofChange fnNmColorsSpec)) fnNmColorsCard

/-- THE SECOND FORM's CARD OF 'laws.FnNmSigns'. -/
def fnNmSignsUptoCard : Claim7 := { stood := { row := fnNmSignsUptoRow, standIns := [], harness := (true, "e432ee2c842eb08e96e15b5c74ce5f95c523c3fac02726d30bad39c1c8b80b27"), looks := false }, kinds := [], alts := [], laidByText := true, laidKinds := [.data, .data], laidTests := true, laidLooks := .later }
def FnNmSignsUptoCardSaid : Prop := Claim7.holds Tryd.pinned (.plain (OpenSpec.upto fnNmSignsSpec)) fnNmSignsUptoCard

/-- THE SECOND FORM's CARD OF 'laws.FnUciPercent'. -/
def fnUciPercentUptoCard : Claim7 := { stood := { row := fnUciPercentUptoRow, standIns := [], harness := (true, "e432ee2c842eb08e96e15b5c74ce5f95c523c3fac02726d30bad39c1c8b80b27"), looks := false }, kinds := [], alts := [], laidByText := true, laidKinds := [.sentinel], laidTests := true, laidLooks := .later }
def FnUciPercentUptoCardSaid : Prop := Claim7.holds Tryd.pinned (.plain (OpenSpec.upto fnUciPercentSpec)) fnUciPercentUptoCard

/-- THE SECOND FORM's CARD OF 'laws.FnBiMasks'. -/
def fnBiMasksUptoCard : Claim7 := { stood := { row := fnBiMasksUptoRow, standIns := [], harness := (true, "e432ee2c842eb08e96e15b5c74ce5f95c523c3fac02726d30bad39c1c8b80b27"), looks := false }, kinds := [], alts := [], laidByText := true, laidKinds := [.data, .data, .data, .data, .data, .data], laidTests := true, laidLooks := .later }
def FnBiMasksUptoCardSaid : Prop := Claim7.holds Tryd.pinned (.plain (OpenSpec.upto fnBiMasksSpec)) fnBiMasksUptoCard

/-- THE SECOND FORM's CARD OF 'laws.FnBiLinear'. -/
def fnBiLinearUptoCard : Claim7 := { stood := { row := fnBiLinearUptoRow, standIns := [], harness := (true, "e432ee2c842eb08e96e15b5c74ce5f95c523c3fac02726d30bad39c1c8b80b27"), looks := false }, kinds := [], alts := [], laidByText := true, laidKinds := [.data, .data, .data, .data], laidTests := true, laidLooks := .later }
def FnBiLinearUptoCardSaid : Prop := Claim7.holds Tryd.pinned (.plain (OpenSpec.upto fnBiLinearSpec)) fnBiLinearUptoCard

/-- THE SECOND FORM's CARD OF 'laws.FnSanOptions'. -/
def fnSanOptionsUptoCard : Claim7 := { stood := { row := fnSanOptionsUptoRow, standIns := [], harness := (true, "e432ee2c842eb08e96e15b5c74ce5f95c523c3fac02726d30bad39c1c8b80b27"), looks := false }, kinds := [], alts := [], laidByText := true, laidKinds := [.data], laidTests := true, laidLooks := .later }
def FnSanOptionsUptoCardSaid : Prop := Claim7.holds Tryd.pinned (.plain (OpenSpec.upto fnSanOptionsSpec)) fnSanOptionsUptoCard

/-- THE SECOND FORM's CARD OF 'laws.FnNmMethods'. -/
def fnNmMethodsUptoCard : Claim7 := { stood := { row := fnNmMethodsUptoRow, standIns := [], harness := (true, "e432ee2c842eb08e96e15b5c74ce5f95c523c3fac02726d30bad39c1c8b80b27"), looks := false }, kinds := [], alts := [], laidByText := true, laidKinds := [.data, .data, .data, .data], laidTests := true, laidLooks := .later }
def FnNmMethodsUptoCardSaid : Prop := Claim7.holds Tryd.pinned (.plain (OpenSpec.upto fnNmMethodsSpec)) fnNmMethodsUptoCard

/-- THE SECOND FORM's CARD OF 'laws.FnNmColors'. -/
def fnNmColorsUptoCard : Claim7 := { stood := { row := fnNmColorsUptoRow, standIns := [], harness := (true, "e432ee2c842eb08e96e15b5c74ce5f95c523c3fac02726d30bad39c1c8b80b27"), looks := false }, kinds := [], alts := [], laidByText := true, laidKinds := [.data, .pinned, .pinned], laidTests := true, laidLooks := .later }
def FnNmColorsUptoCardSaid : Prop := Claim7.holds Tryd.pinned (.plain (OpenSpec.upto fnNmColorsSpec)) fnNmColorsUptoCard
end Rows
end Go.Proofs.YtgebocnomapchaaDoor
