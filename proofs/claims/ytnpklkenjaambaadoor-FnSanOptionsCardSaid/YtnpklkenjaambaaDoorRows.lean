/-
  NARROWER THAN 'FOR EVERY INPUT', by the rows' own cells (each row's printed sentence says how): FnSanOptions: laid · FnBdText: laid · FnNmColors: laid.
  DERIVED. THE GIVEN ROWS OF THIS SEAT. 3 by the template 'for every input the law returns true; each argument reads behind the call as it read before'; 0 by the template 'total and deterministic' (their statements: YtnpklkenjaambaaDoorTotals.lean).
  GIVEN WITH THE SEED: the statements are not yours to turn. If you find one false, say at which input.
  Laid BY PROGRAM, IN A SANDBOX (cutbox-rows.mjs): the forced cells as the released guide's own fill.sh prints them over the translation a7e930365fcc486a… (all of the seat's roots in one cut). By AI agents, Wed Nov 11 2026. No macro, syntax, notation, axiom, sorry.
-/
import Derived.Test.YtnpklkenjaambaaDoorChecked
import GoSem.PinnedTables
import GoSem.Claim
import GoSem.ClaimJoined
import GoSem.ClaimMapViews
import Derived.JoinedTies
import Derived.KernelRfl
namespace Go.Proofs.YtnpklkenjaambaaDoor
/- THE CELL 'sum', in the pinned program and in every row, IS THE sha256 OF THE DUMP (.gsa) THAT YtnpklkenjaambaaDoorProg.lean LOADS. Nothing in Lean hashes anything: it is a label: what it is worth is what the hold of that sum in a sandbox is worth. -/
noncomputable def Tryd.pinned : Pinned := { name := "ytnpklkenjaambaadoor", sum := "a7e930365fcc486a0113ad54ec28b94dd4b40030826eadcfd8c76778fc6519b7", checked := Tryd.checked }
namespace Rows
def none {H : Type} : Left H := { results := [], args := [] }

/- WHAT THE LISTED PACKAGE-LEVEL VARIABLES READ AS WHEN THE CALL BEGINS. Each datum BY PROGRAM (the guide's laid-datum.mjs) off the statement by which the dump's own 'gosem.cut.vars' lays the variable. In a bare row this is a premise. The card (YtnpklkenjaambaaDoorCards.lean) ties it to the program's text. -/
def laid_pub_fianchetto_pub_chess_emptyComponents {H : Type} : DataW H := .agg [.lit (.string []), .lit (.string []), .lit (.string []), .lit (.string []), .lit (.string []), .lit (.string []), .lit (.string []), .lit (.string [])]
def laid_pub_fianchetto_pub_chess_whitePiecesToFEN {H : Type} : DataW H := .agg [.lit (.int .u8 0), .lit (.int .u8 75), .lit (.int .u8 81), .lit (.int .u8 82), .lit (.int .u8 66), .lit (.int .u8 78), .lit (.int .u8 80)]
def laid_pub_fianchetto_pub_chess_blackPiecesToFEN {H : Type} : DataW H := .agg [.lit (.int .u8 0), .lit (.int .u8 107), .lit (.int .u8 113), .lit (.int .u8 114), .lit (.int .u8 98), .lit (.int .u8 110), .lit (.int .u8 112)]
def laid_pub_fianchetto_pub_chess_fenCharToPiece {H : Type} : DataW H := .agg [.lit (.int .i8 0), .lit (.int .i8 0), .lit (.int .i8 0), .lit (.int .i8 0), .lit (.int .i8 0), .lit (.int .i8 0), .lit (.int .i8 0), .lit (.int .i8 0), .lit (.int .i8 0), .lit (.int .i8 0), .lit (.int .i8 0), .lit (.int .i8 0), .lit (.int .i8 0), .lit (.int .i8 0), .lit (.int .i8 0), .lit (.int .i8 0), .lit (.int .i8 0), .lit (.int .i8 0), .lit (.int .i8 0), .lit (.int .i8 0), .lit (.int .i8 0), .lit (.int .i8 0), .lit (.int .i8 0), .lit (.int .i8 0), .lit (.int .i8 0), .lit (.int .i8 0), .lit (.int .i8 0), .lit (.int .i8 0), .lit (.int .i8 0), .lit (.int .i8 0), .lit (.int .i8 0), .lit (.int .i8 0), .lit (.int .i8 0), .lit (.int .i8 0), .lit (.int .i8 0), .lit (.int .i8 0), .lit (.int .i8 0), .lit (.int .i8 0), .lit (.int .i8 0), .lit (.int .i8 0), .lit (.int .i8 0), .lit (.int .i8 0), .lit (.int .i8 0), .lit (.int .i8 0), .lit (.int .i8 0), .lit (.int .i8 0), .lit (.int .i8 0), .lit (.int .i8 0), .lit (.int .i8 0), .lit (.int .i8 0), .lit (.int .i8 0), .lit (.int .i8 0), .lit (.int .i8 0), .lit (.int .i8 0), .lit (.int .i8 0), .lit (.int .i8 0), .lit (.int .i8 0), .lit (.int .i8 0), .lit (.int .i8 0), .lit (.int .i8 0), .lit (.int .i8 0), .lit (.int .i8 0), .lit (.int .i8 0), .lit (.int .i8 0), .lit (.int .i8 0), .lit (.int .i8 0), .lit (.int .i8 4), .lit (.int .i8 0), .lit (.int .i8 0), .lit (.int .i8 0), .lit (.int .i8 0), .lit (.int .i8 0), .lit (.int .i8 0), .lit (.int .i8 0), .lit (.int .i8 0), .lit (.int .i8 1), .lit (.int .i8 0), .lit (.int .i8 0), .lit (.int .i8 5), .lit (.int .i8 0), .lit (.int .i8 6), .lit (.int .i8 2), .lit (.int .i8 3), .lit (.int .i8 0), .lit (.int .i8 0), .lit (.int .i8 0), .lit (.int .i8 0), .lit (.int .i8 0), .lit (.int .i8 0), .lit (.int .i8 0), .lit (.int .i8 0), .lit (.int .i8 0), .lit (.int .i8 0), .lit (.int .i8 0), .lit (.int .i8 0), .lit (.int .i8 0), .lit (.int .i8 0), .lit (.int .i8 0), .lit (.int .i8 10), .lit (.int .i8 0), .lit (.int .i8 0), .lit (.int .i8 0), .lit (.int .i8 0), .lit (.int .i8 0), .lit (.int .i8 0), .lit (.int .i8 0), .lit (.int .i8 0), .lit (.int .i8 7), .lit (.int .i8 0), .lit (.int .i8 0), .lit (.int .i8 11), .lit (.int .i8 0), .lit (.int .i8 12), .lit (.int .i8 8), .lit (.int .i8 9), .lit (.int .i8 0), .lit (.int .i8 0), .lit (.int .i8 0), .lit (.int .i8 0), .lit (.int .i8 0), .lit (.int .i8 0), .lit (.int .i8 0), .lit (.int .i8 0), .lit (.int .i8 0), .lit (.int .i8 0), .lit (.int .i8 0), .lit (.int .i8 0), .lit (.int .i8 0)]
def laid_pub_fianchetto_pub_chess_allPieces {H : Type} : DataW H := .slice [.lit (.int .i8 1), .lit (.int .i8 2), .lit (.int .i8 3), .lit (.int .i8 4), .lit (.int .i8 5), .lit (.int .i8 6), .lit (.int .i8 7), .lit (.int .i8 8), .lit (.int .i8 9), .lit (.int .i8 10), .lit (.int .i8 11), .lit (.int .i8 12)] []
def laid_unicode_utf8_acceptRanges {H : Type} : DataW H := .agg [.agg [.lit (.int .u8 128), .lit (.int .u8 191)], .agg [.lit (.int .u8 160), .lit (.int .u8 191)], .agg [.lit (.int .u8 128), .lit (.int .u8 159)], .agg [.lit (.int .u8 144), .lit (.int .u8 191)], .agg [.lit (.int .u8 128), .lit (.int .u8 143)], .agg [.lit (.int .u8 0), .lit (.int .u8 0)], .agg [.lit (.int .u8 0), .lit (.int .u8 0)], .agg [.lit (.int .u8 0), .lit (.int .u8 0)], .agg [.lit (.int .u8 0), .lit (.int .u8 0)], .agg [.lit (.int .u8 0), .lit (.int .u8 0)], .agg [.lit (.int .u8 0), .lit (.int .u8 0)], .agg [.lit (.int .u8 0), .lit (.int .u8 0)], .agg [.lit (.int .u8 0), .lit (.int .u8 0)], .agg [.lit (.int .u8 0), .lit (.int .u8 0)], .agg [.lit (.int .u8 0), .lit (.int .u8 0)], .agg [.lit (.int .u8 0), .lit (.int .u8 0)]]
/-- One of Go's own tables, pinned by name: the form's constant. -/
def laid_unicode_CaseRanges : DataW Unit := Go.Pinned.caseRanges
/-- One of Go's own tables, pinned by name: the form's constant. -/
def laid_unicode_utf8_first : DataW Unit := Go.Pinned.utf8First

/-- 'laws.FnSanOptions': WHATEVER THE INPUT: true; the input reads as it did. -/
def fnSanOptionsSpec : ChangeSpec := { name := "fnSanOptions", fn := fun _ => fun
  | [d] => { results := [.lit (.bool true)], args := [d] }
  | _ => none }
def fnSanOptionsRow : OpenClaim := { program := "ytnpklkenjaambaadoor", sum := "a7e930365fcc486a0113ad54ec28b94dd4b40030826eadcfd8c76778fc6519b7", func := "pub-fianchetto/laws.FnSanOptions", spec := "fnSanOptions", inPlace := ["internal/abi.NoEscape"], unfollowed := true, recurses := true, named := ["pub-fianchetto/pub/chess.emptyComponents"], apart := false, laid := [("pub-fianchetto/pub/chess.emptyComponents", laid_pub_fianchetto_pub_chess_emptyComponents)] }
def FnSanOptionsSaid : Prop := fnSanOptionsRow.holds Tryd.pinned (OpenSpec.ofChange fnSanOptionsSpec)

/-- ITS FALSE NEIGHBOUR: 'it returns false'. Refute it at one input. -/
def fnSanOptionsWrong : ChangeSpec := { name := "fnSanOptions", fn := fun _ => fun
  | [d] => { results := [.lit (.bool false)], args := [d] }
  | _ => none }
def FnSanOptionsWrongFalsely : Prop := fnSanOptionsRow.holds Tryd.pinned (OpenSpec.ofChange fnSanOptionsWrong)

/-- 'laws.FnBdText': WHATEVER THE INPUT: true; the input reads as it did. -/
def fnBdTextSpec : ChangeSpec := { name := "fnBdText", fn := fun _ => fun
  | [d] => { results := [.lit (.bool true)], args := [d] }
  | _ => none }
def fnBdTextRow : OpenClaim := { program := "ytnpklkenjaambaadoor", sum := "a7e930365fcc486a0113ad54ec28b94dd4b40030826eadcfd8c76778fc6519b7", func := "pub-fianchetto/laws.FnBdText", spec := "fnBdText", unfollowed := true, recurses := true, named := ["pub-fianchetto/pub/chess.allPieces", "pub-fianchetto/pub/chess.whitePiecesToFEN", "pub-fianchetto/pub/chess.blackPiecesToFEN", "pub-fianchetto/pub/chess.fenCharToPiece"], apart := false, laid := [("pub-fianchetto/pub/chess.whitePiecesToFEN", laid_pub_fianchetto_pub_chess_whitePiecesToFEN), ("pub-fianchetto/pub/chess.blackPiecesToFEN", laid_pub_fianchetto_pub_chess_blackPiecesToFEN), ("pub-fianchetto/pub/chess.fenCharToPiece", laid_pub_fianchetto_pub_chess_fenCharToPiece), ("pub-fianchetto/pub/chess.allPieces", laid_pub_fianchetto_pub_chess_allPieces)] }
def FnBdTextSaid : Prop := fnBdTextRow.holds Tryd.pinned (OpenSpec.ofChange fnBdTextSpec)

/-- ITS FALSE NEIGHBOUR: 'it returns false'. Refute it at one input. -/
def fnBdTextWrong : ChangeSpec := { name := "fnBdText", fn := fun _ => fun
  | [d] => { results := [.lit (.bool false)], args := [d] }
  | _ => none }
def FnBdTextWrongFalsely : Prop := fnBdTextRow.holds Tryd.pinned (OpenSpec.ofChange fnBdTextWrong)

/-- 'laws.FnNmColors': WHATEVER THE INPUT: true; the input reads as it did. -/
def fnNmColorsSpec : ChangeSpec := { name := "fnNmColors", fn := fun _ => fun
  | [d] => { results := [.lit (.bool true)], args := [d] }
  | _ => none }
def fnNmColorsRow : OpenClaim := { program := "ytnpklkenjaambaadoor", sum := "a7e930365fcc486a0113ad54ec28b94dd4b40030826eadcfd8c76778fc6519b7", func := "pub-fianchetto/laws.FnNmColors", spec := "fnNmColors", inPlace := ["internal/abi.NoEscape", "internal/bytealg.MakeNoZero"], unfollowed := true, recurses := true, named := ["unicode/utf8.first", "unicode/utf8.acceptRanges", "unicode.CaseRanges"], apart := false, laid := [("unicode/utf8.acceptRanges", laid_unicode_utf8_acceptRanges), ("unicode.CaseRanges", laid_unicode_CaseRanges), ("unicode/utf8.first", laid_unicode_utf8_first)] }
def FnNmColorsSaid : Prop := fnNmColorsRow.holds Tryd.pinned (OpenSpec.ofChange fnNmColorsSpec)

/-- ITS FALSE NEIGHBOUR: 'it returns false'. Refute it at one input. -/
def fnNmColorsWrong : ChangeSpec := { name := "fnNmColors", fn := fun _ => fun
  | [d] => { results := [.lit (.bool false)], args := [d] }
  | _ => none }
def FnNmColorsWrongFalsely : Prop := fnNmColorsRow.holds Tryd.pinned (OpenSpec.ofChange fnNmColorsWrong)

/- THE SECOND FORM. 'bulk': how many values and letters a reading holds, each counted each time it is reached (what is shared counts as often as it is met; a slice's spare places count too). A statement '..UptoSaid' is the law's where the arguments, and the package variables that the reading takes, are together of bulk at most 1048576: NARROWER than '..Said'. Prove '..Said' where nothing that the law and all that it calls make is longer than what came in: it says more and counts as full. Else prove '..UptoSaid'. A law counts once. -/
mutual
def uptoBulk {H : Type} : DataW H → Nat
  | .lit (.string bytes) => bytes.length + 1
  | .lit _ => 1
  | .nil => 1
  | .ptr d => uptoBulk d + 1
  | .slice elems spare => uptoBulkAll elems + uptoBulkAll spare + 1
  | .agg parts => uptoBulkAll parts + 1
  | .iface _ d => uptoBulk d + 1
  | .map entries => uptoBulkEntries entries + 1
  | .held _ => 1
def uptoBulkAll {H : Type} : List (DataW H) → Nat
  | [] => 0
  | d :: r => uptoBulk d + uptoBulkAll r
def uptoBulkEntries {H : Type} : List (Lit × DataW H) → Nat
  | [] => 0
  | x :: r => uptoBulkEntry x + uptoBulkEntries r
def uptoBulkEntry {H : Type} : Lit × DataW H → Nat
  | (.string bytes, d) => bytes.length + uptoBulk d + 1
  | (_, d) => uptoBulk d + 1
 end
def uptoSmall : (H : Type) → List (DataW H) → Bool := fun _ ds => decide (uptoBulkAll ds ≤ 1048576)
def OpenSpec.upto (s : _root_.Go.ChangeSpec) : _root_.Go.OpenSpec := { _root_.Go.OpenSpec.ofChange s with cond := some uptoSmall }

/-- 'laws.FnSanOptions', WHERE WHAT IT READS IS OF BULK AT MOST 1048576: true; the input reads as it did. -/
def fnSanOptionsUptoRow : OpenClaim := { program := "ytnpklkenjaambaadoor", sum := "a7e930365fcc486a0113ad54ec28b94dd4b40030826eadcfd8c76778fc6519b7", func := "pub-fianchetto/laws.FnSanOptions", spec := "fnSanOptions", inPlace := ["internal/abi.NoEscape"], unfollowed := true, recurses := true, named := ["pub-fianchetto/pub/chess.emptyComponents"], apart := false, laid := [("pub-fianchetto/pub/chess.emptyComponents", laid_pub_fianchetto_pub_chess_emptyComponents)], narrowed := true }
def FnSanOptionsUptoSaid : Prop := fnSanOptionsUptoRow.holds Tryd.pinned (OpenSpec.upto fnSanOptionsSpec)

/-- 'laws.FnBdText', WHERE WHAT IT READS IS OF BULK AT MOST 1048576: true; the input reads as it did. -/
def fnBdTextUptoRow : OpenClaim := { program := "ytnpklkenjaambaadoor", sum := "a7e930365fcc486a0113ad54ec28b94dd4b40030826eadcfd8c76778fc6519b7", func := "pub-fianchetto/laws.FnBdText", spec := "fnBdText", unfollowed := true, recurses := true, named := ["pub-fianchetto/pub/chess.allPieces", "pub-fianchetto/pub/chess.whitePiecesToFEN", "pub-fianchetto/pub/chess.blackPiecesToFEN", "pub-fianchetto/pub/chess.fenCharToPiece"], apart := false, laid := [("pub-fianchetto/pub/chess.whitePiecesToFEN", laid_pub_fianchetto_pub_chess_whitePiecesToFEN), ("pub-fianchetto/pub/chess.blackPiecesToFEN", laid_pub_fianchetto_pub_chess_blackPiecesToFEN), ("pub-fianchetto/pub/chess.fenCharToPiece", laid_pub_fianchetto_pub_chess_fenCharToPiece), ("pub-fianchetto/pub/chess.allPieces", laid_pub_fianchetto_pub_chess_allPieces)], narrowed := true }
def FnBdTextUptoSaid : Prop := fnBdTextUptoRow.holds Tryd.pinned (OpenSpec.upto fnBdTextSpec)

/-- 'laws.FnNmColors', WHERE WHAT IT READS IS OF BULK AT MOST 1048576: true; the input reads as it did. -/
def fnNmColorsUptoRow : OpenClaim := { program := "ytnpklkenjaambaadoor", sum := "a7e930365fcc486a0113ad54ec28b94dd4b40030826eadcfd8c76778fc6519b7", func := "pub-fianchetto/laws.FnNmColors", spec := "fnNmColors", inPlace := ["internal/abi.NoEscape", "internal/bytealg.MakeNoZero"], unfollowed := true, recurses := true, named := ["unicode/utf8.first", "unicode/utf8.acceptRanges", "unicode.CaseRanges"], apart := false, laid := [("unicode/utf8.acceptRanges", laid_unicode_utf8_acceptRanges), ("unicode.CaseRanges", laid_unicode_CaseRanges), ("unicode/utf8.first", laid_unicode_utf8_first)], narrowed := true }
def FnNmColorsUptoSaid : Prop := fnNmColorsUptoRow.holds Tryd.pinned (OpenSpec.upto fnNmColorsSpec)

end Rows
end Go.Proofs.YtnpklkenjaambaaDoor
