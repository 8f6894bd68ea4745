/-
  NARROWER THAN 'FOR EVERY INPUT', by the rows' own cells (each row's printed sentence says how): FnBdSquares: laid · FnBdRotate: laid · FnBdBytes: laid · FnBdText: laid.
  DERIVED. THE GIVEN ROWS OF THIS SEAT. 4 by the template 'for every input the law returns true; each argument reads behind the call as it read before'; 0 by the template 'total and deterministic' (their statements: YtndnmepapmnnlaaDoorTotals.lean).
  GIVEN WITH THE SEED: the statements are not yours to turn. If you find one false, say at which input.
  Laid BY PROGRAM, IN A SANDBOX (cutbox-rows.mjs): the forced cells as the released guide's own fill.sh prints them over the translation 61ad5a913a577a3c… (all of the seat's roots in one cut). By AI agents, Wed Nov 11 2026. No macro, syntax, notation, axiom, sorry.
-/
import Derived.Test.YtndnmepapmnnlaaDoorChecked
import GoSem.Claim
import GoSem.ClaimJoined
import GoSem.ClaimMapViews
import Derived.JoinedTies
import Derived.KernelRfl
namespace Go.Proofs.YtndnmepapmnnlaaDoor
/- THE CELL 'sum', in the pinned program and in every row, IS THE sha256 OF THE DUMP (.gsa) THAT YtndnmepapmnnlaaDoorProg.lean LOADS. Nothing in Lean hashes anything: it is a label: what it is worth is what the hold of that sum in a sandbox is worth. -/
noncomputable def Tryd.pinned : Pinned := { name := "ytndnmepapmnnlaadoor", sum := "61ad5a913a577a3c0c0e806ed17b2b7aa755484b042f51d177e429d5778dd2b7", checked := Tryd.checked }
namespace Rows
def none {H : Type} : Left H := { results := [], args := [] }

/- WHAT THE LISTED PACKAGE-LEVEL VARIABLES READ AS WHEN THE CALL BEGINS. Each datum BY PROGRAM (the guide's laid-datum.mjs) off the statement by which the dump's own 'gosem.cut.vars' lays the variable. In a bare row this is a premise. The card (YtndnmepapmnnlaaDoorCards.lean) ties it to the program's text. -/
def laid_pub_fianchetto_pub_chess_allPieces {H : Type} : DataW H := .slice [.lit (.int .i8 1), .lit (.int .i8 2), .lit (.int .i8 3), .lit (.int .i8 4), .lit (.int .i8 5), .lit (.int .i8 6), .lit (.int .i8 7), .lit (.int .i8 8), .lit (.int .i8 9), .lit (.int .i8 10), .lit (.int .i8 11), .lit (.int .i8 12)] []
def laid_pub_fianchetto_pub_chess_whitePiecesToFEN {H : Type} : DataW H := .agg [.lit (.int .u8 0), .lit (.int .u8 75), .lit (.int .u8 81), .lit (.int .u8 82), .lit (.int .u8 66), .lit (.int .u8 78), .lit (.int .u8 80)]
def laid_pub_fianchetto_pub_chess_blackPiecesToFEN {H : Type} : DataW H := .agg [.lit (.int .u8 0), .lit (.int .u8 107), .lit (.int .u8 113), .lit (.int .u8 114), .lit (.int .u8 98), .lit (.int .u8 110), .lit (.int .u8 112)]
def laid_pub_fianchetto_pub_chess_fenCharToPiece {H : Type} : DataW H := .agg [.lit (.int .i8 0), .lit (.int .i8 0), .lit (.int .i8 0), .lit (.int .i8 0), .lit (.int .i8 0), .lit (.int .i8 0), .lit (.int .i8 0), .lit (.int .i8 0), .lit (.int .i8 0), .lit (.int .i8 0), .lit (.int .i8 0), .lit (.int .i8 0), .lit (.int .i8 0), .lit (.int .i8 0), .lit (.int .i8 0), .lit (.int .i8 0), .lit (.int .i8 0), .lit (.int .i8 0), .lit (.int .i8 0), .lit (.int .i8 0), .lit (.int .i8 0), .lit (.int .i8 0), .lit (.int .i8 0), .lit (.int .i8 0), .lit (.int .i8 0), .lit (.int .i8 0), .lit (.int .i8 0), .lit (.int .i8 0), .lit (.int .i8 0), .lit (.int .i8 0), .lit (.int .i8 0), .lit (.int .i8 0), .lit (.int .i8 0), .lit (.int .i8 0), .lit (.int .i8 0), .lit (.int .i8 0), .lit (.int .i8 0), .lit (.int .i8 0), .lit (.int .i8 0), .lit (.int .i8 0), .lit (.int .i8 0), .lit (.int .i8 0), .lit (.int .i8 0), .lit (.int .i8 0), .lit (.int .i8 0), .lit (.int .i8 0), .lit (.int .i8 0), .lit (.int .i8 0), .lit (.int .i8 0), .lit (.int .i8 0), .lit (.int .i8 0), .lit (.int .i8 0), .lit (.int .i8 0), .lit (.int .i8 0), .lit (.int .i8 0), .lit (.int .i8 0), .lit (.int .i8 0), .lit (.int .i8 0), .lit (.int .i8 0), .lit (.int .i8 0), .lit (.int .i8 0), .lit (.int .i8 0), .lit (.int .i8 0), .lit (.int .i8 0), .lit (.int .i8 0), .lit (.int .i8 0), .lit (.int .i8 4), .lit (.int .i8 0), .lit (.int .i8 0), .lit (.int .i8 0), .lit (.int .i8 0), .lit (.int .i8 0), .lit (.int .i8 0), .lit (.int .i8 0), .lit (.int .i8 0), .lit (.int .i8 1), .lit (.int .i8 0), .lit (.int .i8 0), .lit (.int .i8 5), .lit (.int .i8 0), .lit (.int .i8 6), .lit (.int .i8 2), .lit (.int .i8 3), .lit (.int .i8 0), .lit (.int .i8 0), .lit (.int .i8 0), .lit (.int .i8 0), .lit (.int .i8 0), .lit (.int .i8 0), .lit (.int .i8 0), .lit (.int .i8 0), .lit (.int .i8 0), .lit (.int .i8 0), .lit (.int .i8 0), .lit (.int .i8 0), .lit (.int .i8 0), .lit (.int .i8 0), .lit (.int .i8 0), .lit (.int .i8 10), .lit (.int .i8 0), .lit (.int .i8 0), .lit (.int .i8 0), .lit (.int .i8 0), .lit (.int .i8 0), .lit (.int .i8 0), .lit (.int .i8 0), .lit (.int .i8 0), .lit (.int .i8 7), .lit (.int .i8 0), .lit (.int .i8 0), .lit (.int .i8 11), .lit (.int .i8 0), .lit (.int .i8 12), .lit (.int .i8 8), .lit (.int .i8 9), .lit (.int .i8 0), .lit (.int .i8 0), .lit (.int .i8 0), .lit (.int .i8 0), .lit (.int .i8 0), .lit (.int .i8 0), .lit (.int .i8 0), .lit (.int .i8 0), .lit (.int .i8 0), .lit (.int .i8 0), .lit (.int .i8 0), .lit (.int .i8 0), .lit (.int .i8 0)]

/-- 'laws.FnBdSquares': WHATEVER THE INPUT: true; the input reads as it did. -/
def fnBdSquaresSpec : ChangeSpec := { name := "fnBdSquares", fn := fun _ => fun
  | [d] => { results := [.lit (.bool true)], args := [d] }
  | _ => none }
def fnBdSquaresRow : OpenClaim := { program := "ytndnmepapmnnlaadoor", sum := "61ad5a913a577a3c0c0e806ed17b2b7aa755484b042f51d177e429d5778dd2b7", func := "pub-fianchetto/laws.FnBdSquares", spec := "fnBdSquares", unfollowed := true, recurses := true, named := ["pub-fianchetto/pub/chess.allPieces"], apart := false, laid := [("pub-fianchetto/pub/chess.allPieces", laid_pub_fianchetto_pub_chess_allPieces)] }
def FnBdSquaresSaid : Prop := fnBdSquaresRow.holds Tryd.pinned (OpenSpec.ofChange fnBdSquaresSpec)

/-- ITS FALSE NEIGHBOUR: 'it returns false'. Refute it at one input. -/
def fnBdSquaresWrong : ChangeSpec := { name := "fnBdSquares", fn := fun _ => fun
  | [d] => { results := [.lit (.bool false)], args := [d] }
  | _ => none }
def FnBdSquaresWrongFalsely : Prop := fnBdSquaresRow.holds Tryd.pinned (OpenSpec.ofChange fnBdSquaresWrong)

/-- 'laws.FnBdRotate': WHATEVER THE INPUT: true; the input reads as it did. -/
def fnBdRotateSpec : ChangeSpec := { name := "fnBdRotate", fn := fun _ => fun
  | [d] => { results := [.lit (.bool true)], args := [d] }
  | _ => none }
def fnBdRotateRow : OpenClaim := { program := "ytndnmepapmnnlaadoor", sum := "61ad5a913a577a3c0c0e806ed17b2b7aa755484b042f51d177e429d5778dd2b7", func := "pub-fianchetto/laws.FnBdRotate", spec := "fnBdRotate", unfollowed := true, recurses := true, named := ["pub-fianchetto/pub/chess.allPieces"], apart := false, laid := [("pub-fianchetto/pub/chess.allPieces", laid_pub_fianchetto_pub_chess_allPieces)] }
def FnBdRotateSaid : Prop := fnBdRotateRow.holds Tryd.pinned (OpenSpec.ofChange fnBdRotateSpec)

/-- ITS FALSE NEIGHBOUR: 'it returns false'. Refute it at one input. -/
def fnBdRotateWrong : ChangeSpec := { name := "fnBdRotate", fn := fun _ => fun
  | [d] => { results := [.lit (.bool false)], args := [d] }
  | _ => none }
def FnBdRotateWrongFalsely : Prop := fnBdRotateRow.holds Tryd.pinned (OpenSpec.ofChange fnBdRotateWrong)

/-- 'laws.FnBdBytes': WHATEVER THE INPUT: true; the input reads as it did. -/
def fnBdBytesSpec : ChangeSpec := { name := "fnBdBytes", fn := fun _ => fun
  | [d] => { results := [.lit (.bool true)], args := [d] }
  | _ => none }
def fnBdBytesRow : OpenClaim := { program := "ytndnmepapmnnlaadoor", sum := "61ad5a913a577a3c0c0e806ed17b2b7aa755484b042f51d177e429d5778dd2b7", func := "pub-fianchetto/laws.FnBdBytes", spec := "fnBdBytes", unfollowed := true, recurses := true, named := ["pub-fianchetto/pub/chess.allPieces", "encoding/binary.BigEndian"], apart := false, laid := [("pub-fianchetto/pub/chess.allPieces", laid_pub_fianchetto_pub_chess_allPieces)] }
def FnBdBytesSaid : Prop := fnBdBytesRow.holds Tryd.pinned (OpenSpec.ofChange fnBdBytesSpec)

/-- ITS FALSE NEIGHBOUR: 'it returns false'. Refute it at one input. -/
def fnBdBytesWrong : ChangeSpec := { name := "fnBdBytes", fn := fun _ => fun
  | [d] => { results := [.lit (.bool false)], args := [d] }
  | _ => none }
def FnBdBytesWrongFalsely : Prop := fnBdBytesRow.holds Tryd.pinned (OpenSpec.ofChange fnBdBytesWrong)

/-- 'laws.FnBdText': WHATEVER THE INPUT: true; the input reads as it did. -/
def fnBdTextSpec : ChangeSpec := { name := "fnBdText", fn := fun _ => fun
  | [d] => { results := [.lit (.bool true)], args := [d] }
  | _ => none }
def fnBdTextRow : OpenClaim := { program := "ytndnmepapmnnlaadoor", sum := "61ad5a913a577a3c0c0e806ed17b2b7aa755484b042f51d177e429d5778dd2b7", func := "pub-fianchetto/laws.FnBdText", spec := "fnBdText", unfollowed := true, recurses := true, named := ["pub-fianchetto/pub/chess.allPieces", "pub-fianchetto/pub/chess.whitePiecesToFEN", "pub-fianchetto/pub/chess.blackPiecesToFEN", "pub-fianchetto/pub/chess.fenCharToPiece"], apart := false, laid := [("pub-fianchetto/pub/chess.whitePiecesToFEN", laid_pub_fianchetto_pub_chess_whitePiecesToFEN), ("pub-fianchetto/pub/chess.blackPiecesToFEN", laid_pub_fianchetto_pub_chess_blackPiecesToFEN), ("pub-fianchetto/pub/chess.fenCharToPiece", laid_pub_fianchetto_pub_chess_fenCharToPiece), ("pub-fianchetto/pub/chess.allPieces", laid_pub_fianchetto_pub_chess_allPieces)] }
def FnBdTextSaid : Prop := fnBdTextRow.holds Tryd.pinned (OpenSpec.ofChange fnBdTextSpec)

/-- ITS FALSE NEIGHBOUR: 'it returns false'. Refute it at one input. -/
def fnBdTextWrong : ChangeSpec := { name := "fnBdText", fn := fun _ => fun
  | [d] => { results := [.lit (.bool false)], args := [d] }
  | _ => none }
def FnBdTextWrongFalsely : Prop := fnBdTextRow.holds Tryd.pinned (OpenSpec.ofChange fnBdTextWrong)

/- THE SECOND FORM. 'bulk': how many values and letters a reading holds, each counted each time it is reached (what is shared counts as often as it is met; a slice's spare places count too). A statement '..UptoSaid' is the law's where the arguments, and the package variables that the reading takes, are together of bulk at most 1048576: NARROWER than '..Said'. Prove '..Said' where nothing that the law and all that it calls make is longer than what came in: it says more and counts as full. Else prove '..UptoSaid'. A law counts once. -/
mutual
def uptoBulk {H : Type} : DataW H → Nat
  | .lit (.string bytes) => bytes.length + 1
  | .lit _ => 1
  | .nil => 1
  | .ptr d => uptoBulk d + 1
  | .slice elems spare => uptoBulkAll elems + uptoBulkAll spare + 1
  | .agg parts => uptoBulkAll parts + 1
  | .iface _ d => uptoBulk d + 1
  | .map entries => uptoBulkEntries entries + 1
  | .held _ => 1
def uptoBulkAll {H : Type} : List (DataW H) → Nat
  | [] => 0
  | d :: r => uptoBulk d + uptoBulkAll r
def uptoBulkEntries {H : Type} : List (Lit × DataW H) → Nat
  | [] => 0
  | x :: r => uptoBulkEntry x + uptoBulkEntries r
def uptoBulkEntry {H : Type} : Lit × DataW H → Nat
  | (.string bytes, d) => bytes.length + uptoBulk d + 1
  | (_, d) => uptoBulk d + 1
 end
def uptoSmall : (H : Type) → List (DataW H) → Bool := fun _ ds => decide (uptoBulkAll ds ≤ 1048576)
def OpenSpec.upto (s : _root_.Go.ChangeSpec) : _root_.Go.OpenSpec := { _root_.Go.OpenSpec.ofChange s with cond := some uptoSmall }

/-- 'laws.FnBdSquares', WHERE WHAT IT READS IS OF BULK AT MOST 1048576: true; the input reads as it did. -/
def fnBdSquaresUptoRow : OpenClaim := { program := "ytndnmepapmnnlaadoor", sum := "61ad5a913a577a3c0c0e806ed17b2b7aa755484b042f51d177e429d5778dd2b7", func := "pub-fianchetto/laws.FnBdSquares", spec := "fnBdSquares", unfollowed := true, recurses := true, named := ["pub-fianchetto/pub/chess.allPieces"], apart := false, laid := [("pub-fianchetto/pub/chess.allPieces", laid_pub_fianchetto_pub_chess_allPieces)], narrowed := true }
def FnBdSquaresUptoSaid : Prop := fnBdSquaresUptoRow.holds Tryd.pinned (OpenSpec.upto fnBdSquaresSpec)

/-- 'laws.FnBdRotate', WHERE WHAT IT READS IS OF BULK AT MOST 1048576: true; the input reads as it did. -/
def fnBdRotateUptoRow : OpenClaim := { program := "ytndnmepapmnnlaadoor", sum := "61ad5a913a577a3c0c0e806ed17b2b7aa755484b042f51d177e429d5778dd2b7", func := "pub-fianchetto/laws.FnBdRotate", spec := "fnBdRotate", unfollowed := true, recurses := true, named := ["pub-fianchetto/pub/chess.allPieces"], apart := false, laid := [("pub-fianchetto/pub/chess.allPieces", laid_pub_fianchetto_pub_chess_allPieces)], narrowed := true }
def FnBdRotateUptoSaid : Prop := fnBdRotateUptoRow.holds Tryd.pinned (OpenSpec.upto fnBdRotateSpec)

/-- 'laws.FnBdBytes', WHERE WHAT IT READS IS OF BULK AT MOST 1048576: true; the input reads as it did. -/
def fnBdBytesUptoRow : OpenClaim := { program := "ytndnmepapmnnlaadoor", sum := "61ad5a913a577a3c0c0e806ed17b2b7aa755484b042f51d177e429d5778dd2b7", func := "pub-fianchetto/laws.FnBdBytes", spec := "fnBdBytes", unfollowed := true, recurses := true, named := ["pub-fianchetto/pub/chess.allPieces", "encoding/binary.BigEndian"], apart := false, laid := [("pub-fianchetto/pub/chess.allPieces", laid_pub_fianchetto_pub_chess_allPieces)], narrowed := true }
def FnBdBytesUptoSaid : Prop := fnBdBytesUptoRow.holds Tryd.pinned (OpenSpec.upto fnBdBytesSpec)

/-- 'laws.FnBdText', WHERE WHAT IT READS IS OF BULK AT MOST 1048576: true; the input reads as it did. -/
def fnBdTextUptoRow : OpenClaim := { program := "ytndnmepapmnnlaadoor", sum := "61ad5a913a577a3c0c0e806ed17b2b7aa755484b042f51d177e429d5778dd2b7", func := "pub-fianchetto/laws.FnBdText", spec := "fnBdText", unfollowed := true, recurses := true, named := ["pub-fianchetto/pub/chess.allPieces", "pub-fianchetto/pub/chess.whitePiecesToFEN", "pub-fianchetto/pub/chess.blackPiecesToFEN", "pub-fianchetto/pub/chess.fenCharToPiece"], apart := false, laid := [("pub-fianchetto/pub/chess.whitePiecesToFEN", laid_pub_fianchetto_pub_chess_whitePiecesToFEN), ("pub-fianchetto/pub/chess.blackPiecesToFEN", laid_pub_fianchetto_pub_chess_blackPiecesToFEN), ("pub-fianchetto/pub/chess.fenCharToPiece", laid_pub_fianchetto_pub_chess_fenCharToPiece), ("pub-fianchetto/pub/chess.allPieces", laid_pub_fianchetto_pub_chess_allPieces)], narrowed := true }
def FnBdTextUptoSaid : Prop := fnBdTextUptoRow.holds Tryd.pinned (OpenSpec.upto fnBdTextSpec)

end Rows
end Go.Proofs.YtndnmepapmnnlaaDoor
