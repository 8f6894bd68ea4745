/-
  DERIVED. GIVEN WITH THE SEED: THE PROGRAM's TIES (one call each: nine closed facts by the kernel) AND EACH ROW's TIE, after the 31st guide's Derived/Test/Toyas{Tie, Card}.lean. No idea stands in it: it is a product of the set-up. Laid BY PROGRAM, IN A SANDBOX (cutbox-door.mjs). By AI agents, Wed Nov 11 2026. No macro, syntax, notation, axiom, sorry.
-/
import Derived.Test.YtndnmepapmnnlaaDoorRows
import Derived.LaidByTextLater
import Derived.SevenTiedAt
import Derived.LaidSub
import Derived.LaidOnce
namespace Go.Proofs.YtndnmepapmnnlaaDoor
open Go
set_option maxRecDepth 100000
theorem seatTie1 : Tryd.prog.laidByTextLater [("pub-fianchetto/pub/chess.whitePiecesToFEN", Rows.laid_pub_fianchetto_pub_chess_whitePiecesToFEN), ("pub-fianchetto/pub/chess.blackPiecesToFEN", Rows.laid_pub_fianchetto_pub_chess_blackPiecesToFEN), ("pub-fianchetto/pub/chess.fenCharToPiece", Rows.laid_pub_fianchetto_pub_chess_fenCharToPiece), ("pub-fianchetto/pub/chess.allPieces", Rows.laid_pub_fianchetto_pub_chess_allPieces)] [.data, .data, .data, .data] true :=
  Program.laidByTextLater_by_one 29 8 129 (by kernel_rfl) (by kernel_rfl) (by kernel_rfl) (by kernel_rfl) (by kernel_rfl) (by kernel_rfl) (fun _ _ => by kernel_rfl)
theorem noOwnUnsafe : Tryd.pinned.checked.prog.headLifts.contains "ownunsafe" = false := by kernel_rfl
theorem tie : Tryd.prog.laidByTextLater [("pub-fianchetto/pub/chess.allPieces", Rows.laid_pub_fianchetto_pub_chess_allPieces)] [.data] true :=
  Program.laidByTextLater.sub seatTie1 ["pub-fianchetto/pub/chess.allPieces"] (by kernel_rfl) (by kernel_rfl)
theorem fnBdSquares_row_tie : Rows.fnBdSquaresRow.laidByTextAt .later Tryd.pinned [.data] true :=
  OpenClaim.laidByTextAt_later rfl rfl tie noOwnUnsafe
theorem fnBdRotate_row_tie : Rows.fnBdRotateRow.laidByTextAt .later Tryd.pinned [.data] true :=
  OpenClaim.laidByTextAt_later rfl rfl tie noOwnUnsafe
theorem fnBdBytes_row_tie : Rows.fnBdBytesRow.laidByTextAt .later Tryd.pinned [.data] true :=
  OpenClaim.laidByTextAt_later rfl rfl tie noOwnUnsafe
theorem tie2 : Tryd.prog.laidByTextLater [("pub-fianchetto/pub/chess.whitePiecesToFEN", Rows.laid_pub_fianchetto_pub_chess_whitePiecesToFEN), ("pub-fianchetto/pub/chess.blackPiecesToFEN", Rows.laid_pub_fianchetto_pub_chess_blackPiecesToFEN), ("pub-fianchetto/pub/chess.fenCharToPiece", Rows.laid_pub_fianchetto_pub_chess_fenCharToPiece), ("pub-fianchetto/pub/chess.allPieces", Rows.laid_pub_fianchetto_pub_chess_allPieces)] [.data, .data, .data, .data] true :=
  Program.laidByTextLater.sub seatTie1 ["pub-fianchetto/pub/chess.whitePiecesToFEN", "pub-fianchetto/pub/chess.blackPiecesToFEN", "pub-fianchetto/pub/chess.fenCharToPiece", "pub-fianchetto/pub/chess.allPieces"] (by kernel_rfl) (by kernel_rfl)
theorem fnBdText_row_tie : Rows.fnBdTextRow.laidByTextAt .later Tryd.pinned [.data, .data, .data, .data] true :=
  OpenClaim.laidByTextAt_later rfl rfl tie2 noOwnUnsafe
theorem fnBdSquaresUpto_row_tie : Rows.fnBdSquaresUptoRow.laidByTextAt .later Tryd.pinned [.data] true :=
  OpenClaim.laidByTextAt_later rfl rfl tie noOwnUnsafe
theorem fnBdRotateUpto_row_tie : Rows.fnBdRotateUptoRow.laidByTextAt .later Tryd.pinned [.data] true :=
  OpenClaim.laidByTextAt_later rfl rfl tie noOwnUnsafe
theorem fnBdBytesUpto_row_tie : Rows.fnBdBytesUptoRow.laidByTextAt .later Tryd.pinned [.data] true :=
  OpenClaim.laidByTextAt_later rfl rfl tie noOwnUnsafe
theorem fnBdTextUpto_row_tie : Rows.fnBdTextUptoRow.laidByTextAt .later Tryd.pinned [.data, .data, .data, .data] true :=
  OpenClaim.laidByTextAt_later rfl rfl tie2 noOwnUnsafe
end Go.Proofs.YtndnmepapmnnlaaDoor
