/-
  DERIVED. GIVEN WITH THE SEED: THE PROGRAM's TIES (one call each: nine closed facts by the kernel) AND EACH ROW's TIE, after the 31st guide's Derived/Test/Toyas{Tie, Card}.lean. No idea stands in it: it is a product of the set-up. Laid BY PROGRAM, IN A SANDBOX (cutbox-door.mjs). By AI agents, Wed Nov 11 2026. No macro, syntax, notation, axiom, sorry.
-/
import Derived.Test.YtgebocnomapchaaDoorRows
import Derived.LaidByTextLater
import Derived.SevenTiedAt
import Derived.LaidSub
import Derived.LaidOnce
namespace Go.Proofs.YtgebocnomapchaaDoor
open Go
set_option maxRecDepth 100000
theorem seatTie1 : Tryd.prog.laidByTextLater [("pub-fianchetto/pub/chess.bbFiles", Rows.laid_pub_fianchetto_pub_chess_bbFiles), ("pub-fianchetto/pub/chess.bbRanks", Rows.laid_pub_fianchetto_pub_chess_bbRanks), ("pub-fianchetto/pub/chess.bbDiagonals", Rows.laid_pub_fianchetto_pub_chess_bbDiagonals), ("pub-fianchetto/pub/chess.bbAntiDiagonals", Rows.laid_pub_fianchetto_pub_chess_bbAntiDiagonals), ("pub-fianchetto/pub/chess.emptyComponents", Rows.laid_pub_fianchetto_pub_chess_emptyComponents), ("pub-fianchetto/pub/chess.pieceUnicodes", Rows.laid_pub_fianchetto_pub_chess_pieceUnicodes), ("pub-fianchetto/pub/chess.pieceDarkUnicodes", Rows.laid_pub_fianchetto_pub_chess_pieceDarkUnicodes), ("pub-fianchetto/pub/chess/uci.missingWdlErr", Rows.laid_pub_fianchetto_pub_chess_uci_missingWdlErr)] [.data, .data, .data, .data, .data, .data, .data, .sentinel] true :=
  Program.laidByTextLater_by_one 103 8 65 (by kernel_rfl) (by kernel_rfl) (by kernel_rfl) (by kernel_rfl) (by kernel_rfl) (by kernel_rfl) (fun _ _ => by kernel_rfl)
theorem seatTie2 : Tryd.prog.laidByTextLater [("pub-fianchetto/pub/chess.bbFiles", Rows.laid_pub_fianchetto_pub_chess_bbFiles), ("pub-fianchetto/pub/chess.bbRanks", Rows.laid_pub_fianchetto_pub_chess_bbRanks), ("pub-fianchetto/pub/chess.bbDiagonals", Rows.laid_pub_fianchetto_pub_chess_bbDiagonals), ("pub-fianchetto/pub/chess.bbAntiDiagonals", Rows.laid_pub_fianchetto_pub_chess_bbAntiDiagonals), ("pub-fianchetto/pub/chess.bbKnightMoves", Rows.laid_pub_fianchetto_pub_chess_bbKnightMoves), ("pub-fianchetto/pub/chess.bbKingMoves", Rows.laid_pub_fianchetto_pub_chess_bbKingMoves)] [.data, .data, .data, .data, .data, .data] true :=
  Program.laidByTextLater_by_one 103 8 65 (by kernel_rfl) (by kernel_rfl) (by kernel_rfl) (by kernel_rfl) (by kernel_rfl) (by kernel_rfl) (fun _ _ => by kernel_rfl)
theorem seatTie3 : Tryd.prog.laidByTextLater [("math/bits.deBruijn32tab", Rows.laid_math_bits_deBruijn32tab), ("math/bits.deBruijn64tab", Rows.laid_math_bits_deBruijn64tab), ("internal/strconv.uint64pow10", Rows.laid_internal_strconv_uint64pow10), ("unicode/utf8.acceptRanges", Rows.laid_unicode_utf8_acceptRanges), ("pub-fianchetto/pub/chess._Method_index", Rows.laid_pub_fianchetto_pub_chess_Method_index)] [.data, .data, .data, .data, .data] true :=
  Program.laidByTextLater_by_one 103 8 65 (by kernel_rfl) (by kernel_rfl) (by kernel_rfl) (by kernel_rfl) (by kernel_rfl) (by kernel_rfl) (fun _ _ => by kernel_rfl)
theorem pin_laid_unicode_CaseRanges : Tryd.pinned.checked.prog.pinnedFits "unicode.CaseRanges" = true := by kernel_rfl
theorem pin_laid_unicode_utf8_first : Tryd.pinned.checked.prog.pinnedFits "unicode/utf8.first" = true := by kernel_rfl
theorem noOwnUnsafe : Tryd.pinned.checked.prog.headLifts.contains "ownunsafe" = false := by kernel_rfl
theorem tie : Tryd.prog.laidByTextLater [("pub-fianchetto/pub/chess.pieceUnicodes", Rows.laid_pub_fianchetto_pub_chess_pieceUnicodes), ("pub-fianchetto/pub/chess.pieceDarkUnicodes", Rows.laid_pub_fianchetto_pub_chess_pieceDarkUnicodes)] [.data, .data] true :=
  Program.laidByTextLater.sub seatTie1 ["pub-fianchetto/pub/chess.pieceUnicodes", "pub-fianchetto/pub/chess.pieceDarkUnicodes"] (by kernel_rfl) (by kernel_rfl)
theorem fnNmSigns_row_tie : Rows.fnNmSignsRow.laidByTextAt .later Tryd.pinned [.data, .data] true :=
  OpenClaim.laidByTextAt_later rfl rfl tie noOwnUnsafe
theorem tie2 : Tryd.prog.laidByTextLater [("pub-fianchetto/pub/chess/uci.missingWdlErr", Rows.laid_pub_fianchetto_pub_chess_uci_missingWdlErr)] [.sentinel] true :=
  Program.laidByTextLater.sub seatTie1 ["pub-fianchetto/pub/chess/uci.missingWdlErr"] (by kernel_rfl) (by kernel_rfl)
theorem fnUciPercent_row_tie : Rows.fnUciPercentRow.laidByTextAt .later Tryd.pinned [.sentinel] true :=
  OpenClaim.laidByTextAt_later rfl rfl tie2 noOwnUnsafe
theorem tie3 : Tryd.prog.laidByTextLater [("pub-fianchetto/pub/chess.bbFiles", Rows.laid_pub_fianchetto_pub_chess_bbFiles), ("pub-fianchetto/pub/chess.bbRanks", Rows.laid_pub_fianchetto_pub_chess_bbRanks), ("pub-fianchetto/pub/chess.bbDiagonals", Rows.laid_pub_fianchetto_pub_chess_bbDiagonals), ("pub-fianchetto/pub/chess.bbAntiDiagonals", Rows.laid_pub_fianchetto_pub_chess_bbAntiDiagonals), ("pub-fianchetto/pub/chess.bbKnightMoves", Rows.laid_pub_fianchetto_pub_chess_bbKnightMoves), ("pub-fianchetto/pub/chess.bbKingMoves", Rows.laid_pub_fianchetto_pub_chess_bbKingMoves)] [.data, .data, .data, .data, .data, .data] true :=
  Program.laidByTextLater.sub seatTie2 ["pub-fianchetto/pub/chess.bbFiles", "pub-fianchetto/pub/chess.bbRanks", "pub-fianchetto/pub/chess.bbDiagonals", "pub-fianchetto/pub/chess.bbAntiDiagonals", "pub-fianchetto/pub/chess.bbKnightMoves", "pub-fianchetto/pub/chess.bbKingMoves"] (by kernel_rfl) (by kernel_rfl)
theorem fnBiMasks_row_tie : Rows.fnBiMasksRow.laidByTextAt .later Tryd.pinned [.data, .data, .data, .data, .data, .data] true :=
  OpenClaim.laidByTextAt_later rfl rfl tie3 noOwnUnsafe
theorem tie4 : Tryd.prog.laidByTextLater [("pub-fianchetto/pub/chess.bbFiles", Rows.laid_pub_fianchetto_pub_chess_bbFiles), ("pub-fianchetto/pub/chess.bbRanks", Rows.laid_pub_fianchetto_pub_chess_bbRanks), ("pub-fianchetto/pub/chess.bbDiagonals", Rows.laid_pub_fianchetto_pub_chess_bbDiagonals), ("pub-fianchetto/pub/chess.bbAntiDiagonals", Rows.laid_pub_fianchetto_pub_chess_bbAntiDiagonals)] [.data, .data, .data, .data] true :=
  Program.laidByTextLater.sub seatTie1 ["pub-fianchetto/pub/chess.bbFiles", "pub-fianchetto/pub/chess.bbRanks", "pub-fianchetto/pub/chess.bbDiagonals", "pub-fianchetto/pub/chess.bbAntiDiagonals"] (by kernel_rfl) (by kernel_rfl)
theorem fnBiLinear_row_tie : Rows.fnBiLinearRow.laidByTextAt .later Tryd.pinned [.data, .data, .data, .data] true :=
  OpenClaim.laidByTextAt_later rfl rfl tie4 noOwnUnsafe
theorem tie5 : Tryd.prog.laidByTextLater [("pub-fianchetto/pub/chess.emptyComponents", Rows.laid_pub_fianchetto_pub_chess_emptyComponents)] [.data] true :=
  Program.laidByTextLater.sub seatTie1 ["pub-fianchetto/pub/chess.emptyComponents"] (by kernel_rfl) (by kernel_rfl)
theorem fnSanOptions_row_tie : Rows.fnSanOptionsRow.laidByTextAt .later Tryd.pinned [.data] true :=
  OpenClaim.laidByTextAt_later rfl rfl tie5 noOwnUnsafe
theorem tie6 : Tryd.prog.laidByTextLater [("math/bits.deBruijn32tab", Rows.laid_math_bits_deBruijn32tab), ("math/bits.deBruijn64tab", Rows.laid_math_bits_deBruijn64tab), ("internal/strconv.uint64pow10", Rows.laid_internal_strconv_uint64pow10), ("pub-fianchetto/pub/chess._Method_index", Rows.laid_pub_fianchetto_pub_chess_Method_index)] [.data, .data, .data, .data] true :=
  Program.laidByTextLater.sub seatTie3 ["math/bits.deBruijn32tab", "math/bits.deBruijn64tab", "internal/strconv.uint64pow10", "pub-fianchetto/pub/chess._Method_index"] (by kernel_rfl) (by kernel_rfl)
theorem fnNmMethods_row_tie : Rows.fnNmMethodsRow.laidByTextAt .later Tryd.pinned [.data, .data, .data, .data] true :=
  OpenClaim.laidByTextAt_later rfl rfl tie6 noOwnUnsafe
theorem fits7 : Tryd.pinned.checked.prog.listedFits [("unicode/utf8.acceptRanges", Rows.laid_unicode_utf8_acceptRanges), ("unicode.CaseRanges", Rows.laid_unicode_CaseRanges), ("unicode/utf8.first", Rows.laid_unicode_utf8_first)] = true := by
  unfold Program.listedFits
  rw [noOwnUnsafe]
  kernel_rfl
theorem tie7 : Tryd.prog.laidByTextLater [("unicode/utf8.acceptRanges", Rows.laid_unicode_utf8_acceptRanges)] [.data] true :=
  Program.laidByTextLater.sub seatTie3 ["unicode/utf8.acceptRanges"] (by kernel_rfl) (by kernel_rfl)
theorem fnNmColors_row_tie : Rows.fnNmColorsRow.laidByTextAt .later Tryd.pinned [.data, .pinned, .pinned] true :=
  OpenClaim.laidByTextAt_pinned rfl rfl tie7 rfl rfl rfl rfl (fun y hy _e => by
    simp only [Rows.fnNmColorsRow, List.zip_cons_cons, List.zip_nil_right, List.mem_cons, List.mem_nil_iff, or_false] at hy
    rcases hy with rfl | rfl | rfl
    · cases _e
    · exact ⟨pin_laid_unicode_CaseRanges, by kernel_rfl⟩
    · exact ⟨pin_laid_unicode_utf8_first, by kernel_rfl⟩) fits7
theorem fnNmSignsUpto_row_tie : Rows.fnNmSignsUptoRow.laidByTextAt .later Tryd.pinned [.data, .data] true :=
  OpenClaim.laidByTextAt_later rfl rfl tie noOwnUnsafe
theorem fnUciPercentUpto_row_tie : Rows.fnUciPercentUptoRow.laidByTextAt .later Tryd.pinned [.sentinel] true :=
  OpenClaim.laidByTextAt_later rfl rfl tie2 noOwnUnsafe
theorem fnBiMasksUpto_row_tie : Rows.fnBiMasksUptoRow.laidByTextAt .later Tryd.pinned [.data, .data, .data, .data, .data, .data] true :=
  OpenClaim.laidByTextAt_later rfl rfl tie3 noOwnUnsafe
theorem fnBiLinearUpto_row_tie : Rows.fnBiLinearUptoRow.laidByTextAt .later Tryd.pinned [.data, .data, .data, .data] true :=
  OpenClaim.laidByTextAt_later rfl rfl tie4 noOwnUnsafe
theorem fnSanOptionsUpto_row_tie : Rows.fnSanOptionsUptoRow.laidByTextAt .later Tryd.pinned [.data] true :=
  OpenClaim.laidByTextAt_later rfl rfl tie5 noOwnUnsafe
theorem fnNmMethodsUpto_row_tie : Rows.fnNmMethodsUptoRow.laidByTextAt .later Tryd.pinned [.data, .data, .data, .data] true :=
  OpenClaim.laidByTextAt_later rfl rfl tie6 noOwnUnsafe
theorem fnNmColorsUpto_row_tie : Rows.fnNmColorsUptoRow.laidByTextAt .later Tryd.pinned [.data, .pinned, .pinned] true :=
  OpenClaim.laidByTextAt_pinned rfl rfl tie7 rfl rfl rfl rfl (fun y hy _e => by
    simp only [Rows.fnNmColorsUptoRow, List.zip_cons_cons, List.zip_nil_right, List.mem_cons, List.mem_nil_iff, or_false] at hy
    rcases hy with rfl | rfl | rfl
    · cases _e
    · exact ⟨pin_laid_unicode_CaseRanges, by kernel_rfl⟩
    · exact ⟨pin_laid_unicode_utf8_first, by kernel_rfl⟩) fits7
end Go.Proofs.YtgebocnomapchaaDoor
