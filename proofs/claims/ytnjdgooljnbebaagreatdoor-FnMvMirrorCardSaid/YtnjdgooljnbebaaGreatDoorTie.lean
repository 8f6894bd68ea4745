/-
  DERIVED. GIVEN WITH THE SEED: THE PROGRAM's TIES (one call each: nine closed facts by the kernel) AND EACH ROW's TIE, after the 31st guide's Derived/Test/Toyas{Tie, Card}.lean. No idea stands in it: it is a product of the set-up. Laid BY PROGRAM, IN A SANDBOX (cutbox-door.mjs). By AI agents, Wed Nov 11 2026. No macro, syntax, notation, axiom, sorry.
-/
import Derived.Test.YtnjdgooljnbebaaGreatDoorRows
import Derived.LaidByTextLater
import Derived.SevenTiedAt
import Derived.LaidSub
import Derived.LaidOnce
namespace Go.Proofs.YtnjdgooljnbebaaGreatDoor
open Go
set_option maxRecDepth 100000
theorem seatTie1 : Tryz.prog.laidByTextLater [("unicode/utf8.acceptRanges", Rows.laid_unicode_utf8_acceptRanges), ("pub-fianchetto/pub/chess.promoPieceTypes", Rows.laid_pub_fianchetto_pub_chess_promoPieceTypes), ("pub-fianchetto/pub/chess.bbFiles", Rows.laid_pub_fianchetto_pub_chess_bbFiles), ("pub-fianchetto/pub/chess.bbRanks", Rows.laid_pub_fianchetto_pub_chess_bbRanks), ("pub-fianchetto/pub/chess.bbDiagonals", Rows.laid_pub_fianchetto_pub_chess_bbDiagonals), ("pub-fianchetto/pub/chess.bbAntiDiagonals", Rows.laid_pub_fianchetto_pub_chess_bbAntiDiagonals), ("pub-fianchetto/pub/chess.bbKnightMoves", Rows.laid_pub_fianchetto_pub_chess_bbKnightMoves), ("pub-fianchetto/pub/chess.bbKingMoves", Rows.laid_pub_fianchetto_pub_chess_bbKingMoves), ("pub-fianchetto/pub/chess.allPieces", Rows.laid_pub_fianchetto_pub_chess_allPieces)] [.data, .data, .data, .data, .data, .data, .data, .data, .data] true :=
  Program.laidByTextLater_by_one 69 8 65 (by kernel_rfl) (by kernel_rfl) (by kernel_rfl) (by kernel_rfl) (by kernel_rfl) (by kernel_rfl) (fun _ _ => by kernel_rfl)
theorem seatTie2 : Tryz.prog.laidByTextLater [("unicode/utf8.acceptRanges", Rows.laid_unicode_utf8_acceptRanges), ("pub-fianchetto/pub/chess.promoPieceTypes", Rows.laid_pub_fianchetto_pub_chess_promoPieceTypes), ("pub-fianchetto/pub/chess.bbFiles", Rows.laid_pub_fianchetto_pub_chess_bbFiles), ("pub-fianchetto/pub/chess.bbRanks", Rows.laid_pub_fianchetto_pub_chess_bbRanks), ("pub-fianchetto/pub/chess.bbDiagonals", Rows.laid_pub_fianchetto_pub_chess_bbDiagonals), ("pub-fianchetto/pub/chess.bbAntiDiagonals", Rows.laid_pub_fianchetto_pub_chess_bbAntiDiagonals), ("pub-fianchetto/pub/chess.bbKnightMoves", Rows.laid_pub_fianchetto_pub_chess_bbKnightMoves), ("pub-fianchetto/pub/chess.bbKingMoves", Rows.laid_pub_fianchetto_pub_chess_bbKingMoves), ("pub-fianchetto/pub/chess.whitePiecesToFEN", Rows.laid_pub_fianchetto_pub_chess_whitePiecesToFEN), ("pub-fianchetto/pub/chess.blackPiecesToFEN", Rows.laid_pub_fianchetto_pub_chess_blackPiecesToFEN), ("pub-fianchetto/pub/chess.allPieces", Rows.laid_pub_fianchetto_pub_chess_allPieces)] [.data, .data, .data, .data, .data, .data, .data, .data, .data, .data, .data] true :=
  Program.laidByTextLater_by_one 69 8 65 (by kernel_rfl) (by kernel_rfl) (by kernel_rfl) (by kernel_rfl) (by kernel_rfl) (by kernel_rfl) (fun _ _ => by kernel_rfl)
theorem pin_laid_unicode_CaseRanges : Tryz.pinned.checked.prog.pinnedFits "unicode.CaseRanges" = true := by kernel_rfl
theorem pin_laid_unicode_utf8_first : Tryz.pinned.checked.prog.pinnedFits "unicode/utf8.first" = true := by kernel_rfl
theorem noOwnUnsafe : Tryz.pinned.checked.prog.headLifts.contains "ownunsafe" = false := by kernel_rfl
theorem fits1 : Tryz.pinned.checked.prog.listedFits [("unicode/utf8.acceptRanges", Rows.laid_unicode_utf8_acceptRanges), ("pub-fianchetto/pub/chess.promoPieceTypes", Rows.laid_pub_fianchetto_pub_chess_promoPieceTypes), ("pub-fianchetto/pub/chess.bbFiles", Rows.laid_pub_fianchetto_pub_chess_bbFiles), ("pub-fianchetto/pub/chess.bbRanks", Rows.laid_pub_fianchetto_pub_chess_bbRanks), ("pub-fianchetto/pub/chess.bbDiagonals", Rows.laid_pub_fianchetto_pub_chess_bbDiagonals), ("pub-fianchetto/pub/chess.bbAntiDiagonals", Rows.laid_pub_fianchetto_pub_chess_bbAntiDiagonals), ("pub-fianchetto/pub/chess.bbKnightMoves", Rows.laid_pub_fianchetto_pub_chess_bbKnightMoves), ("pub-fianchetto/pub/chess.bbKingMoves", Rows.laid_pub_fianchetto_pub_chess_bbKingMoves), ("pub-fianchetto/pub/chess.allPieces", Rows.laid_pub_fianchetto_pub_chess_allPieces), ("unicode.CaseRanges", Rows.laid_unicode_CaseRanges), ("unicode/utf8.first", Rows.laid_unicode_utf8_first)] = true := by
  unfold Program.listedFits
  rw [noOwnUnsafe]
  kernel_rfl
theorem tie : Tryz.prog.laidByTextLater [("unicode/utf8.acceptRanges", Rows.laid_unicode_utf8_acceptRanges), ("pub-fianchetto/pub/chess.promoPieceTypes", Rows.laid_pub_fianchetto_pub_chess_promoPieceTypes), ("pub-fianchetto/pub/chess.bbFiles", Rows.laid_pub_fianchetto_pub_chess_bbFiles), ("pub-fianchetto/pub/chess.bbRanks", Rows.laid_pub_fianchetto_pub_chess_bbRanks), ("pub-fianchetto/pub/chess.bbDiagonals", Rows.laid_pub_fianchetto_pub_chess_bbDiagonals), ("pub-fianchetto/pub/chess.bbAntiDiagonals", Rows.laid_pub_fianchetto_pub_chess_bbAntiDiagonals), ("pub-fianchetto/pub/chess.bbKnightMoves", Rows.laid_pub_fianchetto_pub_chess_bbKnightMoves), ("pub-fianchetto/pub/chess.bbKingMoves", Rows.laid_pub_fianchetto_pub_chess_bbKingMoves), ("pub-fianchetto/pub/chess.allPieces", Rows.laid_pub_fianchetto_pub_chess_allPieces)] [.data, .data, .data, .data, .data, .data, .data, .data, .data] true :=
  Program.laidByTextLater.sub seatTie1 ["unicode/utf8.acceptRanges", "pub-fianchetto/pub/chess.promoPieceTypes", "pub-fianchetto/pub/chess.bbFiles", "pub-fianchetto/pub/chess.bbRanks", "pub-fianchetto/pub/chess.bbDiagonals", "pub-fianchetto/pub/chess.bbAntiDiagonals", "pub-fianchetto/pub/chess.bbKnightMoves", "pub-fianchetto/pub/chess.bbKingMoves", "pub-fianchetto/pub/chess.allPieces"] (by kernel_rfl) (by kernel_rfl)
theorem fnMvStatus_row_tie : Rows.fnMvStatusRow.laidByTextAt .later Tryz.pinned [.data, .data, .data, .data, .data, .data, .data, .data, .data, .pinned, .pinned] true :=
  OpenClaim.laidByTextAt_pinned rfl rfl tie rfl rfl rfl rfl (fun y hy _e => by
    simp only [Rows.fnMvStatusRow, List.zip_cons_cons, List.zip_nil_right, List.mem_cons, List.mem_nil_iff, or_false] at hy
    rcases hy with rfl | rfl | rfl | rfl | rfl | rfl | rfl | rfl | rfl | rfl | rfl
    · cases _e
    · cases _e
    · cases _e
    · cases _e
    · cases _e
    · cases _e
    · cases _e
    · cases _e
    · cases _e
    · exact ⟨pin_laid_unicode_CaseRanges, by kernel_rfl⟩
    · exact ⟨pin_laid_unicode_utf8_first, by kernel_rfl⟩) fits1
theorem fnMvMirror_row_tie : Rows.fnMvMirrorRow.laidByTextAt .later Tryz.pinned [.data, .data, .data, .data, .data, .data, .data, .data, .data, .pinned, .pinned] true :=
  OpenClaim.laidByTextAt_pinned rfl rfl tie rfl rfl rfl rfl (fun y hy _e => by
    simp only [Rows.fnMvMirrorRow, List.zip_cons_cons, List.zip_nil_right, List.mem_cons, List.mem_nil_iff, or_false] at hy
    rcases hy with rfl | rfl | rfl | rfl | rfl | rfl | rfl | rfl | rfl | rfl | rfl
    · cases _e
    · cases _e
    · cases _e
    · cases _e
    · cases _e
    · cases _e
    · cases _e
    · cases _e
    · cases _e
    · exact ⟨pin_laid_unicode_CaseRanges, by kernel_rfl⟩
    · exact ⟨pin_laid_unicode_utf8_first, by kernel_rfl⟩) fits1
theorem fnMvAllTags_row_tie : Rows.fnMvAllTagsRow.laidByTextAt .later Tryz.pinned [.data, .data, .data, .data, .data, .data, .data, .data, .data, .pinned, .pinned] true :=
  OpenClaim.laidByTextAt_pinned rfl rfl tie rfl rfl rfl rfl (fun y hy _e => by
    simp only [Rows.fnMvAllTagsRow, List.zip_cons_cons, List.zip_nil_right, List.mem_cons, List.mem_nil_iff, or_false] at hy
    rcases hy with rfl | rfl | rfl | rfl | rfl | rfl | rfl | rfl | rfl | rfl | rfl
    · cases _e
    · cases _e
    · cases _e
    · cases _e
    · cases _e
    · cases _e
    · cases _e
    · cases _e
    · cases _e
    · exact ⟨pin_laid_unicode_CaseRanges, by kernel_rfl⟩
    · exact ⟨pin_laid_unicode_utf8_first, by kernel_rfl⟩) fits1
theorem fnSanSign_row_tie : Rows.fnSanSignRow.laidByTextAt .later Tryz.pinned [.data, .data, .data, .data, .data, .data, .data, .data, .data, .pinned, .pinned] true :=
  OpenClaim.laidByTextAt_pinned rfl rfl tie rfl rfl rfl rfl (fun y hy _e => by
    simp only [Rows.fnSanSignRow, List.zip_cons_cons, List.zip_nil_right, List.mem_cons, List.mem_nil_iff, or_false] at hy
    rcases hy with rfl | rfl | rfl | rfl | rfl | rfl | rfl | rfl | rfl | rfl | rfl
    · cases _e
    · cases _e
    · cases _e
    · cases _e
    · cases _e
    · cases _e
    · cases _e
    · cases _e
    · cases _e
    · exact ⟨pin_laid_unicode_CaseRanges, by kernel_rfl⟩
    · exact ⟨pin_laid_unicode_utf8_first, by kernel_rfl⟩) fits1
theorem fnMvPlay_row_tie : Rows.fnMvPlayRow.laidByTextAt .later Tryz.pinned [.data, .data, .data, .data, .data, .data, .data, .data, .data, .pinned, .pinned] true :=
  OpenClaim.laidByTextAt_pinned rfl rfl tie rfl rfl rfl rfl (fun y hy _e => by
    simp only [Rows.fnMvPlayRow, List.zip_cons_cons, List.zip_nil_right, List.mem_cons, List.mem_nil_iff, or_false] at hy
    rcases hy with rfl | rfl | rfl | rfl | rfl | rfl | rfl | rfl | rfl | rfl | rfl
    · cases _e
    · cases _e
    · cases _e
    · cases _e
    · cases _e
    · cases _e
    · cases _e
    · cases _e
    · cases _e
    · exact ⟨pin_laid_unicode_CaseRanges, by kernel_rfl⟩
    · exact ⟨pin_laid_unicode_utf8_first, by kernel_rfl⟩) fits1
theorem fits2 : Tryz.pinned.checked.prog.listedFits [("unicode/utf8.acceptRanges", Rows.laid_unicode_utf8_acceptRanges), ("pub-fianchetto/pub/chess.promoPieceTypes", Rows.laid_pub_fianchetto_pub_chess_promoPieceTypes), ("pub-fianchetto/pub/chess.bbFiles", Rows.laid_pub_fianchetto_pub_chess_bbFiles), ("pub-fianchetto/pub/chess.bbRanks", Rows.laid_pub_fianchetto_pub_chess_bbRanks), ("pub-fianchetto/pub/chess.bbDiagonals", Rows.laid_pub_fianchetto_pub_chess_bbDiagonals), ("pub-fianchetto/pub/chess.bbAntiDiagonals", Rows.laid_pub_fianchetto_pub_chess_bbAntiDiagonals), ("pub-fianchetto/pub/chess.bbKnightMoves", Rows.laid_pub_fianchetto_pub_chess_bbKnightMoves), ("pub-fianchetto/pub/chess.bbKingMoves", Rows.laid_pub_fianchetto_pub_chess_bbKingMoves), ("pub-fianchetto/pub/chess.whitePiecesToFEN", Rows.laid_pub_fianchetto_pub_chess_whitePiecesToFEN), ("pub-fianchetto/pub/chess.blackPiecesToFEN", Rows.laid_pub_fianchetto_pub_chess_blackPiecesToFEN), ("pub-fianchetto/pub/chess.allPieces", Rows.laid_pub_fianchetto_pub_chess_allPieces), ("unicode.CaseRanges", Rows.laid_unicode_CaseRanges), ("unicode/utf8.first", Rows.laid_unicode_utf8_first)] = true := by
  unfold Program.listedFits
  rw [noOwnUnsafe]
  kernel_rfl
theorem tie2 : Tryz.prog.laidByTextLater [("unicode/utf8.acceptRanges", Rows.laid_unicode_utf8_acceptRanges), ("pub-fianchetto/pub/chess.promoPieceTypes", Rows.laid_pub_fianchetto_pub_chess_promoPieceTypes), ("pub-fianchetto/pub/chess.bbFiles", Rows.laid_pub_fianchetto_pub_chess_bbFiles), ("pub-fianchetto/pub/chess.bbRanks", Rows.laid_pub_fianchetto_pub_chess_bbRanks), ("pub-fianchetto/pub/chess.bbDiagonals", Rows.laid_pub_fianchetto_pub_chess_bbDiagonals), ("pub-fianchetto/pub/chess.bbAntiDiagonals", Rows.laid_pub_fianchetto_pub_chess_bbAntiDiagonals), ("pub-fianchetto/pub/chess.bbKnightMoves", Rows.laid_pub_fianchetto_pub_chess_bbKnightMoves), ("pub-fianchetto/pub/chess.bbKingMoves", Rows.laid_pub_fianchetto_pub_chess_bbKingMoves), ("pub-fianchetto/pub/chess.whitePiecesToFEN", Rows.laid_pub_fianchetto_pub_chess_whitePiecesToFEN), ("pub-fianchetto/pub/chess.blackPiecesToFEN", Rows.laid_pub_fianchetto_pub_chess_blackPiecesToFEN), ("pub-fianchetto/pub/chess.allPieces", Rows.laid_pub_fianchetto_pub_chess_allPieces)] [.data, .data, .data, .data, .data, .data, .data, .data, .data, .data, .data] true :=
  Program.laidByTextLater.sub seatTie2 ["unicode/utf8.acceptRanges", "pub-fianchetto/pub/chess.promoPieceTypes", "pub-fianchetto/pub/chess.bbFiles", "pub-fianchetto/pub/chess.bbRanks", "pub-fianchetto/pub/chess.bbDiagonals", "pub-fianchetto/pub/chess.bbAntiDiagonals", "pub-fianchetto/pub/chess.bbKnightMoves", "pub-fianchetto/pub/chess.bbKingMoves", "pub-fianchetto/pub/chess.whitePiecesToFEN", "pub-fianchetto/pub/chess.blackPiecesToFEN", "pub-fianchetto/pub/chess.allPieces"] (by kernel_rfl) (by kernel_rfl)
theorem fnMvWalk_row_tie : Rows.fnMvWalkRow.laidByTextAt .later Tryz.pinned [.data, .data, .data, .data, .data, .data, .data, .data, .data, .data, .data, .pinned, .pinned] true :=
  OpenClaim.laidByTextAt_pinned rfl rfl tie2 rfl rfl rfl rfl (fun y hy _e => by
    simp only [Rows.fnMvWalkRow, List.zip_cons_cons, List.zip_nil_right, List.mem_cons, List.mem_nil_iff, or_false] at hy
    rcases hy with rfl | rfl | rfl | rfl | rfl | rfl | rfl | rfl | rfl | rfl | rfl | rfl | rfl
    · cases _e
    · cases _e
    · cases _e
    · cases _e
    · cases _e
    · cases _e
    · cases _e
    · cases _e
    · cases _e
    · cases _e
    · cases _e
    · exact ⟨pin_laid_unicode_CaseRanges, by kernel_rfl⟩
    · exact ⟨pin_laid_unicode_utf8_first, by kernel_rfl⟩) fits2
theorem fnMvStatusUpto_row_tie : Rows.fnMvStatusUptoRow.laidByTextAt .later Tryz.pinned [.data, .data, .data, .data, .data, .data, .data, .data, .data, .pinned, .pinned] true :=
  OpenClaim.laidByTextAt_pinned rfl rfl tie rfl rfl rfl rfl (fun y hy _e => by
    simp only [Rows.fnMvStatusUptoRow, List.zip_cons_cons, List.zip_nil_right, List.mem_cons, List.mem_nil_iff, or_false] at hy
    rcases hy with rfl | rfl | rfl | rfl | rfl | rfl | rfl | rfl | rfl | rfl | rfl
    · cases _e
    · cases _e
    · cases _e
    · cases _e
    · cases _e
    · cases _e
    · cases _e
    · cases _e
    · cases _e
    · exact ⟨pin_laid_unicode_CaseRanges, by kernel_rfl⟩
    · exact ⟨pin_laid_unicode_utf8_first, by kernel_rfl⟩) fits1
theorem fnMvMirrorUpto_row_tie : Rows.fnMvMirrorUptoRow.laidByTextAt .later Tryz.pinned [.data, .data, .data, .data, .data, .data, .data, .data, .data, .pinned, .pinned] true :=
  OpenClaim.laidByTextAt_pinned rfl rfl tie rfl rfl rfl rfl (fun y hy _e => by
    simp only [Rows.fnMvMirrorUptoRow, List.zip_cons_cons, List.zip_nil_right, List.mem_cons, List.mem_nil_iff, or_false] at hy
    rcases hy with rfl | rfl | rfl | rfl | rfl | rfl | rfl | rfl | rfl | rfl | rfl
    · cases _e
    · cases _e
    · cases _e
    · cases _e
    · cases _e
    · cases _e
    · cases _e
    · cases _e
    · cases _e
    · exact ⟨pin_laid_unicode_CaseRanges, by kernel_rfl⟩
    · exact ⟨pin_laid_unicode_utf8_first, by kernel_rfl⟩) fits1
theorem fnMvAllTagsUpto_row_tie : Rows.fnMvAllTagsUptoRow.laidByTextAt .later Tryz.pinned [.data, .data, .data, .data, .data, .data, .data, .data, .data, .pinned, .pinned] true :=
  OpenClaim.laidByTextAt_pinned rfl rfl tie rfl rfl rfl rfl (fun y hy _e => by
    simp only [Rows.fnMvAllTagsUptoRow, List.zip_cons_cons, List.zip_nil_right, List.mem_cons, List.mem_nil_iff, or_false] at hy
    rcases hy with rfl | rfl | rfl | rfl | rfl | rfl | rfl | rfl | rfl | rfl | rfl
    · cases _e
    · cases _e
    · cases _e
    · cases _e
    · cases _e
    · cases _e
    · cases _e
    · cases _e
    · cases _e
    · exact ⟨pin_laid_unicode_CaseRanges, by kernel_rfl⟩
    · exact ⟨pin_laid_unicode_utf8_first, by kernel_rfl⟩) fits1
theorem fnSanSignUpto_row_tie : Rows.fnSanSignUptoRow.laidByTextAt .later Tryz.pinned [.data, .data, .data, .data, .data, .data, .data, .data, .data, .pinned, .pinned] true :=
  OpenClaim.laidByTextAt_pinned rfl rfl tie rfl rfl rfl rfl (fun y hy _e => by
    simp only [Rows.fnSanSignUptoRow, List.zip_cons_cons, List.zip_nil_right, List.mem_cons, List.mem_nil_iff, or_false] at hy
    rcases hy with rfl | rfl | rfl | rfl | rfl | rfl | rfl | rfl | rfl | rfl | rfl
    · cases _e
    · cases _e
    · cases _e
    · cases _e
    · cases _e
    · cases _e
    · cases _e
    · cases _e
    · cases _e
    · exact ⟨pin_laid_unicode_CaseRanges, by kernel_rfl⟩
    · exact ⟨pin_laid_unicode_utf8_first, by kernel_rfl⟩) fits1
theorem fnMvPlayUpto_row_tie : Rows.fnMvPlayUptoRow.laidByTextAt .later Tryz.pinned [.data, .data, .data, .data, .data, .data, .data, .data, .data, .pinned, .pinned] true :=
  OpenClaim.laidByTextAt_pinned rfl rfl tie rfl rfl rfl rfl (fun y hy _e => by
    simp only [Rows.fnMvPlayUptoRow, List.zip_cons_cons, List.zip_nil_right, List.mem_cons, List.mem_nil_iff, or_false] at hy
    rcases hy with rfl | rfl | rfl | rfl | rfl | rfl | rfl | rfl | rfl | rfl | rfl
    · cases _e
    · cases _e
    · cases _e
    · cases _e
    · cases _e
    · cases _e
    · cases _e
    · cases _e
    · cases _e
    · exact ⟨pin_laid_unicode_CaseRanges, by kernel_rfl⟩
    · exact ⟨pin_laid_unicode_utf8_first, by kernel_rfl⟩) fits1
theorem fnMvWalkUpto_row_tie : Rows.fnMvWalkUptoRow.laidByTextAt .later Tryz.pinned [.data, .data, .data, .data, .data, .data, .data, .data, .data, .data, .data, .pinned, .pinned] true :=
  OpenClaim.laidByTextAt_pinned rfl rfl tie2 rfl rfl rfl rfl (fun y hy _e => by
    simp only [Rows.fnMvWalkUptoRow, List.zip_cons_cons, List.zip_nil_right, List.mem_cons, List.mem_nil_iff, or_false] at hy
    rcases hy with rfl | rfl | rfl | rfl | rfl | rfl | rfl | rfl | rfl | rfl | rfl | rfl | rfl
    · cases _e
    · cases _e
    · cases _e
    · cases _e
    · cases _e
    · cases _e
    · cases _e
    · cases _e
    · cases _e
    · cases _e
    · cases _e
    · exact ⟨pin_laid_unicode_CaseRanges, by kernel_rfl⟩
    · exact ⟨pin_laid_unicode_utf8_first, by kernel_rfl⟩) fits2
end Go.Proofs.YtnjdgooljnbebaaGreatDoor
