/-
  DERIVED. GIVEN WITH THE SEED: THE PROGRAM's TIES (one call each: nine closed facts by the kernel) AND EACH ROW's TIE, after the 31st guide's Derived/Test/Toyas{Tie, Card}.lean. No idea stands in it: it is a product of the set-up. Laid BY PROGRAM, IN A SANDBOX (cutbox-door.mjs). By AI agents, Wed Nov 11 2026. No macro, syntax, notation, axiom, sorry.
-/
import Derived.Test.YtigjokkakcmmdaaGreatDoorRows
import Derived.LaidByTextLater
import Derived.SevenTiedAt
import Derived.LaidSub
import Derived.LaidOnce
namespace Go.Proofs.YtigjokkakcmmdaaGreatDoor
open Go
set_option maxRecDepth 100000
theorem seatTie1 : Tryz.prog.laidByTextLater [("unicode/utf8.acceptRanges", Rows.laid_unicode_utf8_acceptRanges), ("pub-tabiya/pub/chess.promoPieceTypes", Rows.laid_pub_tabiya_pub_chess_promoPieceTypes), ("pub-tabiya/pub/chess.bbFiles", Rows.laid_pub_tabiya_pub_chess_bbFiles), ("pub-tabiya/pub/chess.bbRanks", Rows.laid_pub_tabiya_pub_chess_bbRanks), ("pub-tabiya/pub/chess.bbDiagonals", Rows.laid_pub_tabiya_pub_chess_bbDiagonals), ("pub-tabiya/pub/chess.bbAntiDiagonals", Rows.laid_pub_tabiya_pub_chess_bbAntiDiagonals), ("pub-tabiya/pub/chess.bbKnightMoves", Rows.laid_pub_tabiya_pub_chess_bbKnightMoves), ("pub-tabiya/pub/chess.bbKingMoves", Rows.laid_pub_tabiya_pub_chess_bbKingMoves), ("pub-tabiya/pub/chess.allPieces", Rows.laid_pub_tabiya_pub_chess_allPieces)] [.data, .data, .data, .data, .data, .data, .data, .data, .data] true :=
  Program.laidByTextLater_by_one 59 8 65 (by kernel_rfl) (by kernel_rfl) (by kernel_rfl) (by kernel_rfl) (by kernel_rfl) (by kernel_rfl) (fun _ _ => by kernel_rfl)
theorem pin_laid_unicode_CaseRanges : Tryz.pinned.checked.prog.pinnedFits "unicode.CaseRanges" = true := by kernel_rfl
theorem pin_laid_unicode_utf8_first : Tryz.pinned.checked.prog.pinnedFits "unicode/utf8.first" = true := by kernel_rfl
theorem noOwnUnsafe : Tryz.pinned.checked.prog.headLifts.contains "ownunsafe" = false := by kernel_rfl
theorem fits1 : Tryz.pinned.checked.prog.listedFits [("unicode/utf8.acceptRanges", Rows.laid_unicode_utf8_acceptRanges), ("pub-tabiya/pub/chess.promoPieceTypes", Rows.laid_pub_tabiya_pub_chess_promoPieceTypes), ("pub-tabiya/pub/chess.bbFiles", Rows.laid_pub_tabiya_pub_chess_bbFiles), ("pub-tabiya/pub/chess.bbRanks", Rows.laid_pub_tabiya_pub_chess_bbRanks), ("pub-tabiya/pub/chess.bbDiagonals", Rows.laid_pub_tabiya_pub_chess_bbDiagonals), ("pub-tabiya/pub/chess.bbAntiDiagonals", Rows.laid_pub_tabiya_pub_chess_bbAntiDiagonals), ("pub-tabiya/pub/chess.bbKnightMoves", Rows.laid_pub_tabiya_pub_chess_bbKnightMoves), ("pub-tabiya/pub/chess.bbKingMoves", Rows.laid_pub_tabiya_pub_chess_bbKingMoves), ("pub-tabiya/pub/chess.allPieces", Rows.laid_pub_tabiya_pub_chess_allPieces), ("unicode.CaseRanges", Rows.laid_unicode_CaseRanges), ("unicode/utf8.first", Rows.laid_unicode_utf8_first)] = true := by
  unfold Program.listedFits
  rw [noOwnUnsafe]
  kernel_rfl
theorem tie : Tryz.prog.laidByTextLater [("unicode/utf8.acceptRanges", Rows.laid_unicode_utf8_acceptRanges), ("pub-tabiya/pub/chess.promoPieceTypes", Rows.laid_pub_tabiya_pub_chess_promoPieceTypes), ("pub-tabiya/pub/chess.bbFiles", Rows.laid_pub_tabiya_pub_chess_bbFiles), ("pub-tabiya/pub/chess.bbRanks", Rows.laid_pub_tabiya_pub_chess_bbRanks), ("pub-tabiya/pub/chess.bbDiagonals", Rows.laid_pub_tabiya_pub_chess_bbDiagonals), ("pub-tabiya/pub/chess.bbAntiDiagonals", Rows.laid_pub_tabiya_pub_chess_bbAntiDiagonals), ("pub-tabiya/pub/chess.bbKnightMoves", Rows.laid_pub_tabiya_pub_chess_bbKnightMoves), ("pub-tabiya/pub/chess.bbKingMoves", Rows.laid_pub_tabiya_pub_chess_bbKingMoves), ("pub-tabiya/pub/chess.allPieces", Rows.laid_pub_tabiya_pub_chess_allPieces)] [.data, .data, .data, .data, .data, .data, .data, .data, .data] true :=
  Program.laidByTextLater.sub seatTie1 ["unicode/utf8.acceptRanges", "pub-tabiya/pub/chess.promoPieceTypes", "pub-tabiya/pub/chess.bbFiles", "pub-tabiya/pub/chess.bbRanks", "pub-tabiya/pub/chess.bbDiagonals", "pub-tabiya/pub/chess.bbAntiDiagonals", "pub-tabiya/pub/chess.bbKnightMoves", "pub-tabiya/pub/chess.bbKingMoves", "pub-tabiya/pub/chess.allPieces"] (by kernel_rfl) (by kernel_rfl)
theorem fnPfCount_row_tie : Rows.fnPfCountRow.laidByTextAt .later Tryz.pinned [.data, .data, .data, .data, .data, .data, .data, .data, .data, .pinned, .pinned] true :=
  OpenClaim.laidByTextAt_pinned rfl rfl tie rfl rfl rfl rfl (fun y hy _e => by
    simp only [Rows.fnPfCountRow, List.zip_cons_cons, List.zip_nil_right, List.mem_cons, List.mem_nil_iff, or_false] at hy
    rcases hy with rfl | rfl | rfl | rfl | rfl | rfl | rfl | rfl | rfl | rfl | rfl
    · cases _e
    · cases _e
    · cases _e
    · cases _e
    · cases _e
    · cases _e
    · cases _e
    · cases _e
    · cases _e
    · exact ⟨pin_laid_unicode_CaseRanges, by kernel_rfl⟩
    · exact ⟨pin_laid_unicode_utf8_first, by kernel_rfl⟩) fits1
theorem fnPfTags_row_tie : Rows.fnPfTagsRow.laidByTextAt .later Tryz.pinned [.data, .data, .data, .data, .data, .data, .data, .data, .data, .pinned, .pinned] true :=
  OpenClaim.laidByTextAt_pinned rfl rfl tie rfl rfl rfl rfl (fun y hy _e => by
    simp only [Rows.fnPfTagsRow, List.zip_cons_cons, List.zip_nil_right, List.mem_cons, List.mem_nil_iff, or_false] at hy
    rcases hy with rfl | rfl | rfl | rfl | rfl | rfl | rfl | rfl | rfl | rfl | rfl
    · cases _e
    · cases _e
    · cases _e
    · cases _e
    · cases _e
    · cases _e
    · cases _e
    · cases _e
    · cases _e
    · exact ⟨pin_laid_unicode_CaseRanges, by kernel_rfl⟩
    · exact ⟨pin_laid_unicode_utf8_first, by kernel_rfl⟩) fits1
theorem fnPfDivide_row_tie : Rows.fnPfDivideRow.laidByTextAt .later Tryz.pinned [.data, .data, .data, .data, .data, .data, .data, .data, .data, .pinned, .pinned] true :=
  OpenClaim.laidByTextAt_pinned rfl rfl tie rfl rfl rfl rfl (fun y hy _e => by
    simp only [Rows.fnPfDivideRow, List.zip_cons_cons, List.zip_nil_right, List.mem_cons, List.mem_nil_iff, or_false] at hy
    rcases hy with rfl | rfl | rfl | rfl | rfl | rfl | rfl | rfl | rfl | rfl | rfl
    · cases _e
    · cases _e
    · cases _e
    · cases _e
    · cases _e
    · cases _e
    · cases _e
    · cases _e
    · cases _e
    · exact ⟨pin_laid_unicode_CaseRanges, by kernel_rfl⟩
    · exact ⟨pin_laid_unicode_utf8_first, by kernel_rfl⟩) fits1
theorem fnPfMirror_row_tie : Rows.fnPfMirrorRow.laidByTextAt .later Tryz.pinned [.data, .data, .data, .data, .data, .data, .data, .data, .data, .pinned, .pinned] true :=
  OpenClaim.laidByTextAt_pinned rfl rfl tie rfl rfl rfl rfl (fun y hy _e => by
    simp only [Rows.fnPfMirrorRow, List.zip_cons_cons, List.zip_nil_right, List.mem_cons, List.mem_nil_iff, or_false] at hy
    rcases hy with rfl | rfl | rfl | rfl | rfl | rfl | rfl | rfl | rfl | rfl | rfl
    · cases _e
    · cases _e
    · cases _e
    · cases _e
    · cases _e
    · cases _e
    · cases _e
    · cases _e
    · cases _e
    · exact ⟨pin_laid_unicode_CaseRanges, by kernel_rfl⟩
    · exact ⟨pin_laid_unicode_utf8_first, by kernel_rfl⟩) fits1
theorem fnPfCountUpto_row_tie : Rows.fnPfCountUptoRow.laidByTextAt .later Tryz.pinned [.data, .data, .data, .data, .data, .data, .data, .data, .data, .pinned, .pinned] true :=
  OpenClaim.laidByTextAt_pinned rfl rfl tie rfl rfl rfl rfl (fun y hy _e => by
    simp only [Rows.fnPfCountUptoRow, List.zip_cons_cons, List.zip_nil_right, List.mem_cons, List.mem_nil_iff, or_false] at hy
    rcases hy with rfl | rfl | rfl | rfl | rfl | rfl | rfl | rfl | rfl | rfl | rfl
    · cases _e
    · cases _e
    · cases _e
    · cases _e
    · cases _e
    · cases _e
    · cases _e
    · cases _e
    · cases _e
    · exact ⟨pin_laid_unicode_CaseRanges, by kernel_rfl⟩
    · exact ⟨pin_laid_unicode_utf8_first, by kernel_rfl⟩) fits1
theorem fnPfTagsUpto_row_tie : Rows.fnPfTagsUptoRow.laidByTextAt .later Tryz.pinned [.data, .data, .data, .data, .data, .data, .data, .data, .data, .pinned, .pinned] true :=
  OpenClaim.laidByTextAt_pinned rfl rfl tie rfl rfl rfl rfl (fun y hy _e => by
    simp only [Rows.fnPfTagsUptoRow, List.zip_cons_cons, List.zip_nil_right, List.mem_cons, List.mem_nil_iff, or_false] at hy
    rcases hy with rfl | rfl | rfl | rfl | rfl | rfl | rfl | rfl | rfl | rfl | rfl
    · cases _e
    · cases _e
    · cases _e
    · cases _e
    · cases _e
    · cases _e
    · cases _e
    · cases _e
    · cases _e
    · exact ⟨pin_laid_unicode_CaseRanges, by kernel_rfl⟩
    · exact ⟨pin_laid_unicode_utf8_first, by kernel_rfl⟩) fits1
theorem fnPfDivideUpto_row_tie : Rows.fnPfDivideUptoRow.laidByTextAt .later Tryz.pinned [.data, .data, .data, .data, .data, .data, .data, .data, .data, .pinned, .pinned] true :=
  OpenClaim.laidByTextAt_pinned rfl rfl tie rfl rfl rfl rfl (fun y hy _e => by
    simp only [Rows.fnPfDivideUptoRow, List.zip_cons_cons, List.zip_nil_right, List.mem_cons, List.mem_nil_iff, or_false] at hy
    rcases hy with rfl | rfl | rfl | rfl | rfl | rfl | rfl | rfl | rfl | rfl | rfl
    · cases _e
    · cases _e
    · cases _e
    · cases _e
    · cases _e
    · cases _e
    · cases _e
    · cases _e
    · cases _e
    · exact ⟨pin_laid_unicode_CaseRanges, by kernel_rfl⟩
    · exact ⟨pin_laid_unicode_utf8_first, by kernel_rfl⟩) fits1
theorem fnPfMirrorUpto_row_tie : Rows.fnPfMirrorUptoRow.laidByTextAt .later Tryz.pinned [.data, .data, .data, .data, .data, .data, .data, .data, .data, .pinned, .pinned] true :=
  OpenClaim.laidByTextAt_pinned rfl rfl tie rfl rfl rfl rfl (fun y hy _e => by
    simp only [Rows.fnPfMirrorUptoRow, List.zip_cons_cons, List.zip_nil_right, List.mem_cons, List.mem_nil_iff, or_false] at hy
    rcases hy with rfl | rfl | rfl | rfl | rfl | rfl | rfl | rfl | rfl | rfl | rfl
    · cases _e
    · cases _e
    · cases _e
    · cases _e
    · cases _e
    · cases _e
    · cases _e
    · cases _e
    · cases _e
    · exact ⟨pin_laid_unicode_CaseRanges, by kernel_rfl⟩
    · exact ⟨pin_laid_unicode_utf8_first, by kernel_rfl⟩) fits1
end Go.Proofs.YtigjokkakcmmdaaGreatDoor
