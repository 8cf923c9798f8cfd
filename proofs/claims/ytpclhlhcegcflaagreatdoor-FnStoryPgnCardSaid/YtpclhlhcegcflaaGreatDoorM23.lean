/- One part of the proof: Tie10. -/
import Derived.Test.YtpclhlhcegcflaaGreatDoorRows
import Derived.LaidByTextLater
import Derived.LaidOnce
import Derived.SevenTiedAt
import Derived.Test.YtpclhlhcegcflaaGreatDoorM3
namespace Go.Proofs.YtpclhlhcegcflaaGreatDoor
set_option maxRecDepth 100000
set_option linter.unusedSimpArgs false
set_option linter.unusedVariables false
section
open Go
noncomputable abbrev LL:List (String×DataW Unit):=[("strings.asciiSpace",Rows.laid_strings_asciiSpace),("unicode/utf8.acceptRanges",Rows.laid_unicode_utf8_acceptRanges),("unicode.White_Space",Rows.laid_unicode_White_Space),("pub-tabiya/pub/chess.fenCharToPiece",Rows.laid_pub_tabiya_pub_chess_fenCharToPiece),("pub-tabiya/pub/chess.allPieces",Rows.laid_pub_tabiya_pub_chess_allPieces),("strconv.ErrSyntax",Rows.laid_strconv_ErrSyntax),("strconv.ErrRange",Rows.laid_strconv_ErrRange),("internal/strconv.uint64pow10",Rows.laid_internal_strconv_uint64pow10),("math/bits.deBruijn32tab",Rows.laid_math_bits_deBruijn32tab),("math/bits.deBruijn64tab",Rows.laid_math_bits_deBruijn64tab),("pub-tabiya/pub/chess.bbKnightMoves",Rows.laid_pub_tabiya_pub_chess_bbKnightMoves),("pub-tabiya/pub/chess.bbKingMoves",Rows.laid_pub_tabiya_pub_chess_bbKingMoves),("pub-tabiya/pub/chess.bbDiagonals",Rows.laid_pub_tabiya_pub_chess_bbDiagonals),("pub-tabiya/pub/chess.bbAntiDiagonals",Rows.laid_pub_tabiya_pub_chess_bbAntiDiagonals),("pub-tabiya/pub/chess.bbRanks",Rows.laid_pub_tabiya_pub_chess_bbRanks),("pub-tabiya/pub/chess.bbFiles",Rows.laid_pub_tabiya_pub_chess_bbFiles),("pub-tabiya/pub/chess.promoPieceTypes",Rows.laid_pub_tabiya_pub_chess_promoPieceTypes),("pub-tabiya/pub/chess.whitePiecesToFEN",Rows.laid_pub_tabiya_pub_chess_whitePiecesToFEN),("pub-tabiya/pub/chess.blackPiecesToFEN",Rows.laid_pub_tabiya_pub_chess_blackPiecesToFEN)]
abbrev KK:List LaidKind:=[.data,.data,.listed,.data,.data,.sentinel,.sentinel,.data,.data,.data,.data,.data,.data,.data,.data,.data,.data,.data,.data]
theorem a1:Tryz.prog.worded (varsWordLater true)=true:=by kernel_rfl
theorem a2:Tryz.prog.worded (varsWordLater !true)=false:=by kernel_rfl
theorem a3:Tryz.prog.worded rootWordLater=true:=by kernel_rfl
theorem a4:LL.map (fun x=>Tryz.prog.kindOfLater x.1)=KK.map some:=by kernel_rfl
theorem a5:(Tryz.prog.funcNamed "gosem.cut.vars").isSome=true:=by kernel_rfl
theorem a6:varsNamedLaterB Tryz.prog (varsId Tryz.prog) LL=true:=by kernel_rfl
theorem a7:∀ os tape,doorLeaves Tryz.prog 400 8 300 LL os tape=some (LL.filter fun x=>x.2.handleName?.isNone,(funcsListed LL).map (·.2.funcsOut)):=fun _ _=>by kernel_rfl
theorem tie:Tryz.prog.laidByTextLater LL KK true:=Program.laidByTextLater_by_one 400 8 300 a1 a2 a3 a4 a5 a6 a7
theorem a1n:Tryz.pinned.checked.prog.pinnedFits "unicode/utf8.first" = true:=by kernel_rfl
theorem a1o:Tryz.pinned.checked.prog.pinnedFits "unicode.CaseRanges" = true:=by kernel_rfl
theorem b3b:Tryz.pinned.checked.prog.headLifts.contains "ownunsafe" = false:=by kernel_rfl
theorem c5o:Tryz.pinned.checked.prog.listedFits [("strings.asciiSpace",Rows.laid_strings_asciiSpace),("unicode/utf8.first",Rows.laid_unicode_utf8_first),("unicode/utf8.acceptRanges",Rows.laid_unicode_utf8_acceptRanges),("unicode.White_Space",Rows.laid_unicode_White_Space),("pub-tabiya/pub/chess.fenCharToPiece",Rows.laid_pub_tabiya_pub_chess_fenCharToPiece),("pub-tabiya/pub/chess.allPieces",Rows.laid_pub_tabiya_pub_chess_allPieces),("strconv.ErrSyntax",Rows.laid_strconv_ErrSyntax),("strconv.ErrRange",Rows.laid_strconv_ErrRange),("internal/strconv.uint64pow10",Rows.laid_internal_strconv_uint64pow10),("math/bits.deBruijn32tab",Rows.laid_math_bits_deBruijn32tab),("math/bits.deBruijn64tab",Rows.laid_math_bits_deBruijn64tab),("pub-tabiya/pub/chess.bbKnightMoves",Rows.laid_pub_tabiya_pub_chess_bbKnightMoves),("pub-tabiya/pub/chess.bbKingMoves",Rows.laid_pub_tabiya_pub_chess_bbKingMoves),("pub-tabiya/pub/chess.bbDiagonals",Rows.laid_pub_tabiya_pub_chess_bbDiagonals),("pub-tabiya/pub/chess.bbAntiDiagonals",Rows.laid_pub_tabiya_pub_chess_bbAntiDiagonals),("pub-tabiya/pub/chess.bbRanks",Rows.laid_pub_tabiya_pub_chess_bbRanks),("pub-tabiya/pub/chess.bbFiles",Rows.laid_pub_tabiya_pub_chess_bbFiles),("pub-tabiya/pub/chess.promoPieceTypes",Rows.laid_pub_tabiya_pub_chess_promoPieceTypes),("unicode.CaseRanges",Rows.laid_unicode_CaseRanges),("pub-tabiya/pub/chess.whitePiecesToFEN",Rows.laid_pub_tabiya_pub_chess_whitePiecesToFEN),("pub-tabiya/pub/chess.blackPiecesToFEN",Rows.laid_pub_tabiya_pub_chess_blackPiecesToFEN)]=true:=by
 unfold Program.listedFits;rw [b3b];kernel_rfl
theorem a5h:Rows.fnStoryPgnRow.laidByTextAt .later Tryz.pinned [.data,.pinned,.data,.listed,.data,.data,.sentinel,.sentinel,.data,.data,.data,.data,.data,.data,.data,.data,.data,.data,.pinned,.data,.data] true :=
 OpenClaim.laidByTextAt_pinned rfl rfl tie rfl rfl rfl rfl (fun y hy _e=>by
  simp only [Rows.fnStoryPgnRow,List.zip_cons_cons,List.zip_nil_right,yS,List.mem_nil_iff,yy] at hy;rcases hy with rfl|rfl|rfl|rfl|rfl|rfl|rfl|rfl|rfl|rfl|rfl|rfl|rfl|rfl|rfl|rfl|rfl|rfl|rfl|rfl|rfl
  ·cases _e
  ·exact ⟨a1n,by kernel_rfl⟩
  ·cases _e
  ·cases _e
  ·cases _e
  ·cases _e
  ·cases _e
  ·cases _e
  ·cases _e
  ·cases _e
  ·cases _e
  ·cases _e
  ·cases _e
  ·cases _e
  ·cases _e
  ·cases _e
  ·cases _e
  ·cases _e
  ·exact ⟨a1o,by kernel_rfl⟩
  ·cases _e
  ·cases _e) c5o
end
