/-
  DERIVED. GIVEN WITH THE SEED: THE PROGRAM's TIES (one call each: nine closed facts by the kernel) AND EACH ROW's TIE, after the 31st guide's Derived/Test/Toyas{Tie, Card}.lean. No idea stands in it: it is a product of the set-up. Laid BY PROGRAM, IN A SANDBOX (cutbox-door.mjs). By AI agents, Wed Nov 11 2026. No macro, syntax, notation, axiom, sorry.
-/
import Derived.Test.YtkkdblifgekmkaaDoorRows
import Derived.LaidByTextLater
import Derived.SevenTiedAt
import Derived.LaidSub
import Derived.LaidOnce
namespace Go.Proofs.YtkkdblifgekmkaaDoor
open Go
set_option maxRecDepth 100000
theorem seatTie1 : Tryd.prog.laidByTextLater [("unicode/utf8.acceptRanges", Rows.laid_unicode_utf8_acceptRanges), ("io.ErrShortWrite", Rows.laid_io_ErrShortWrite), ("io.ErrShortBuffer", Rows.laid_io_ErrShortBuffer), ("io.EOF", Rows.laid_io_EOF), ("io.ErrUnexpectedEOF", Rows.laid_io_ErrUnexpectedEOF), ("io.errWhence", Rows.laid_io_errWhence), ("io.errOffset", Rows.laid_io_errOffset), ("loop.example/pub-ziparchives/pub/gozip.ErrFormat", Rows.laid_loop_example_pub_ziparchives_pub_gozip_ErrFormat), ("loop.example/pub-ziparchives/pub/gozip.ErrAlgorithm", Rows.laid_loop_example_pub_ziparchives_pub_gozip_ErrAlgorithm), ("loop.example/pub-ziparchives/pub/gozip.ErrInsecurePath", Rows.laid_loop_example_pub_ziparchives_pub_gozip_ErrInsecurePath), ("loop.example/pub-ziparchives/pub/gozip.errLongName", Rows.laid_loop_example_pub_ziparchives_pub_gozip_errLongName), ("loop.example/pub-ziparchives/pub/gozip.errLongExtra", Rows.laid_loop_example_pub_ziparchives_pub_gozip_errLongExtra)] [.data, .sentinel, .sentinel, .sentinel, .sentinel, .sentinel, .sentinel, .sentinel, .sentinel, .sentinel, .sentinel, .sentinel] true :=
  Program.laidByTextLater_by_one 247 8 33 (by kernel_rfl) (by kernel_rfl) (by kernel_rfl) (by kernel_rfl) (by kernel_rfl) (by kernel_rfl) (fun _ _ => by kernel_rfl)
theorem pin_laid_unicode_utf8_first : Tryd.pinned.checked.prog.pinnedFits "unicode/utf8.first" = true := by kernel_rfl
theorem noOwnUnsafe : Tryd.pinned.checked.prog.headLifts.contains "ownunsafe" = false := by kernel_rfl
theorem fits1 : Tryd.pinned.checked.prog.listedFits [("unicode/utf8.acceptRanges", Rows.laid_unicode_utf8_acceptRanges), ("io.ErrShortBuffer", Rows.laid_io_ErrShortBuffer), ("io.EOF", Rows.laid_io_EOF), ("io.ErrUnexpectedEOF", Rows.laid_io_ErrUnexpectedEOF), ("io.errWhence", Rows.laid_io_errWhence), ("io.errOffset", Rows.laid_io_errOffset), ("loop.example/pub-ziparchives/pub/gozip.ErrFormat", Rows.laid_loop_example_pub_ziparchives_pub_gozip_ErrFormat), ("loop.example/pub-ziparchives/pub/gozip.ErrInsecurePath", Rows.laid_loop_example_pub_ziparchives_pub_gozip_ErrInsecurePath), ("unicode/utf8.first", Rows.laid_unicode_utf8_first)] = true := by
  unfold Program.listedFits
  rw [noOwnUnsafe]
  kernel_rfl
theorem tie : Tryd.prog.laidByTextLater [("unicode/utf8.acceptRanges", Rows.laid_unicode_utf8_acceptRanges), ("io.ErrShortBuffer", Rows.laid_io_ErrShortBuffer), ("io.EOF", Rows.laid_io_EOF), ("io.ErrUnexpectedEOF", Rows.laid_io_ErrUnexpectedEOF), ("io.errWhence", Rows.laid_io_errWhence), ("io.errOffset", Rows.laid_io_errOffset), ("loop.example/pub-ziparchives/pub/gozip.ErrFormat", Rows.laid_loop_example_pub_ziparchives_pub_gozip_ErrFormat), ("loop.example/pub-ziparchives/pub/gozip.ErrInsecurePath", Rows.laid_loop_example_pub_ziparchives_pub_gozip_ErrInsecurePath)] [.data, .sentinel, .sentinel, .sentinel, .sentinel, .sentinel, .sentinel, .sentinel] true :=
  Program.laidByTextLater.sub seatTie1 ["unicode/utf8.acceptRanges", "io.ErrShortBuffer", "io.EOF", "io.ErrUnexpectedEOF", "io.errWhence", "io.errOffset", "loop.example/pub-ziparchives/pub/gozip.ErrFormat", "loop.example/pub-ziparchives/pub/gozip.ErrInsecurePath"] (by kernel_rfl) (by kernel_rfl)
theorem fnEmpty_row_tie : Rows.fnEmptyRow.laidByTextAt .later Tryd.pinned [.data, .sentinel, .sentinel, .sentinel, .sentinel, .sentinel, .sentinel, .sentinel, .pinned] true :=
  OpenClaim.laidByTextAt_pinned rfl rfl tie rfl rfl rfl rfl (fun y hy _e => by
    simp only [Rows.fnEmptyRow, List.zip_cons_cons, List.zip_nil_right, List.mem_cons, List.mem_nil_iff, or_false] at hy
    rcases hy with rfl | rfl | rfl | rfl | rfl | rfl | rfl | rfl | rfl
    · cases _e
    · cases _e
    · cases _e
    · cases _e
    · cases _e
    · cases _e
    · cases _e
    · cases _e
    · exact ⟨pin_laid_unicode_utf8_first, by kernel_rfl⟩) fits1
theorem fits2 : Tryd.pinned.checked.prog.listedFits [("unicode/utf8.acceptRanges", Rows.laid_unicode_utf8_acceptRanges), ("io.ErrShortWrite", Rows.laid_io_ErrShortWrite), ("loop.example/pub-ziparchives/pub/gozip.ErrAlgorithm", Rows.laid_loop_example_pub_ziparchives_pub_gozip_ErrAlgorithm), ("loop.example/pub-ziparchives/pub/gozip.errLongName", Rows.laid_loop_example_pub_ziparchives_pub_gozip_errLongName), ("loop.example/pub-ziparchives/pub/gozip.errLongExtra", Rows.laid_loop_example_pub_ziparchives_pub_gozip_errLongExtra), ("unicode/utf8.first", Rows.laid_unicode_utf8_first)] = true := by
  unfold Program.listedFits
  rw [noOwnUnsafe]
  kernel_rfl
theorem tie2 : Tryd.prog.laidByTextLater [("unicode/utf8.acceptRanges", Rows.laid_unicode_utf8_acceptRanges), ("io.ErrShortWrite", Rows.laid_io_ErrShortWrite), ("loop.example/pub-ziparchives/pub/gozip.ErrAlgorithm", Rows.laid_loop_example_pub_ziparchives_pub_gozip_ErrAlgorithm), ("loop.example/pub-ziparchives/pub/gozip.errLongName", Rows.laid_loop_example_pub_ziparchives_pub_gozip_errLongName), ("loop.example/pub-ziparchives/pub/gozip.errLongExtra", Rows.laid_loop_example_pub_ziparchives_pub_gozip_errLongExtra)] [.data, .sentinel, .sentinel, .sentinel, .sentinel] true :=
  Program.laidByTextLater.sub seatTie1 ["unicode/utf8.acceptRanges", "io.ErrShortWrite", "loop.example/pub-ziparchives/pub/gozip.ErrAlgorithm", "loop.example/pub-ziparchives/pub/gozip.errLongName", "loop.example/pub-ziparchives/pub/gozip.errLongExtra"] (by kernel_rfl) (by kernel_rfl)
theorem fnWriteComment_row_tie : Rows.fnWriteCommentRow.laidByTextAt .later Tryd.pinned [.data, .sentinel, .sentinel, .sentinel, .sentinel, .pinned] true :=
  OpenClaim.laidByTextAt_pinned rfl rfl tie2 rfl rfl rfl rfl (fun y hy _e => by
    simp only [Rows.fnWriteCommentRow, List.zip_cons_cons, List.zip_nil_right, List.mem_cons, List.mem_nil_iff, or_false] at hy
    rcases hy with rfl | rfl | rfl | rfl | rfl | rfl
    · cases _e
    · cases _e
    · cases _e
    · cases _e
    · cases _e
    · exact ⟨pin_laid_unicode_utf8_first, by kernel_rfl⟩) fits2
theorem fnWriteDirectory_row_tie : Rows.fnWriteDirectoryRow.laidByTextAt .later Tryd.pinned [.data, .sentinel, .sentinel, .sentinel, .sentinel, .pinned] true :=
  OpenClaim.laidByTextAt_pinned rfl rfl tie2 rfl rfl rfl rfl (fun y hy _e => by
    simp only [Rows.fnWriteDirectoryRow, List.zip_cons_cons, List.zip_nil_right, List.mem_cons, List.mem_nil_iff, or_false] at hy
    rcases hy with rfl | rfl | rfl | rfl | rfl | rfl
    · cases _e
    · cases _e
    · cases _e
    · cases _e
    · cases _e
    · exact ⟨pin_laid_unicode_utf8_first, by kernel_rfl⟩) fits2
theorem fnWriteScan_row_tie : Rows.fnWriteScanRow.laidByTextAt .later Tryd.pinned [.data, .sentinel, .sentinel, .sentinel, .sentinel, .pinned] true :=
  OpenClaim.laidByTextAt_pinned rfl rfl tie2 rfl rfl rfl rfl (fun y hy _e => by
    simp only [Rows.fnWriteScanRow, List.zip_cons_cons, List.zip_nil_right, List.mem_cons, List.mem_nil_iff, or_false] at hy
    rcases hy with rfl | rfl | rfl | rfl | rfl | rfl
    · cases _e
    · cases _e
    · cases _e
    · cases _e
    · cases _e
    · exact ⟨pin_laid_unicode_utf8_first, by kernel_rfl⟩) fits2
theorem fnEmptyUpto_row_tie : Rows.fnEmptyUptoRow.laidByTextAt .later Tryd.pinned [.data, .sentinel, .sentinel, .sentinel, .sentinel, .sentinel, .sentinel, .sentinel, .pinned] true :=
  OpenClaim.laidByTextAt_pinned rfl rfl tie rfl rfl rfl rfl (fun y hy _e => by
    simp only [Rows.fnEmptyUptoRow, List.zip_cons_cons, List.zip_nil_right, List.mem_cons, List.mem_nil_iff, or_false] at hy
    rcases hy with rfl | rfl | rfl | rfl | rfl | rfl | rfl | rfl | rfl
    · cases _e
    · cases _e
    · cases _e
    · cases _e
    · cases _e
    · cases _e
    · cases _e
    · cases _e
    · exact ⟨pin_laid_unicode_utf8_first, by kernel_rfl⟩) fits1
theorem fnWriteCommentUpto_row_tie : Rows.fnWriteCommentUptoRow.laidByTextAt .later Tryd.pinned [.data, .sentinel, .sentinel, .sentinel, .sentinel, .pinned] true :=
  OpenClaim.laidByTextAt_pinned rfl rfl tie2 rfl rfl rfl rfl (fun y hy _e => by
    simp only [Rows.fnWriteCommentUptoRow, List.zip_cons_cons, List.zip_nil_right, List.mem_cons, List.mem_nil_iff, or_false] at hy
    rcases hy with rfl | rfl | rfl | rfl | rfl | rfl
    · cases _e
    · cases _e
    · cases _e
    · cases _e
    · cases _e
    · exact ⟨pin_laid_unicode_utf8_first, by kernel_rfl⟩) fits2
theorem fnWriteDirectoryUpto_row_tie : Rows.fnWriteDirectoryUptoRow.laidByTextAt .later Tryd.pinned [.data, .sentinel, .sentinel, .sentinel, .sentinel, .pinned] true :=
  OpenClaim.laidByTextAt_pinned rfl rfl tie2 rfl rfl rfl rfl (fun y hy _e => by
    simp only [Rows.fnWriteDirectoryUptoRow, List.zip_cons_cons, List.zip_nil_right, List.mem_cons, List.mem_nil_iff, or_false] at hy
    rcases hy with rfl | rfl | rfl | rfl | rfl | rfl
    · cases _e
    · cases _e
    · cases _e
    · cases _e
    · cases _e
    · exact ⟨pin_laid_unicode_utf8_first, by kernel_rfl⟩) fits2
theorem fnWriteScanUpto_row_tie : Rows.fnWriteScanUptoRow.laidByTextAt .later Tryd.pinned [.data, .sentinel, .sentinel, .sentinel, .sentinel, .pinned] true :=
  OpenClaim.laidByTextAt_pinned rfl rfl tie2 rfl rfl rfl rfl (fun y hy _e => by
    simp only [Rows.fnWriteScanUptoRow, List.zip_cons_cons, List.zip_nil_right, List.mem_cons, List.mem_nil_iff, or_false] at hy
    rcases hy with rfl | rfl | rfl | rfl | rfl | rfl
    · cases _e
    · cases _e
    · cases _e
    · cases _e
    · cases _e
    · exact ⟨pin_laid_unicode_utf8_first, by kernel_rfl⟩) fits2
end Go.Proofs.YtkkdblifgekmkaaDoor
