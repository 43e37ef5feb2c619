/-
  DERIVED. GIVEN WITH THE SEED: THE PROGRAM's TIES (one call each: nine closed facts by the kernel) AND EACH ROW's TIE, after the 31st guide's Derived/Test/Toyas{Tie, Card}.lean. No idea stands in it: it is a product of the set-up. Laid BY PROGRAM, IN A SANDBOX (cutbox-door.mjs). By AI agents, Wed Nov 11 2026. No macro, syntax, notation, axiom, sorry.
-/
import Derived.Test.YtfagjhgmmaebfaaGreatDoorRows
import Derived.LaidByTextLater
import Derived.SevenTiedAt
import Derived.LaidSub
import Derived.LaidOnce
namespace Go.Proofs.YtfagjhgmmaebfaaGreatDoor
open Go
set_option maxRecDepth 100000
theorem seatTie1 : Tryz.prog.laidByTextLater [("unicode/utf8.acceptRanges", Rows.laid_unicode_utf8_acceptRanges), ("io.ErrShortBuffer", Rows.laid_io_ErrShortBuffer), ("io.EOF", Rows.laid_io_EOF), ("io.ErrUnexpectedEOF", Rows.laid_io_ErrUnexpectedEOF), ("io.errWhence", Rows.laid_io_errWhence), ("io.errOffset", Rows.laid_io_errOffset), ("loop.example/pub-ziparchives/pub/gozip.ErrFormat", Rows.laid_loop_example_pub_ziparchives_pub_gozip_ErrFormat), ("loop.example/pub-ziparchives/pub/gozip.ErrAlgorithm", Rows.laid_loop_example_pub_ziparchives_pub_gozip_ErrAlgorithm), ("loop.example/pub-ziparchives/pub/gozip.ErrChecksum", Rows.laid_loop_example_pub_ziparchives_pub_gozip_ErrChecksum), ("loop.example/pub-ziparchives/pub/gozip.ErrInsecurePath", Rows.laid_loop_example_pub_ziparchives_pub_gozip_ErrInsecurePath)] [.data, .sentinel, .sentinel, .sentinel, .sentinel, .sentinel, .sentinel, .sentinel, .sentinel, .sentinel] true :=
  Program.laidByTextLater_by_one 209 8 33 (by kernel_rfl) (by kernel_rfl) (by kernel_rfl) (by kernel_rfl) (by kernel_rfl) (by kernel_rfl) (fun _ _ => by kernel_rfl)
theorem pin_laid_unicode_utf8_first : Tryz.pinned.checked.prog.pinnedFits "unicode/utf8.first" = true := by kernel_rfl
theorem noOwnUnsafe : Tryz.pinned.checked.prog.headLifts.contains "ownunsafe" = false := by kernel_rfl
theorem fits1 : Tryz.pinned.checked.prog.listedFits [("unicode/utf8.acceptRanges", Rows.laid_unicode_utf8_acceptRanges), ("io.ErrShortBuffer", Rows.laid_io_ErrShortBuffer), ("io.EOF", Rows.laid_io_EOF), ("io.ErrUnexpectedEOF", Rows.laid_io_ErrUnexpectedEOF), ("io.errWhence", Rows.laid_io_errWhence), ("io.errOffset", Rows.laid_io_errOffset), ("loop.example/pub-ziparchives/pub/gozip.ErrFormat", Rows.laid_loop_example_pub_ziparchives_pub_gozip_ErrFormat), ("loop.example/pub-ziparchives/pub/gozip.ErrAlgorithm", Rows.laid_loop_example_pub_ziparchives_pub_gozip_ErrAlgorithm), ("loop.example/pub-ziparchives/pub/gozip.ErrChecksum", Rows.laid_loop_example_pub_ziparchives_pub_gozip_ErrChecksum), ("loop.example/pub-ziparchives/pub/gozip.ErrInsecurePath", Rows.laid_loop_example_pub_ziparchives_pub_gozip_ErrInsecurePath), ("unicode/utf8.first", Rows.laid_unicode_utf8_first)] = true := by
  unfold Program.listedFits
  rw [noOwnUnsafe]
  kernel_rfl
theorem tie : Tryz.prog.laidByTextLater [("unicode/utf8.acceptRanges", Rows.laid_unicode_utf8_acceptRanges), ("io.ErrShortBuffer", Rows.laid_io_ErrShortBuffer), ("io.EOF", Rows.laid_io_EOF), ("io.ErrUnexpectedEOF", Rows.laid_io_ErrUnexpectedEOF), ("io.errWhence", Rows.laid_io_errWhence), ("io.errOffset", Rows.laid_io_errOffset), ("loop.example/pub-ziparchives/pub/gozip.ErrFormat", Rows.laid_loop_example_pub_ziparchives_pub_gozip_ErrFormat), ("loop.example/pub-ziparchives/pub/gozip.ErrAlgorithm", Rows.laid_loop_example_pub_ziparchives_pub_gozip_ErrAlgorithm), ("loop.example/pub-ziparchives/pub/gozip.ErrChecksum", Rows.laid_loop_example_pub_ziparchives_pub_gozip_ErrChecksum), ("loop.example/pub-ziparchives/pub/gozip.ErrInsecurePath", Rows.laid_loop_example_pub_ziparchives_pub_gozip_ErrInsecurePath)] [.data, .sentinel, .sentinel, .sentinel, .sentinel, .sentinel, .sentinel, .sentinel, .sentinel, .sentinel] true :=
  Program.laidByTextLater.sub seatTie1 ["unicode/utf8.acceptRanges", "io.ErrShortBuffer", "io.EOF", "io.ErrUnexpectedEOF", "io.errWhence", "io.errOffset", "loop.example/pub-ziparchives/pub/gozip.ErrFormat", "loop.example/pub-ziparchives/pub/gozip.ErrAlgorithm", "loop.example/pub-ziparchives/pub/gozip.ErrChecksum", "loop.example/pub-ziparchives/pub/gozip.ErrInsecurePath"] (by kernel_rfl) (by kernel_rfl)
theorem fnLocalSpoilt_row_tie : Rows.fnLocalSpoiltRow.laidByTextAt .later Tryz.pinned [.data, .sentinel, .sentinel, .sentinel, .sentinel, .sentinel, .sentinel, .sentinel, .sentinel, .sentinel, .pinned] true :=
  OpenClaim.laidByTextAt_pinned rfl rfl tie rfl rfl rfl rfl (fun y hy _e => by
    simp only [Rows.fnLocalSpoiltRow, List.zip_cons_cons, List.zip_nil_right, List.mem_cons, List.mem_nil_iff, or_false] at hy
    rcases hy with rfl | rfl | rfl | rfl | rfl | rfl | rfl | rfl | rfl | rfl | rfl
    · cases _e
    · cases _e
    · cases _e
    · cases _e
    · cases _e
    · cases _e
    · cases _e
    · cases _e
    · cases _e
    · cases _e
    · exact ⟨pin_laid_unicode_utf8_first, by kernel_rfl⟩) fits1
theorem fnLocalSpoiltUpto_row_tie : Rows.fnLocalSpoiltUptoRow.laidByTextAt .later Tryz.pinned [.data, .sentinel, .sentinel, .sentinel, .sentinel, .sentinel, .sentinel, .sentinel, .sentinel, .sentinel, .pinned] true :=
  OpenClaim.laidByTextAt_pinned rfl rfl tie rfl rfl rfl rfl (fun y hy _e => by
    simp only [Rows.fnLocalSpoiltUptoRow, List.zip_cons_cons, List.zip_nil_right, List.mem_cons, List.mem_nil_iff, or_false] at hy
    rcases hy with rfl | rfl | rfl | rfl | rfl | rfl | rfl | rfl | rfl | rfl | rfl
    · cases _e
    · cases _e
    · cases _e
    · cases _e
    · cases _e
    · cases _e
    · cases _e
    · cases _e
    · cases _e
    · cases _e
    · exact ⟨pin_laid_unicode_utf8_first, by kernel_rfl⟩) fits1
end Go.Proofs.YtfagjhgmmaebfaaGreatDoor
