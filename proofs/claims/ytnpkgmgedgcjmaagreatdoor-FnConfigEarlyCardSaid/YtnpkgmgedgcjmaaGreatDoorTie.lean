/-
  DERIVED. GIVEN WITH THE SEED: THE PROGRAM's TIES (one call each: nine closed facts by the kernel) AND EACH ROW's TIE, after the 31st guide's Derived/Test/Toyas{Tie, Card}.lean. No idea stands in it: it is a product of the set-up. Laid BY PROGRAM, IN A SANDBOX (cutbox-door.mjs). By AI agents, Wed Nov 11 2026. No macro, syntax, notation, axiom, sorry.
-/
import Derived.Test.YtnpkgmgedgcjmaaGreatDoorRows
import Derived.LaidByTextLater
import Derived.SevenTiedAt
import Derived.LaidSub
import Derived.LaidOnce
namespace Go.Proofs.YtnpkgmgedgcjmaaGreatDoor
open Go
set_option maxRecDepth 100000
theorem seatTie1 : Tryz.prog.laidByTextLater [("errors.errorType", Rows.laid_errors_errorType), ("io.ErrShortBuffer", Rows.laid_io_ErrShortBuffer), ("io.EOF", Rows.laid_io_EOF), ("io.ErrUnexpectedEOF", Rows.laid_io_ErrUnexpectedEOF), ("io.ErrNoProgress", Rows.laid_io_ErrNoProgress), ("loop.example/pub-g03424/pub/flate.codeOrder", Rows.laid_loop_example_pub_g03424_pub_flate_codeOrder), ("loop.example/pub-g03424/pub/zlib.ErrDictionary", Rows.laid_loop_example_pub_g03424_pub_zlib_ErrDictionary), ("loop.example/pub-g03424/pub/zlib.ErrHeader", Rows.laid_loop_example_pub_g03424_pub_zlib_ErrHeader), ("loop.example/pub-g03424/pub/png.interlacing", Rows.laid_loop_example_pub_g03424_pub_png_interlacing), ("loop.example/pub-g03424/pub/png.ieeeTable", Rows.laid_loop_example_pub_g03424_pub_png_ieeeTable)] [.handle, .sentinel, .sentinel, .sentinel, .sentinel, .data, .sentinel, .sentinel, .data, .data] true :=
  Program.laidByTextLater_by_one 205 8 257 (by kernel_rfl) (by kernel_rfl) (by kernel_rfl) (by kernel_rfl) (by kernel_rfl) (by kernel_rfl) (fun _ _ => by kernel_rfl)
theorem noOwnUnsafe : Tryz.pinned.checked.prog.headLifts.contains "ownunsafe" = false := by kernel_rfl
theorem tie : Tryz.prog.laidByTextLater [("errors.errorType", Rows.laid_errors_errorType), ("io.ErrShortBuffer", Rows.laid_io_ErrShortBuffer), ("io.EOF", Rows.laid_io_EOF), ("io.ErrUnexpectedEOF", Rows.laid_io_ErrUnexpectedEOF), ("io.ErrNoProgress", Rows.laid_io_ErrNoProgress), ("loop.example/pub-g03424/pub/flate.codeOrder", Rows.laid_loop_example_pub_g03424_pub_flate_codeOrder), ("loop.example/pub-g03424/pub/zlib.ErrDictionary", Rows.laid_loop_example_pub_g03424_pub_zlib_ErrDictionary), ("loop.example/pub-g03424/pub/zlib.ErrHeader", Rows.laid_loop_example_pub_g03424_pub_zlib_ErrHeader), ("loop.example/pub-g03424/pub/png.interlacing", Rows.laid_loop_example_pub_g03424_pub_png_interlacing), ("loop.example/pub-g03424/pub/png.ieeeTable", Rows.laid_loop_example_pub_g03424_pub_png_ieeeTable)] [.handle, .sentinel, .sentinel, .sentinel, .sentinel, .data, .sentinel, .sentinel, .data, .data] true :=
  Program.laidByTextLater.sub seatTie1 ["errors.errorType", "io.ErrShortBuffer", "io.EOF", "io.ErrUnexpectedEOF", "io.ErrNoProgress", "loop.example/pub-g03424/pub/flate.codeOrder", "loop.example/pub-g03424/pub/zlib.ErrDictionary", "loop.example/pub-g03424/pub/zlib.ErrHeader", "loop.example/pub-g03424/pub/png.interlacing", "loop.example/pub-g03424/pub/png.ieeeTable"] (by kernel_rfl) (by kernel_rfl)
theorem fnAncillary_row_tie : Rows.fnAncillaryRow.laidByTextAt .later Tryz.pinned [.handle, .sentinel, .sentinel, .sentinel, .sentinel, .data, .sentinel, .sentinel, .data, .data] true :=
  OpenClaim.laidByTextAt_later rfl rfl tie noOwnUnsafe
theorem fnBehind_row_tie : Rows.fnBehindRow.laidByTextAt .later Tryz.pinned [.handle, .sentinel, .sentinel, .sentinel, .sentinel, .data, .sentinel, .sentinel, .data, .data] true :=
  OpenClaim.laidByTextAt_later rfl rfl tie noOwnUnsafe
theorem fnBent_row_tie : Rows.fnBentRow.laidByTextAt .later Tryz.pinned [.handle, .sentinel, .sentinel, .sentinel, .sentinel, .data, .sentinel, .sentinel, .data, .data] true :=
  OpenClaim.laidByTextAt_later rfl rfl tie noOwnUnsafe
theorem fnCut_row_tie : Rows.fnCutRow.laidByTextAt .later Tryz.pinned [.handle, .sentinel, .sentinel, .sentinel, .sentinel, .data, .sentinel, .sentinel, .data, .data] true :=
  OpenClaim.laidByTextAt_later rfl rfl tie noOwnUnsafe
theorem fnDecode_row_tie : Rows.fnDecodeRow.laidByTextAt .later Tryz.pinned [.handle, .sentinel, .sentinel, .sentinel, .sentinel, .data, .sentinel, .sentinel, .data, .data] true :=
  OpenClaim.laidByTextAt_later rfl rfl tie noOwnUnsafe
theorem fnFilters_row_tie : Rows.fnFiltersRow.laidByTextAt .later Tryz.pinned [.handle, .sentinel, .sentinel, .sentinel, .sentinel, .data, .sentinel, .sentinel, .data, .data] true :=
  OpenClaim.laidByTextAt_later rfl rfl tie noOwnUnsafe
theorem fnKind_row_tie : Rows.fnKindRow.laidByTextAt .later Tryz.pinned [.handle, .sentinel, .sentinel, .sentinel, .sentinel, .data, .sentinel, .sentinel, .data, .data] true :=
  OpenClaim.laidByTextAt_later rfl rfl tie noOwnUnsafe
theorem fnLaced_row_tie : Rows.fnLacedRow.laidByTextAt .later Tryz.pinned [.handle, .sentinel, .sentinel, .sentinel, .sentinel, .data, .sentinel, .sentinel, .data, .data] true :=
  OpenClaim.laidByTextAt_later rfl rfl tie noOwnUnsafe
theorem fnMade_row_tie : Rows.fnMadeRow.laidByTextAt .later Tryz.pinned [.handle, .sentinel, .sentinel, .sentinel, .sentinel, .data, .sentinel, .sentinel, .data, .data] true :=
  OpenClaim.laidByTextAt_later rfl rfl tie noOwnUnsafe
theorem fnPieces_row_tie : Rows.fnPiecesRow.laidByTextAt .later Tryz.pinned [.handle, .sentinel, .sentinel, .sentinel, .sentinel, .data, .sentinel, .sentinel, .data, .data] true :=
  OpenClaim.laidByTextAt_later rfl rfl tie noOwnUnsafe
theorem fnConfig_row_tie : Rows.fnConfigRow.laidByTextAt .later Tryz.pinned [.handle, .sentinel, .sentinel, .sentinel, .sentinel, .data, .sentinel, .sentinel, .data, .data] true :=
  OpenClaim.laidByTextAt_later rfl rfl tie noOwnUnsafe
theorem fnConfigEarly_row_tie : Rows.fnConfigEarlyRow.laidByTextAt .later Tryz.pinned [.handle, .sentinel, .sentinel, .sentinel, .sentinel, .data, .sentinel, .sentinel, .data, .data] true :=
  OpenClaim.laidByTextAt_later rfl rfl tie noOwnUnsafe
theorem fnConfigAgrees_row_tie : Rows.fnConfigAgreesRow.laidByTextAt .later Tryz.pinned [.handle, .sentinel, .sentinel, .sentinel, .sentinel, .data, .sentinel, .sentinel, .data, .data] true :=
  OpenClaim.laidByTextAt_later rfl rfl tie noOwnUnsafe
theorem fnSignature_row_tie : Rows.fnSignatureRow.laidByTextAt .later Tryz.pinned [.handle, .sentinel, .sentinel, .sentinel, .sentinel, .data, .sentinel, .sentinel, .data, .data] true :=
  OpenClaim.laidByTextAt_later rfl rfl tie noOwnUnsafe
theorem fnAncillaryUpto_row_tie : Rows.fnAncillaryUptoRow.laidByTextAt .later Tryz.pinned [.handle, .sentinel, .sentinel, .sentinel, .sentinel, .data, .sentinel, .sentinel, .data, .data] true :=
  OpenClaim.laidByTextAt_later rfl rfl tie noOwnUnsafe
theorem fnBehindUpto_row_tie : Rows.fnBehindUptoRow.laidByTextAt .later Tryz.pinned [.handle, .sentinel, .sentinel, .sentinel, .sentinel, .data, .sentinel, .sentinel, .data, .data] true :=
  OpenClaim.laidByTextAt_later rfl rfl tie noOwnUnsafe
theorem fnBentUpto_row_tie : Rows.fnBentUptoRow.laidByTextAt .later Tryz.pinned [.handle, .sentinel, .sentinel, .sentinel, .sentinel, .data, .sentinel, .sentinel, .data, .data] true :=
  OpenClaim.laidByTextAt_later rfl rfl tie noOwnUnsafe
theorem fnCutUpto_row_tie : Rows.fnCutUptoRow.laidByTextAt .later Tryz.pinned [.handle, .sentinel, .sentinel, .sentinel, .sentinel, .data, .sentinel, .sentinel, .data, .data] true :=
  OpenClaim.laidByTextAt_later rfl rfl tie noOwnUnsafe
theorem fnDecodeUpto_row_tie : Rows.fnDecodeUptoRow.laidByTextAt .later Tryz.pinned [.handle, .sentinel, .sentinel, .sentinel, .sentinel, .data, .sentinel, .sentinel, .data, .data] true :=
  OpenClaim.laidByTextAt_later rfl rfl tie noOwnUnsafe
theorem fnFiltersUpto_row_tie : Rows.fnFiltersUptoRow.laidByTextAt .later Tryz.pinned [.handle, .sentinel, .sentinel, .sentinel, .sentinel, .data, .sentinel, .sentinel, .data, .data] true :=
  OpenClaim.laidByTextAt_later rfl rfl tie noOwnUnsafe
theorem fnKindUpto_row_tie : Rows.fnKindUptoRow.laidByTextAt .later Tryz.pinned [.handle, .sentinel, .sentinel, .sentinel, .sentinel, .data, .sentinel, .sentinel, .data, .data] true :=
  OpenClaim.laidByTextAt_later rfl rfl tie noOwnUnsafe
theorem fnLacedUpto_row_tie : Rows.fnLacedUptoRow.laidByTextAt .later Tryz.pinned [.handle, .sentinel, .sentinel, .sentinel, .sentinel, .data, .sentinel, .sentinel, .data, .data] true :=
  OpenClaim.laidByTextAt_later rfl rfl tie noOwnUnsafe
theorem fnMadeUpto_row_tie : Rows.fnMadeUptoRow.laidByTextAt .later Tryz.pinned [.handle, .sentinel, .sentinel, .sentinel, .sentinel, .data, .sentinel, .sentinel, .data, .data] true :=
  OpenClaim.laidByTextAt_later rfl rfl tie noOwnUnsafe
theorem fnPiecesUpto_row_tie : Rows.fnPiecesUptoRow.laidByTextAt .later Tryz.pinned [.handle, .sentinel, .sentinel, .sentinel, .sentinel, .data, .sentinel, .sentinel, .data, .data] true :=
  OpenClaim.laidByTextAt_later rfl rfl tie noOwnUnsafe
theorem fnConfigUpto_row_tie : Rows.fnConfigUptoRow.laidByTextAt .later Tryz.pinned [.handle, .sentinel, .sentinel, .sentinel, .sentinel, .data, .sentinel, .sentinel, .data, .data] true :=
  OpenClaim.laidByTextAt_later rfl rfl tie noOwnUnsafe
theorem fnConfigEarlyUpto_row_tie : Rows.fnConfigEarlyUptoRow.laidByTextAt .later Tryz.pinned [.handle, .sentinel, .sentinel, .sentinel, .sentinel, .data, .sentinel, .sentinel, .data, .data] true :=
  OpenClaim.laidByTextAt_later rfl rfl tie noOwnUnsafe
theorem fnConfigAgreesUpto_row_tie : Rows.fnConfigAgreesUptoRow.laidByTextAt .later Tryz.pinned [.handle, .sentinel, .sentinel, .sentinel, .sentinel, .data, .sentinel, .sentinel, .data, .data] true :=
  OpenClaim.laidByTextAt_later rfl rfl tie noOwnUnsafe
theorem fnSignatureUpto_row_tie : Rows.fnSignatureUptoRow.laidByTextAt .later Tryz.pinned [.handle, .sentinel, .sentinel, .sentinel, .sentinel, .data, .sentinel, .sentinel, .data, .data] true :=
  OpenClaim.laidByTextAt_later rfl rfl tie noOwnUnsafe
end Go.Proofs.YtnpkgmgedgcjmaaGreatDoor
