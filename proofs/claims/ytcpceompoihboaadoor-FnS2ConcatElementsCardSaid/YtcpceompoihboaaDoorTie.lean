/-
  DERIVED. GIVEN WITH THE SEED: THE PROGRAM's TIES (one call each: nine closed facts by the kernel) AND EACH ROW's TIE, after the 31st guide's Derived/Test/Toyas{Tie, Card}.lean. No idea stands in it: it is a product of the set-up. Laid BY PROGRAM, IN A SANDBOX (cutbox-door.mjs). By AI agents, Wed Nov 11 2026. No macro, syntax, notation, axiom, sorry.
-/
import Derived.Test.YtcpceompoihboaaDoorRows
import Derived.LaidByTextLater
import Derived.SevenTiedAt
import Derived.LaidSub
import Derived.LaidOnce
namespace Go.Proofs.YtcpceompoihboaaDoor
open Go
set_option maxRecDepth 100000
theorem seatTie1 : Tryd.prog.laidByTextLater [("io.ErrUnexpectedEOF", Rows.laid_io_ErrUnexpectedEOF), ("pub-pemmican/pub/compress/s2.ErrCorrupt", Rows.laid_pub_pemmican_pub_compress_s2_ErrCorrupt), ("pub-pemmican/pub/compress/s2.ErrTooLarge", Rows.laid_pub_pemmican_pub_compress_s2_ErrTooLarge), ("pub-pemmican/pub/compress/s2.ErrUnsupported", Rows.laid_pub_pemmican_pub_compress_s2_ErrUnsupported), ("pub-pemmican/pub/compress/s2.ErrDstTooSmall", Rows.laid_pub_pemmican_pub_compress_s2_ErrDstTooSmall)] [.sentinel, .sentinel, .sentinel, .sentinel, .sentinel] true :=
  Program.laidByTextLater_by_one 104 8 2 (by kernel_rfl) (by kernel_rfl) (by kernel_rfl) (by kernel_rfl) (by kernel_rfl) (by kernel_rfl) (fun _ _ => by kernel_rfl)
theorem noOwnUnsafe : Tryd.pinned.checked.prog.headLifts.contains "ownunsafe" = false := by kernel_rfl
theorem tie : Tryd.prog.laidByTextLater [("io.ErrUnexpectedEOF", Rows.laid_io_ErrUnexpectedEOF), ("pub-pemmican/pub/compress/s2.ErrCorrupt", Rows.laid_pub_pemmican_pub_compress_s2_ErrCorrupt), ("pub-pemmican/pub/compress/s2.ErrUnsupported", Rows.laid_pub_pemmican_pub_compress_s2_ErrUnsupported)] [.sentinel, .sentinel, .sentinel] true :=
  Program.laidByTextLater.sub seatTie1 ["io.ErrUnexpectedEOF", "pub-pemmican/pub/compress/s2.ErrCorrupt", "pub-pemmican/pub/compress/s2.ErrUnsupported"] (by kernel_rfl) (by kernel_rfl)
theorem fnIndexFinds_row_tie : Rows.fnIndexFindsRow.laidByTextAt .later Tryd.pinned [.sentinel, .sentinel, .sentinel] true :=
  OpenClaim.laidByTextAt_later rfl rfl tie noOwnUnsafe
theorem tie2 : Tryd.prog.laidByTextLater [("pub-pemmican/pub/compress/s2.ErrCorrupt", Rows.laid_pub_pemmican_pub_compress_s2_ErrCorrupt), ("pub-pemmican/pub/compress/s2.ErrTooLarge", Rows.laid_pub_pemmican_pub_compress_s2_ErrTooLarge)] [.sentinel, .sentinel] true :=
  Program.laidByTextLater.sub seatTie1 ["pub-pemmican/pub/compress/s2.ErrCorrupt", "pub-pemmican/pub/compress/s2.ErrTooLarge"] (by kernel_rfl) (by kernel_rfl)
theorem fnS2Elements_row_tie : Rows.fnS2ElementsRow.laidByTextAt .later Tryd.pinned [.sentinel, .sentinel] true :=
  OpenClaim.laidByTextAt_later rfl rfl tie2 noOwnUnsafe
theorem fnEmitLiteral_row_tie : Rows.fnEmitLiteralRow.laidByTextAt .later Tryd.pinned [.sentinel, .sentinel] true :=
  OpenClaim.laidByTextAt_later rfl rfl tie2 noOwnUnsafe
theorem fnS2ConcatElements_row_tie : Rows.fnS2ConcatElementsRow.laidByTextAt .later Tryd.pinned [.sentinel, .sentinel] true :=
  OpenClaim.laidByTextAt_later rfl rfl tie2 noOwnUnsafe
theorem fnEmitRepeat_row_tie : Rows.fnEmitRepeatRow.laidByTextAt .later Tryd.pinned [.sentinel, .sentinel] true :=
  OpenClaim.laidByTextAt_later rfl rfl tie2 noOwnUnsafe
theorem tie3 : Tryd.prog.laidByTextLater [("pub-pemmican/pub/compress/s2.ErrCorrupt", Rows.laid_pub_pemmican_pub_compress_s2_ErrCorrupt), ("pub-pemmican/pub/compress/s2.ErrTooLarge", Rows.laid_pub_pemmican_pub_compress_s2_ErrTooLarge), ("pub-pemmican/pub/compress/s2.ErrDstTooSmall", Rows.laid_pub_pemmican_pub_compress_s2_ErrDstTooSmall)] [.sentinel, .sentinel, .sentinel] true :=
  Program.laidByTextLater.sub seatTie1 ["pub-pemmican/pub/compress/s2.ErrCorrupt", "pub-pemmican/pub/compress/s2.ErrTooLarge", "pub-pemmican/pub/compress/s2.ErrDstTooSmall"] (by kernel_rfl) (by kernel_rfl)
theorem fnLz4Any_row_tie : Rows.fnLz4AnyRow.laidByTextAt .later Tryd.pinned [.sentinel, .sentinel, .sentinel] true :=
  OpenClaim.laidByTextAt_later rfl rfl tie3 noOwnUnsafe
theorem fnLz4Converts_row_tie : Rows.fnLz4ConvertsRow.laidByTextAt .later Tryd.pinned [.sentinel, .sentinel, .sentinel] true :=
  OpenClaim.laidByTextAt_later rfl rfl tie3 noOwnUnsafe
theorem fnIndexFindsUpto_row_tie : Rows.fnIndexFindsUptoRow.laidByTextAt .later Tryd.pinned [.sentinel, .sentinel, .sentinel] true :=
  OpenClaim.laidByTextAt_later rfl rfl tie noOwnUnsafe
theorem fnS2ElementsUpto_row_tie : Rows.fnS2ElementsUptoRow.laidByTextAt .later Tryd.pinned [.sentinel, .sentinel] true :=
  OpenClaim.laidByTextAt_later rfl rfl tie2 noOwnUnsafe
theorem fnEmitLiteralUpto_row_tie : Rows.fnEmitLiteralUptoRow.laidByTextAt .later Tryd.pinned [.sentinel, .sentinel] true :=
  OpenClaim.laidByTextAt_later rfl rfl tie2 noOwnUnsafe
theorem fnS2ConcatElementsUpto_row_tie : Rows.fnS2ConcatElementsUptoRow.laidByTextAt .later Tryd.pinned [.sentinel, .sentinel] true :=
  OpenClaim.laidByTextAt_later rfl rfl tie2 noOwnUnsafe
theorem fnEmitRepeatUpto_row_tie : Rows.fnEmitRepeatUptoRow.laidByTextAt .later Tryd.pinned [.sentinel, .sentinel] true :=
  OpenClaim.laidByTextAt_later rfl rfl tie2 noOwnUnsafe
theorem fnLz4AnyUpto_row_tie : Rows.fnLz4AnyUptoRow.laidByTextAt .later Tryd.pinned [.sentinel, .sentinel, .sentinel] true :=
  OpenClaim.laidByTextAt_later rfl rfl tie3 noOwnUnsafe
theorem fnLz4ConvertsUpto_row_tie : Rows.fnLz4ConvertsUptoRow.laidByTextAt .later Tryd.pinned [.sentinel, .sentinel, .sentinel] true :=
  OpenClaim.laidByTextAt_later rfl rfl tie3 noOwnUnsafe
end Go.Proofs.YtcpceompoihboaaDoor
