/-
  DERIVED. GIVEN WITH THE SEED: THE PROGRAM's TIES (one call each: nine closed facts by the kernel) AND EACH ROW's TIE, after the 31st guide's Derived/Test/Toyas{Tie, Card}.lean. No idea stands in it: it is a product of the set-up. Laid BY PROGRAM, IN A SANDBOX (cutbox-door.mjs). By AI agents, Wed Nov 11 2026. No macro, syntax, notation, axiom, sorry.
-/
import Derived.Test.YtkjgkjmaoebeoaaDoorRows
import Derived.LaidByTextLater
import Derived.SevenTiedAt
import Derived.LaidSub
import Derived.LaidOnce
namespace Go.Proofs.YtkjgkjmaoebeoaaDoor
open Go
set_option maxRecDepth 100000
theorem seatTie1 : Tryd.prog.laidByTextLater [("io.ErrShortBuffer", Rows.laid_io_ErrShortBuffer), ("io.EOF", Rows.laid_io_EOF), ("io.ErrUnexpectedEOF", Rows.laid_io_ErrUnexpectedEOF), ("pub-clitter/pub/badger/zz.ErrNotExist", Rows.laid_pub_clitter_pub_badger_zz_ErrNotExist), ("pub-clitter/pub/badger/zz.ErrExist", Rows.laid_pub_clitter_pub_badger_zz_ErrExist), ("pub-clitter/pub/badger/pb.errWire", Rows.laid_pub_clitter_pub_badger_pb_errWire), ("pub-clitter/pub/badger.errBadMagic", Rows.laid_pub_clitter_pub_badger_errBadMagic), ("pub-clitter/pub/badger.errBadChecksum", Rows.laid_pub_clitter_pub_badger_errBadChecksum)] [.sentinel, .sentinel, .sentinel, .sentinel, .sentinel, .sentinel, .sentinel, .sentinel] true :=
  Program.laidByTextLater_by_one 180 8 2 (by kernel_rfl) (by kernel_rfl) (by kernel_rfl) (by kernel_rfl) (by kernel_rfl) (by kernel_rfl) (fun _ _ => by kernel_rfl)
theorem noOwnUnsafe : Tryd.pinned.checked.prog.headLifts.contains "ownunsafe" = false := by kernel_rfl
theorem tie : Tryd.prog.laidByTextLater [("io.ErrShortBuffer", Rows.laid_io_ErrShortBuffer), ("io.EOF", Rows.laid_io_EOF), ("io.ErrUnexpectedEOF", Rows.laid_io_ErrUnexpectedEOF), ("pub-clitter/pub/badger/zz.ErrNotExist", Rows.laid_pub_clitter_pub_badger_zz_ErrNotExist), ("pub-clitter/pub/badger/zz.ErrExist", Rows.laid_pub_clitter_pub_badger_zz_ErrExist), ("pub-clitter/pub/badger/pb.errWire", Rows.laid_pub_clitter_pub_badger_pb_errWire), ("pub-clitter/pub/badger.errBadMagic", Rows.laid_pub_clitter_pub_badger_errBadMagic), ("pub-clitter/pub/badger.errBadChecksum", Rows.laid_pub_clitter_pub_badger_errBadChecksum)] [.sentinel, .sentinel, .sentinel, .sentinel, .sentinel, .sentinel, .sentinel, .sentinel] true :=
  Program.laidByTextLater.sub seatTie1 ["io.ErrShortBuffer", "io.EOF", "io.ErrUnexpectedEOF", "pub-clitter/pub/badger/zz.ErrNotExist", "pub-clitter/pub/badger/zz.ErrExist", "pub-clitter/pub/badger/pb.errWire", "pub-clitter/pub/badger.errBadMagic", "pub-clitter/pub/badger.errBadChecksum"] (by kernel_rfl) (by kernel_rfl)
theorem fnManifestRead_row_tie : Rows.fnManifestReadRow.laidByTextAt .later Tryd.pinned [.sentinel, .sentinel, .sentinel, .sentinel, .sentinel, .sentinel, .sentinel, .sentinel] true :=
  OpenClaim.laidByTextAt_later rfl rfl tie noOwnUnsafe
theorem fnManifestTorn_row_tie : Rows.fnManifestTornRow.laidByTextAt .later Tryd.pinned [.sentinel, .sentinel, .sentinel, .sentinel, .sentinel, .sentinel, .sentinel, .sentinel] true :=
  OpenClaim.laidByTextAt_later rfl rfl tie noOwnUnsafe
theorem fnManifestReadUpto_row_tie : Rows.fnManifestReadUptoRow.laidByTextAt .later Tryd.pinned [.sentinel, .sentinel, .sentinel, .sentinel, .sentinel, .sentinel, .sentinel, .sentinel] true :=
  OpenClaim.laidByTextAt_later rfl rfl tie noOwnUnsafe
theorem fnManifestTornUpto_row_tie : Rows.fnManifestTornUptoRow.laidByTextAt .later Tryd.pinned [.sentinel, .sentinel, .sentinel, .sentinel, .sentinel, .sentinel, .sentinel, .sentinel] true :=
  OpenClaim.laidByTextAt_later rfl rfl tie noOwnUnsafe
end Go.Proofs.YtkjgkjmaoebeoaaDoor
