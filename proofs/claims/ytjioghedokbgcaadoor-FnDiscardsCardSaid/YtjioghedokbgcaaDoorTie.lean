/-
  DERIVED. GIVEN WITH THE SEED: THE PROGRAM's TIES (one call each: nine closed facts by the kernel) AND EACH ROW's TIE, after the 31st guide's Derived/Test/Toyas{Tie, Card}.lean. No idea stands in it: it is a product of the set-up. Laid BY PROGRAM, IN A SANDBOX (cutbox-door.mjs). By AI agents, Wed Nov 11 2026. No macro, syntax, notation, axiom, sorry.
-/
import Derived.Test.YtjioghedokbgcaaDoorRows
import Derived.LaidByTextLater
import Derived.SevenTiedAt
import Derived.LaidSub
import Derived.LaidOnce
namespace Go.Proofs.YtjioghedokbgcaaDoor
open Go
set_option maxRecDepth 100000
theorem seatTie1 : Tryd.prog.laidByTextLater [("pub-clitter/pub/badger/zz.ErrNotExist", Rows.laid_pub_clitter_pub_badger_zz_ErrNotExist), ("pub-clitter/pub/badger/zz.ErrExist", Rows.laid_pub_clitter_pub_badger_zz_ErrExist), ("pub-clitter/pub/badger/zz.NewFile", Rows.laid_pub_clitter_pub_badger_zz_NewFile)] [.sentinel, .sentinel, .sentinel] true :=
  Program.laidByTextLater_by_one 66 8 2 (by kernel_rfl) (by kernel_rfl) (by kernel_rfl) (by kernel_rfl) (by kernel_rfl) (by kernel_rfl) (fun _ _ => by kernel_rfl)
theorem noOwnUnsafe : Tryd.pinned.checked.prog.headLifts.contains "ownunsafe" = false := by kernel_rfl
theorem tie : Tryd.prog.laidByTextLater [("pub-clitter/pub/badger/zz.ErrNotExist", Rows.laid_pub_clitter_pub_badger_zz_ErrNotExist), ("pub-clitter/pub/badger/zz.ErrExist", Rows.laid_pub_clitter_pub_badger_zz_ErrExist), ("pub-clitter/pub/badger/zz.NewFile", Rows.laid_pub_clitter_pub_badger_zz_NewFile)] [.sentinel, .sentinel, .sentinel] true :=
  Program.laidByTextLater.sub seatTie1 ["pub-clitter/pub/badger/zz.ErrNotExist", "pub-clitter/pub/badger/zz.ErrExist", "pub-clitter/pub/badger/zz.NewFile"] (by kernel_rfl) (by kernel_rfl)
theorem fnDiscards_row_tie : Rows.fnDiscardsRow.laidByTextAt .later Tryd.pinned [.sentinel, .sentinel, .sentinel] true :=
  OpenClaim.laidByTextAt_later rfl rfl tie noOwnUnsafe
theorem fnDiscardsUpto_row_tie : Rows.fnDiscardsUptoRow.laidByTextAt .later Tryd.pinned [.sentinel, .sentinel, .sentinel] true :=
  OpenClaim.laidByTextAt_later rfl rfl tie noOwnUnsafe
end Go.Proofs.YtjioghedokbgcaaDoor
