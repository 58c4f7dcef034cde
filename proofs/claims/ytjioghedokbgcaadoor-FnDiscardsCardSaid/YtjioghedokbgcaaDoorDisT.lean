/-
  The Options that InitDiscardStats is handed; the stats' own cells.
-/
import Derived.Test.YtjioghedokbgcaaDoorDisN
namespace Go.Proofs.YtjioghedokbgcaaDoor
open Go Go.RowKit
open Go.Proofs

/-- Options of a disk and a size of the discard stats' file. -/
def optCs (kb : Nat) (x : Int) : Array Value := #[.string ⟨#[]⟩, .string ⟨#[]⟩, .bool false, .int .i64 0, .bool false, .int .u32 0, .bool false, .bool false, .int .i64 0, .int .i64 0, .int .i64 0, .int .i64 0, .int .i64 0, .int .i64 0, .int .i64 0, .float .f64 0, .int .i64 0, .int .i64 0, .int .i64 0, .float .f64 0, .int .i64 0, .int .i64 0, .int .i64 0, .int .i64 0, .int .i64 0, .int .u32 0, .int .i64 0, .bool false, .bool false, .int .i64 0, .bool false, .bool false, .int .i64 0, .bool false, .int .i64 0, .int .u16 0, .bool false, .pointer (some ⟨kb, 0, none⟩), .int .i64 0, .int .i64 x, .int .i64 0, .int .i64 0, .int .i64 0]
theorem optBuilt (kb : Nat) (x : Int) : Tryd.prog.built 52 [(37, .pointer (some ⟨kb, 0, none⟩)), (39, .int .i64 x)] = some (optCs kb x) := by kernel_rfl
/-- The stats' cells. -/
def disCs (mb kb : Nat) (x : Int) (n : Int) : Array Value := #[.pointer (some ⟨mb, 0, none⟩), .string ⟨#[]⟩, .string ⟨#[]⟩, .bool false, .int .i64 0, .bool false, .int .u32 0, .bool false, .bool false, .int .i64 0, .int .i64 0, .int .i64 0, .int .i64 0, .int .i64 0, .int .i64 0, .int .i64 0, .float .f64 0, .int .i64 0, .int .i64 0, .int .i64 0, .float .f64 0, .int .i64 0, .int .i64 0, .int .i64 0, .int .i64 0, .int .i64 0, .int .u32 0, .int .i64 0, .bool false, .bool false, .int .i64 0, .bool false, .bool false, .int .i64 0, .bool false, .int .i64 0, .int .u16 0, .bool false, .pointer (some ⟨kb, 0, none⟩), .int .i64 0, .int .i64 x, .int .i64 0, .int .i64 0, .int .i64 0, .int .i64 n]
theorem disBuilt (mb kb : Nat) (x : Int) : Tryd.prog.built 64 [(1, .pointer (some ⟨mb, 0, none⟩)), (2, .agg (optCs kb x))] = some (disCs mb kb x 0) := by kernel_rfl
end Go.Proofs.YtjioghedokbgcaaDoor
