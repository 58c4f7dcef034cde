/-
  NARROWER THAN 'FOR EVERY INPUT', by the rows' own cells (each row's printed sentence says how): FnManifestRead: laid · FnManifestTorn: laid.
  DERIVED. THE GIVEN ROWS OF THIS SEAT. 2 by the template 'for every input the law returns true; each argument reads behind the call as it read before'; 0 by the template 'total and deterministic' (their statements: YtkjgkjmaoebeoaaDoorTotals.lean).
  GIVEN WITH THE SEED: the statements are not yours to turn. If you find one false, say at which input.
  Laid BY PROGRAM, IN A SANDBOX (cutbox-rows.mjs): the forced cells as the released guide's own fill.sh prints them over the translation fd815e4681082ab4… (all of the seat's roots in one cut). By AI agents, Wed Nov 11 2026. No macro, syntax, notation, axiom, sorry.
-/
import Derived.Test.YtkjgkjmaoebeoaaDoorChecked
import GoSem.Claim
import GoSem.ClaimJoined
import GoSem.ClaimMapViews
import Derived.JoinedTies
import Derived.KernelRfl
namespace Go.Proofs.YtkjgkjmaoebeoaaDoor
/- THE CELL 'sum', in the pinned program and in every row, IS THE sha256 OF THE DUMP (.gsa) THAT YtkjgkjmaoebeoaaDoorProg.lean LOADS. Nothing in Lean hashes anything: it is a label: what it is worth is what the hold of that sum in a sandbox is worth. -/
noncomputable def Tryd.pinned : Pinned := { name := "ytkjgkjmaoebeoaadoor", sum := "fd815e4681082ab4e9249fd824fd13279dfe9ba8e92c159bf33bb4fcbb794b64", checked := Tryd.checked }
namespace Rows
def none {H : Type} : Left H := { results := [], args := [] }

/- WHAT THE LISTED PACKAGE-LEVEL VARIABLES READ AS WHEN THE CALL BEGINS. Each datum BY PROGRAM (the guide's laid-datum.mjs) off the statement by which the dump's own 'gosem.cut.vars' lays the variable. In a bare row this is a premise. The card (YtkjgkjmaoebeoaaDoorCards.lean) ties it to the program's text. -/
def laid_io_ErrShortBuffer {H : Type} : DataW H := .iface "*errors.errorString" (.ptr (.agg [.lit (.string [115, 104, 111, 114, 116, 32, 98, 117, 102, 102, 101, 114])]))
def laid_io_EOF {H : Type} : DataW H := .iface "*errors.errorString" (.ptr (.agg [.lit (.string [69, 79, 70])]))
def laid_io_ErrUnexpectedEOF {H : Type} : DataW H := .iface "*errors.errorString" (.ptr (.agg [.lit (.string [117, 110, 101, 120, 112, 101, 99, 116, 101, 100, 32, 69, 79, 70])]))
def laid_pub_clitter_pub_badger_zz_ErrNotExist {H : Type} : DataW H := .iface "*errors.errorString" (.ptr (.agg [.lit (.string [102, 105, 108, 101, 32, 100, 111, 101, 115, 32, 110, 111, 116, 32, 101, 120, 105, 115, 116])]))
def laid_pub_clitter_pub_badger_zz_ErrExist {H : Type} : DataW H := .iface "*errors.errorString" (.ptr (.agg [.lit (.string [102, 105, 108, 101, 32, 97, 108, 114, 101, 97, 100, 121, 32, 101, 120, 105, 115, 116, 115])]))
def laid_pub_clitter_pub_badger_pb_errWire {H : Type} : DataW H := .iface "*errors.errorString" (.ptr (.agg [.lit (.string [98, 121, 116, 101, 115, 32, 116, 104, 97, 116, 32, 97, 114, 101, 32, 110, 111, 32, 109, 101, 115, 115, 97, 103, 101])]))
def laid_pub_clitter_pub_badger_errBadMagic {H : Type} : DataW H := .iface "*errors.errorString" (.ptr (.agg [.lit (.string [109, 97, 110, 105, 102, 101, 115, 116, 32, 104, 97, 115, 32, 98, 97, 100, 32, 109, 97, 103, 105, 99])]))
def laid_pub_clitter_pub_badger_errBadChecksum {H : Type} : DataW H := .iface "*errors.errorString" (.ptr (.agg [.lit (.string [109, 97, 110, 105, 102, 101, 115, 116, 32, 104, 97, 115, 32, 99, 104, 101, 99, 107, 115, 117, 109, 32, 109, 105, 115, 109, 97, 116, 99, 104])]))

/-- 'laws.FnManifestRead': WHATEVER THE INPUT: true; the input reads as it did. -/
def fnManifestReadSpec : ChangeSpec := { name := "fnManifestRead", fn := fun _ => fun
  | [d1, d2, d3] => { results := [.lit (.bool true)], args := [d1, d2, d3] }
  | _ => none }
def fnManifestReadRow : OpenClaim := { program := "ytkjgkjmaoebeoaadoor", sum := "fd815e4681082ab4e9249fd824fd13279dfe9ba8e92c159bf33bb4fcbb794b64", func := "pub-clitter/laws.FnManifestRead", spec := "fnManifestRead", inPlace := ["internal/reflectlite.ValueOf", "internal/reflectlite.Swapper", "(internal/reflectlite.Value).Len"], unfollowed := true, recurses := true, named := ["pub-clitter/pub/badger/zz.ErrExist", "pub-clitter/pub/badger/zz.ErrNotExist", "pub-clitter/pub/badger.errBadMagic", "io.EOF", "io.ErrUnexpectedEOF", "pub-clitter/pub/badger.errBadChecksum", "io.ErrShortBuffer", "encoding/binary.BigEndian", "pub-clitter/pub/badger/pb.errWire"], apart := false, laid := [("io.ErrShortBuffer", laid_io_ErrShortBuffer), ("io.EOF", laid_io_EOF), ("io.ErrUnexpectedEOF", laid_io_ErrUnexpectedEOF), ("pub-clitter/pub/badger/zz.ErrNotExist", laid_pub_clitter_pub_badger_zz_ErrNotExist), ("pub-clitter/pub/badger/zz.ErrExist", laid_pub_clitter_pub_badger_zz_ErrExist), ("pub-clitter/pub/badger/pb.errWire", laid_pub_clitter_pub_badger_pb_errWire), ("pub-clitter/pub/badger.errBadMagic", laid_pub_clitter_pub_badger_errBadMagic), ("pub-clitter/pub/badger.errBadChecksum", laid_pub_clitter_pub_badger_errBadChecksum)] }
def FnManifestReadSaid : Prop := fnManifestReadRow.holds Tryd.pinned (OpenSpec.ofChange fnManifestReadSpec)

/-- ITS FALSE NEIGHBOUR: 'it returns false'. Refute it at one input. -/
def fnManifestReadWrong : ChangeSpec := { name := "fnManifestRead", fn := fun _ => fun
  | [d1, d2, d3] => { results := [.lit (.bool false)], args := [d1, d2, d3] }
  | _ => none }
def FnManifestReadWrongFalsely : Prop := fnManifestReadRow.holds Tryd.pinned (OpenSpec.ofChange fnManifestReadWrong)

/-- 'laws.FnManifestTorn': WHATEVER THE INPUT: true; the input reads as it did. -/
def fnManifestTornSpec : ChangeSpec := { name := "fnManifestTorn", fn := fun _ => fun
  | [d1, d2, d3, d4] => { results := [.lit (.bool true)], args := [d1, d2, d3, d4] }
  | _ => none }
def fnManifestTornRow : OpenClaim := { program := "ytkjgkjmaoebeoaadoor", sum := "fd815e4681082ab4e9249fd824fd13279dfe9ba8e92c159bf33bb4fcbb794b64", func := "pub-clitter/laws.FnManifestTorn", spec := "fnManifestTorn", inPlace := ["internal/reflectlite.ValueOf", "internal/reflectlite.Swapper", "(internal/reflectlite.Value).Len"], unfollowed := true, recurses := true, named := ["pub-clitter/pub/badger/zz.ErrExist", "pub-clitter/pub/badger/zz.ErrNotExist", "pub-clitter/pub/badger.errBadMagic", "io.EOF", "io.ErrUnexpectedEOF", "pub-clitter/pub/badger.errBadChecksum", "io.ErrShortBuffer", "encoding/binary.BigEndian", "pub-clitter/pub/badger/pb.errWire"], apart := false, laid := [("io.ErrShortBuffer", laid_io_ErrShortBuffer), ("io.EOF", laid_io_EOF), ("io.ErrUnexpectedEOF", laid_io_ErrUnexpectedEOF), ("pub-clitter/pub/badger/zz.ErrNotExist", laid_pub_clitter_pub_badger_zz_ErrNotExist), ("pub-clitter/pub/badger/zz.ErrExist", laid_pub_clitter_pub_badger_zz_ErrExist), ("pub-clitter/pub/badger/pb.errWire", laid_pub_clitter_pub_badger_pb_errWire), ("pub-clitter/pub/badger.errBadMagic", laid_pub_clitter_pub_badger_errBadMagic), ("pub-clitter/pub/badger.errBadChecksum", laid_pub_clitter_pub_badger_errBadChecksum)] }
def FnManifestTornSaid : Prop := fnManifestTornRow.holds Tryd.pinned (OpenSpec.ofChange fnManifestTornSpec)

/-- ITS FALSE NEIGHBOUR: 'it returns false'. Refute it at one input. -/
def fnManifestTornWrong : ChangeSpec := { name := "fnManifestTorn", fn := fun _ => fun
  | [d1, d2, d3, d4] => { results := [.lit (.bool false)], args := [d1, d2, d3, d4] }
  | _ => none }
def FnManifestTornWrongFalsely : Prop := fnManifestTornRow.holds Tryd.pinned (OpenSpec.ofChange fnManifestTornWrong)

/- THE SECOND FORM. 'bulk': how many values and letters a reading holds, each counted each time it is reached (what is shared counts as often as it is met; a slice's spare places count too). A statement '..UptoSaid' is the law's where the arguments, and the package variables that the reading takes, are together of bulk at most 1048576: NARROWER than '..Said'. Prove '..Said' where nothing that the law and all that it calls make is longer than what came in: it says more and counts as full. Else prove '..UptoSaid'. A law counts once. -/
mutual
def uptoBulk {H : Type} : DataW H → Nat
  | .lit (.string bytes) => bytes.length + 1
  | .lit _ => 1
  | .nil => 1
  | .ptr d => uptoBulk d + 1
  | .slice elems spare => uptoBulkAll elems + uptoBulkAll spare + 1
  | .agg parts => uptoBulkAll parts + 1
  | .iface _ d => uptoBulk d + 1
  | .map entries => uptoBulkEntries entries + 1
  | .held _ => 1
def uptoBulkAll {H : Type} : List (DataW H) → Nat
  | [] => 0
  | d :: r => uptoBulk d + uptoBulkAll r
def uptoBulkEntries {H : Type} : List (Lit × DataW H) → Nat
  | [] => 0
  | x :: r => uptoBulkEntry x + uptoBulkEntries r
def uptoBulkEntry {H : Type} : Lit × DataW H → Nat
  | (.string bytes, d) => bytes.length + uptoBulk d + 1
  | (_, d) => uptoBulk d + 1
 end
def uptoSmall : (H : Type) → List (DataW H) → Bool := fun _ ds => decide (uptoBulkAll ds ≤ 1048576)
def OpenSpec.upto (s : _root_.Go.ChangeSpec) : _root_.Go.OpenSpec := { _root_.Go.OpenSpec.ofChange s with cond := some uptoSmall }

/-- 'laws.FnManifestRead', WHERE WHAT IT READS IS OF BULK AT MOST 1048576: true; the input reads as it did. -/
def fnManifestReadUptoRow : OpenClaim := { program := "ytkjgkjmaoebeoaadoor", sum := "fd815e4681082ab4e9249fd824fd13279dfe9ba8e92c159bf33bb4fcbb794b64", func := "pub-clitter/laws.FnManifestRead", spec := "fnManifestRead", inPlace := ["internal/reflectlite.ValueOf", "internal/reflectlite.Swapper", "(internal/reflectlite.Value).Len"], unfollowed := true, recurses := true, named := ["pub-clitter/pub/badger/zz.ErrExist", "pub-clitter/pub/badger/zz.ErrNotExist", "pub-clitter/pub/badger.errBadMagic", "io.EOF", "io.ErrUnexpectedEOF", "pub-clitter/pub/badger.errBadChecksum", "io.ErrShortBuffer", "encoding/binary.BigEndian", "pub-clitter/pub/badger/pb.errWire"], apart := false, laid := [("io.ErrShortBuffer", laid_io_ErrShortBuffer), ("io.EOF", laid_io_EOF), ("io.ErrUnexpectedEOF", laid_io_ErrUnexpectedEOF), ("pub-clitter/pub/badger/zz.ErrNotExist", laid_pub_clitter_pub_badger_zz_ErrNotExist), ("pub-clitter/pub/badger/zz.ErrExist", laid_pub_clitter_pub_badger_zz_ErrExist), ("pub-clitter/pub/badger/pb.errWire", laid_pub_clitter_pub_badger_pb_errWire), ("pub-clitter/pub/badger.errBadMagic", laid_pub_clitter_pub_badger_errBadMagic), ("pub-clitter/pub/badger.errBadChecksum", laid_pub_clitter_pub_badger_errBadChecksum)], narrowed := true }
def FnManifestReadUptoSaid : Prop := fnManifestReadUptoRow.holds Tryd.pinned (OpenSpec.upto fnManifestReadSpec)

/-- 'laws.FnManifestTorn', WHERE WHAT IT READS IS OF BULK AT MOST 1048576: true; the input reads as it did. -/
def fnManifestTornUptoRow : OpenClaim := { program := "ytkjgkjmaoebeoaadoor", sum := "fd815e4681082ab4e9249fd824fd13279dfe9ba8e92c159bf33bb4fcbb794b64", func := "pub-clitter/laws.FnManifestTorn", spec := "fnManifestTorn", inPlace := ["internal/reflectlite.ValueOf", "internal/reflectlite.Swapper", "(internal/reflectlite.Value).Len"], unfollowed := true, recurses := true, named := ["pub-clitter/pub/badger/zz.ErrExist", "pub-clitter/pub/badger/zz.ErrNotExist", "pub-clitter/pub/badger.errBadMagic", "io.EOF", "io.ErrUnexpectedEOF", "pub-clitter/pub/badger.errBadChecksum", "io.ErrShortBuffer", "encoding/binary.BigEndian", "pub-clitter/pub/badger/pb.errWire"], apart := false, laid := [("io.ErrShortBuffer", laid_io_ErrShortBuffer), ("io.EOF", laid_io_EOF), ("io.ErrUnexpectedEOF", laid_io_ErrUnexpectedEOF), ("pub-clitter/pub/badger/zz.ErrNotExist", laid_pub_clitter_pub_badger_zz_ErrNotExist), ("pub-clitter/pub/badger/zz.ErrExist", laid_pub_clitter_pub_badger_zz_ErrExist), ("pub-clitter/pub/badger/pb.errWire", laid_pub_clitter_pub_badger_pb_errWire), ("pub-clitter/pub/badger.errBadMagic", laid_pub_clitter_pub_badger_errBadMagic), ("pub-clitter/pub/badger.errBadChecksum", laid_pub_clitter_pub_badger_errBadChecksum)], narrowed := true }
def FnManifestTornUptoSaid : Prop := fnManifestTornUptoRow.holds Tryd.pinned (OpenSpec.upto fnManifestTornSpec)

end Rows
end Go.Proofs.YtkjgkjmaoebeoaaDoor
