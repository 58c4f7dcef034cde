/-
  NARROWER THAN 'FOR EVERY INPUT', by the rows' own cells (each row's printed sentence says how): FnReadLog: laid · FnLogBack: laid · FnLogCut: laid · FnLogTorn: laid.
  DERIVED. THE GIVEN ROWS OF THIS SEAT. 4 by the template 'for every input the law returns true; each argument reads behind the call as it read before'; 0 by the template 'total and deterministic' (their statements: YtpndlcjilgcfkaaGreatDoorTotals.lean).
  GIVEN WITH THE SEED: the statements are not yours to turn. If you find one false, say at which input.
  Laid BY PROGRAM, IN A SANDBOX (cutbox-rows.mjs): the forced cells as the released guide's own fill.sh prints them over the translation ae0a3e98d2b43748… (all of the seat's roots in one cut). By AI agents, Wed Nov 11 2026. No macro, syntax, notation, axiom, sorry.
-/
import Derived.Test.YtpndlcjilgcfkaaGreatDoorChecked
import GoSem.Claim
import GoSem.ClaimJoined
import GoSem.ClaimMapViews
import Derived.JoinedTies
import Derived.KernelRfl
namespace Go.Proofs.YtpndlcjilgcfkaaGreatDoor
/- THE CELL 'sum', in the pinned program and in every row, IS THE sha256 OF THE DUMP (.gsa) THAT YtpndlcjilgcfkaaGreatDoorProg.lean LOADS. Nothing in Lean hashes anything: it is a label: what it is worth is what the hold of that sum in a sandbox is worth. -/
noncomputable def Tryz.pinned : Pinned := { name := "ytpndlcjilgcfkaagreatdoor", sum := "ae0a3e98d2b4374812de0d864befe15e2c93f5ea824460c6fbc3148174e3a251", checked := Tryz.checked }
namespace Rows
def none {H : Type} : Left H := { results := [], args := [] }

/- WHAT THE LISTED PACKAGE-LEVEL VARIABLES READ AS WHEN THE CALL BEGINS. Each datum BY PROGRAM (the guide's laid-datum.mjs) off the statement by which the dump's own 'gosem.cut.vars' lays the variable. In a bare row this is a premise. The card (YtpndlcjilgcfkaaGreatDoorCards.lean) ties it to the program's text. -/
def laid_math_bits_deBruijn32tab {H : Type} : DataW H := .agg [.lit (.int .u8 0), .lit (.int .u8 1), .lit (.int .u8 28), .lit (.int .u8 2), .lit (.int .u8 29), .lit (.int .u8 14), .lit (.int .u8 24), .lit (.int .u8 3), .lit (.int .u8 30), .lit (.int .u8 22), .lit (.int .u8 20), .lit (.int .u8 15), .lit (.int .u8 25), .lit (.int .u8 17), .lit (.int .u8 4), .lit (.int .u8 8), .lit (.int .u8 31), .lit (.int .u8 27), .lit (.int .u8 13), .lit (.int .u8 23), .lit (.int .u8 21), .lit (.int .u8 19), .lit (.int .u8 16), .lit (.int .u8 7), .lit (.int .u8 26), .lit (.int .u8 12), .lit (.int .u8 18), .lit (.int .u8 6), .lit (.int .u8 11), .lit (.int .u8 5), .lit (.int .u8 10), .lit (.int .u8 9)]
def laid_math_bits_deBruijn64tab {H : Type} : DataW H := .agg [.lit (.int .u8 0), .lit (.int .u8 1), .lit (.int .u8 56), .lit (.int .u8 2), .lit (.int .u8 57), .lit (.int .u8 49), .lit (.int .u8 28), .lit (.int .u8 3), .lit (.int .u8 61), .lit (.int .u8 58), .lit (.int .u8 42), .lit (.int .u8 50), .lit (.int .u8 38), .lit (.int .u8 29), .lit (.int .u8 17), .lit (.int .u8 4), .lit (.int .u8 62), .lit (.int .u8 47), .lit (.int .u8 59), .lit (.int .u8 36), .lit (.int .u8 45), .lit (.int .u8 43), .lit (.int .u8 51), .lit (.int .u8 22), .lit (.int .u8 53), .lit (.int .u8 39), .lit (.int .u8 33), .lit (.int .u8 30), .lit (.int .u8 24), .lit (.int .u8 18), .lit (.int .u8 12), .lit (.int .u8 5), .lit (.int .u8 63), .lit (.int .u8 55), .lit (.int .u8 48), .lit (.int .u8 27), .lit (.int .u8 60), .lit (.int .u8 41), .lit (.int .u8 37), .lit (.int .u8 16), .lit (.int .u8 46), .lit (.int .u8 35), .lit (.int .u8 44), .lit (.int .u8 21), .lit (.int .u8 52), .lit (.int .u8 32), .lit (.int .u8 23), .lit (.int .u8 11), .lit (.int .u8 54), .lit (.int .u8 26), .lit (.int .u8 40), .lit (.int .u8 15), .lit (.int .u8 34), .lit (.int .u8 20), .lit (.int .u8 31), .lit (.int .u8 10), .lit (.int .u8 25), .lit (.int .u8 14), .lit (.int .u8 19), .lit (.int .u8 9), .lit (.int .u8 13), .lit (.int .u8 8), .lit (.int .u8 7), .lit (.int .u8 6)]
def laid_internal_strconv_uint64pow10 {H : Type} : DataW H := .agg [.lit (.int .u64 1), .lit (.int .u64 10), .lit (.int .u64 100), .lit (.int .u64 1000), .lit (.int .u64 10000), .lit (.int .u64 100000), .lit (.int .u64 1000000), .lit (.int .u64 10000000), .lit (.int .u64 100000000), .lit (.int .u64 1000000000), .lit (.int .u64 10000000000), .lit (.int .u64 100000000000), .lit (.int .u64 1000000000000), .lit (.int .u64 10000000000000), .lit (.int .u64 100000000000000), .lit (.int .u64 1000000000000000), .lit (.int .u64 10000000000000000), .lit (.int .u64 100000000000000000), .lit (.int .u64 1000000000000000000), .lit (.int .u64 10000000000000000000)]
def laid_strconv_ErrRange {H : Type} : DataW H := .iface "*errors.errorString" (.ptr (.agg [.lit (.string [118, 97, 108, 117, 101, 32, 111, 117, 116, 32, 111, 102, 32, 114, 97, 110, 103, 101])]))
def laid_strconv_ErrSyntax {H : Type} : DataW H := .iface "*errors.errorString" (.ptr (.agg [.lit (.string [105, 110, 118, 97, 108, 105, 100, 32, 115, 121, 110, 116, 97, 120])]))
def laid_io_ErrShortBuffer {H : Type} : DataW H := .iface "*errors.errorString" (.ptr (.agg [.lit (.string [115, 104, 111, 114, 116, 32, 98, 117, 102, 102, 101, 114])]))
def laid_io_EOF {H : Type} : DataW H := .iface "*errors.errorString" (.ptr (.agg [.lit (.string [69, 79, 70])]))
def laid_io_ErrUnexpectedEOF {H : Type} : DataW H := .iface "*errors.errorString" (.ptr (.agg [.lit (.string [117, 110, 101, 120, 112, 101, 99, 116, 101, 100, 32, 69, 79, 70])]))
def laid_pub_clitter_pub_badger_zz_ErrNotExist {H : Type} : DataW H := .iface "*errors.errorString" (.ptr (.agg [.lit (.string [102, 105, 108, 101, 32, 100, 111, 101, 115, 32, 110, 111, 116, 32, 101, 120, 105, 115, 116])]))
def laid_pub_clitter_pub_badger_zz_ErrExist {H : Type} : DataW H := .iface "*errors.errorString" (.ptr (.agg [.lit (.string [102, 105, 108, 101, 32, 97, 108, 114, 101, 97, 100, 121, 32, 101, 120, 105, 115, 116, 115])]))
def laid_pub_clitter_pub_badger_zz_NewFile {H : Type} : DataW H := .iface "*errors.errorString" (.ptr (.agg [.lit (.string [67, 114, 101, 97, 116, 101, 32, 97, 32, 110, 101, 119, 32, 102, 105, 108, 101])]))
def laid_encoding_binary_errOverflow {H : Type} : DataW H := .iface "*errors.errorString" (.ptr (.agg [.lit (.string [98, 105, 110, 97, 114, 121, 58, 32, 118, 97, 114, 105, 110, 116, 32, 111, 118, 101, 114, 102, 108, 111, 119, 115, 32, 97, 32, 54, 52, 45, 98, 105, 116, 32, 105, 110, 116, 101, 103, 101, 114])]))
def laid_pub_clitter_pub_badger_errStop {H : Type} : DataW H := .iface "*errors.errorString" (.ptr (.agg [.lit (.string [83, 116, 111, 112, 32, 105, 116, 101, 114, 97, 116, 105, 111, 110])]))
def laid_pub_clitter_pub_badger_errTruncate {H : Type} : DataW H := .iface "*errors.errorString" (.ptr (.agg [.lit (.string [68, 111, 32, 116, 114, 117, 110, 99, 97, 116, 101])]))
def laid_bytes_ErrTooLarge {H : Type} : DataW H := .iface "*errors.errorString" (.ptr (.agg [.lit (.string [98, 121, 116, 101, 115, 46, 66, 117, 102, 102, 101, 114, 58, 32, 116, 111, 111, 32, 108, 97, 114, 103, 101])]))

/-- 'laws.FnReadLog': WHATEVER THE INPUT: true; the input reads as it did. -/
def fnReadLogSpec : ChangeSpec := { name := "fnReadLog", fn := fun _ => fun
  | [d] => { results := [.lit (.bool true)], args := [d] }
  | _ => none }
def fnReadLogRow : OpenClaim := { program := "ytpndlcjilgcfkaagreatdoor", sum := "ae0a3e98d2b4374812de0d864befe15e2c93f5ea824460c6fbc3148174e3a251", func := "pub-clitter/laws.FnReadLog", spec := "fnReadLog", unfollowed := true, recurses := true, named := ["pub-clitter/pub/badger/zz.NewFile", "pub-clitter/pub/badger/zz.ErrExist", "pub-clitter/pub/badger/zz.ErrNotExist", "encoding/binary.BigEndian", "io.EOF", "io.ErrUnexpectedEOF", "pub-clitter/pub/badger.errTruncate", "pub-clitter/pub/badger.errStop", "encoding/binary.errOverflow", "io.ErrShortBuffer", "strconv.ErrSyntax", "strconv.ErrRange", "internal/strconv.uint64pow10", "math/bits.deBruijn32tab", "math/bits.deBruijn64tab"], apart := false, laid := [("math/bits.deBruijn32tab", laid_math_bits_deBruijn32tab), ("math/bits.deBruijn64tab", laid_math_bits_deBruijn64tab), ("internal/strconv.uint64pow10", laid_internal_strconv_uint64pow10), ("strconv.ErrRange", laid_strconv_ErrRange), ("strconv.ErrSyntax", laid_strconv_ErrSyntax), ("io.ErrShortBuffer", laid_io_ErrShortBuffer), ("io.EOF", laid_io_EOF), ("io.ErrUnexpectedEOF", laid_io_ErrUnexpectedEOF), ("pub-clitter/pub/badger/zz.ErrNotExist", laid_pub_clitter_pub_badger_zz_ErrNotExist), ("pub-clitter/pub/badger/zz.ErrExist", laid_pub_clitter_pub_badger_zz_ErrExist), ("pub-clitter/pub/badger/zz.NewFile", laid_pub_clitter_pub_badger_zz_NewFile), ("encoding/binary.errOverflow", laid_encoding_binary_errOverflow), ("pub-clitter/pub/badger.errStop", laid_pub_clitter_pub_badger_errStop), ("pub-clitter/pub/badger.errTruncate", laid_pub_clitter_pub_badger_errTruncate)] }
def FnReadLogSaid : Prop := fnReadLogRow.holds Tryz.pinned (OpenSpec.ofChange fnReadLogSpec)

/-- ITS FALSE NEIGHBOUR: 'it returns false'. Refute it at one input. -/
def fnReadLogWrong : ChangeSpec := { name := "fnReadLog", fn := fun _ => fun
  | [d] => { results := [.lit (.bool false)], args := [d] }
  | _ => none }
def FnReadLogWrongFalsely : Prop := fnReadLogRow.holds Tryz.pinned (OpenSpec.ofChange fnReadLogWrong)

/-- 'laws.FnLogBack': WHATEVER THE INPUT: true; the input reads as it did. -/
def fnLogBackSpec : ChangeSpec := { name := "fnLogBack", fn := fun _ => fun
  | [d1, d2] => { results := [.lit (.bool true)], args := [d1, d2] }
  | _ => none }
def fnLogBackRow : OpenClaim := { program := "ytpndlcjilgcfkaagreatdoor", sum := "ae0a3e98d2b4374812de0d864befe15e2c93f5ea824460c6fbc3148174e3a251", func := "pub-clitter/laws.FnLogBack", spec := "fnLogBack", unfollowed := true, recurses := true, named := ["encoding/binary.BigEndian", "bytes.ErrTooLarge", "pub-clitter/pub/badger/zz.NewFile", "pub-clitter/pub/badger/zz.ErrExist", "pub-clitter/pub/badger/zz.ErrNotExist", "io.EOF", "io.ErrUnexpectedEOF", "pub-clitter/pub/badger.errTruncate", "pub-clitter/pub/badger.errStop", "encoding/binary.errOverflow", "io.ErrShortBuffer", "strconv.ErrSyntax", "strconv.ErrRange", "internal/strconv.uint64pow10", "math/bits.deBruijn32tab", "math/bits.deBruijn64tab"], apart := false, laid := [("math/bits.deBruijn32tab", laid_math_bits_deBruijn32tab), ("math/bits.deBruijn64tab", laid_math_bits_deBruijn64tab), ("internal/strconv.uint64pow10", laid_internal_strconv_uint64pow10), ("strconv.ErrRange", laid_strconv_ErrRange), ("strconv.ErrSyntax", laid_strconv_ErrSyntax), ("io.ErrShortBuffer", laid_io_ErrShortBuffer), ("io.EOF", laid_io_EOF), ("io.ErrUnexpectedEOF", laid_io_ErrUnexpectedEOF), ("pub-clitter/pub/badger/zz.ErrNotExist", laid_pub_clitter_pub_badger_zz_ErrNotExist), ("pub-clitter/pub/badger/zz.ErrExist", laid_pub_clitter_pub_badger_zz_ErrExist), ("pub-clitter/pub/badger/zz.NewFile", laid_pub_clitter_pub_badger_zz_NewFile), ("bytes.ErrTooLarge", laid_bytes_ErrTooLarge), ("encoding/binary.errOverflow", laid_encoding_binary_errOverflow), ("pub-clitter/pub/badger.errStop", laid_pub_clitter_pub_badger_errStop), ("pub-clitter/pub/badger.errTruncate", laid_pub_clitter_pub_badger_errTruncate)] }
def FnLogBackSaid : Prop := fnLogBackRow.holds Tryz.pinned (OpenSpec.ofChange fnLogBackSpec)

/-- ITS FALSE NEIGHBOUR: 'it returns false'. Refute it at one input. -/
def fnLogBackWrong : ChangeSpec := { name := "fnLogBack", fn := fun _ => fun
  | [d1, d2] => { results := [.lit (.bool false)], args := [d1, d2] }
  | _ => none }
def FnLogBackWrongFalsely : Prop := fnLogBackRow.holds Tryz.pinned (OpenSpec.ofChange fnLogBackWrong)

/-- 'laws.FnLogCut': WHATEVER THE INPUT: true; the input reads as it did. -/
def fnLogCutSpec : ChangeSpec := { name := "fnLogCut", fn := fun _ => fun
  | [d1, d2, d3] => { results := [.lit (.bool true)], args := [d1, d2, d3] }
  | _ => none }
def fnLogCutRow : OpenClaim := { program := "ytpndlcjilgcfkaagreatdoor", sum := "ae0a3e98d2b4374812de0d864befe15e2c93f5ea824460c6fbc3148174e3a251", func := "pub-clitter/laws.FnLogCut", spec := "fnLogCut", unfollowed := true, recurses := true, named := ["encoding/binary.BigEndian", "bytes.ErrTooLarge", "pub-clitter/pub/badger/zz.NewFile", "pub-clitter/pub/badger/zz.ErrExist", "pub-clitter/pub/badger/zz.ErrNotExist", "io.EOF", "io.ErrUnexpectedEOF", "pub-clitter/pub/badger.errTruncate", "pub-clitter/pub/badger.errStop", "encoding/binary.errOverflow", "io.ErrShortBuffer", "strconv.ErrSyntax", "strconv.ErrRange", "internal/strconv.uint64pow10", "math/bits.deBruijn32tab", "math/bits.deBruijn64tab"], apart := false, laid := [("math/bits.deBruijn32tab", laid_math_bits_deBruijn32tab), ("math/bits.deBruijn64tab", laid_math_bits_deBruijn64tab), ("internal/strconv.uint64pow10", laid_internal_strconv_uint64pow10), ("strconv.ErrRange", laid_strconv_ErrRange), ("strconv.ErrSyntax", laid_strconv_ErrSyntax), ("io.ErrShortBuffer", laid_io_ErrShortBuffer), ("io.EOF", laid_io_EOF), ("io.ErrUnexpectedEOF", laid_io_ErrUnexpectedEOF), ("pub-clitter/pub/badger/zz.ErrNotExist", laid_pub_clitter_pub_badger_zz_ErrNotExist), ("pub-clitter/pub/badger/zz.ErrExist", laid_pub_clitter_pub_badger_zz_ErrExist), ("pub-clitter/pub/badger/zz.NewFile", laid_pub_clitter_pub_badger_zz_NewFile), ("bytes.ErrTooLarge", laid_bytes_ErrTooLarge), ("encoding/binary.errOverflow", laid_encoding_binary_errOverflow), ("pub-clitter/pub/badger.errStop", laid_pub_clitter_pub_badger_errStop), ("pub-clitter/pub/badger.errTruncate", laid_pub_clitter_pub_badger_errTruncate)] }
def FnLogCutSaid : Prop := fnLogCutRow.holds Tryz.pinned (OpenSpec.ofChange fnLogCutSpec)

/-- ITS FALSE NEIGHBOUR: 'it returns false'. Refute it at one input. -/
def fnLogCutWrong : ChangeSpec := { name := "fnLogCut", fn := fun _ => fun
  | [d1, d2, d3] => { results := [.lit (.bool false)], args := [d1, d2, d3] }
  | _ => none }
def FnLogCutWrongFalsely : Prop := fnLogCutRow.holds Tryz.pinned (OpenSpec.ofChange fnLogCutWrong)

/-- 'laws.FnLogTorn': WHATEVER THE INPUT: true; the input reads as it did. -/
def fnLogTornSpec : ChangeSpec := { name := "fnLogTorn", fn := fun _ => fun
  | [d1, d2, d3] => { results := [.lit (.bool true)], args := [d1, d2, d3] }
  | _ => none }
def fnLogTornRow : OpenClaim := { program := "ytpndlcjilgcfkaagreatdoor", sum := "ae0a3e98d2b4374812de0d864befe15e2c93f5ea824460c6fbc3148174e3a251", func := "pub-clitter/laws.FnLogTorn", spec := "fnLogTorn", unfollowed := true, recurses := true, named := ["encoding/binary.BigEndian", "bytes.ErrTooLarge", "pub-clitter/pub/badger/zz.NewFile", "pub-clitter/pub/badger/zz.ErrExist", "pub-clitter/pub/badger/zz.ErrNotExist", "io.EOF", "io.ErrUnexpectedEOF", "pub-clitter/pub/badger.errTruncate", "pub-clitter/pub/badger.errStop", "encoding/binary.errOverflow", "io.ErrShortBuffer", "strconv.ErrSyntax", "strconv.ErrRange", "internal/strconv.uint64pow10", "math/bits.deBruijn32tab", "math/bits.deBruijn64tab"], apart := false, laid := [("math/bits.deBruijn32tab", laid_math_bits_deBruijn32tab), ("math/bits.deBruijn64tab", laid_math_bits_deBruijn64tab), ("internal/strconv.uint64pow10", laid_internal_strconv_uint64pow10), ("strconv.ErrRange", laid_strconv_ErrRange), ("strconv.ErrSyntax", laid_strconv_ErrSyntax), ("io.ErrShortBuffer", laid_io_ErrShortBuffer), ("io.EOF", laid_io_EOF), ("io.ErrUnexpectedEOF", laid_io_ErrUnexpectedEOF), ("pub-clitter/pub/badger/zz.ErrNotExist", laid_pub_clitter_pub_badger_zz_ErrNotExist), ("pub-clitter/pub/badger/zz.ErrExist", laid_pub_clitter_pub_badger_zz_ErrExist), ("pub-clitter/pub/badger/zz.NewFile", laid_pub_clitter_pub_badger_zz_NewFile), ("bytes.ErrTooLarge", laid_bytes_ErrTooLarge), ("encoding/binary.errOverflow", laid_encoding_binary_errOverflow), ("pub-clitter/pub/badger.errStop", laid_pub_clitter_pub_badger_errStop), ("pub-clitter/pub/badger.errTruncate", laid_pub_clitter_pub_badger_errTruncate)] }
def FnLogTornSaid : Prop := fnLogTornRow.holds Tryz.pinned (OpenSpec.ofChange fnLogTornSpec)

/-- ITS FALSE NEIGHBOUR: 'it returns false'. Refute it at one input. -/
def fnLogTornWrong : ChangeSpec := { name := "fnLogTorn", fn := fun _ => fun
  | [d1, d2, d3] => { results := [.lit (.bool false)], args := [d1, d2, d3] }
  | _ => none }
def FnLogTornWrongFalsely : Prop := fnLogTornRow.holds Tryz.pinned (OpenSpec.ofChange fnLogTornWrong)

/- THE SECOND FORM. 'bulk': how many values and letters a reading holds, each counted each time it is reached (what is shared counts as often as it is met; a slice's spare places count too). A statement '..UptoSaid' is the law's where the arguments, and the package variables that the reading takes, are together of bulk at most 1048576: NARROWER than '..Said'. Prove '..Said' where nothing that the law and all that it calls make is longer than what came in: it says more and counts as full. Else prove '..UptoSaid'. A law counts once. -/
mutual
def uptoBulk {H : Type} : DataW H → Nat
  | .lit (.string bytes) => bytes.length + 1
  | .lit _ => 1
  | .nil => 1
  | .ptr d => uptoBulk d + 1
  | .slice elems spare => uptoBulkAll elems + uptoBulkAll spare + 1
  | .agg parts => uptoBulkAll parts + 1
  | .iface _ d => uptoBulk d + 1
  | .map entries => uptoBulkEntries entries + 1
  | .held _ => 1
def uptoBulkAll {H : Type} : List (DataW H) → Nat
  | [] => 0
  | d :: r => uptoBulk d + uptoBulkAll r
def uptoBulkEntries {H : Type} : List (Lit × DataW H) → Nat
  | [] => 0
  | x :: r => uptoBulkEntry x + uptoBulkEntries r
def uptoBulkEntry {H : Type} : Lit × DataW H → Nat
  | (.string bytes, d) => bytes.length + uptoBulk d + 1
  | (_, d) => uptoBulk d + 1
 end
def uptoSmall : (H : Type) → List (DataW H) → Bool := fun _ ds => decide (uptoBulkAll ds ≤ 1048576)
def OpenSpec.upto (s : _root_.Go.ChangeSpec) : _root_.Go.OpenSpec := { _root_.Go.OpenSpec.ofChange s with cond := some uptoSmall }

/-- 'laws.FnReadLog', WHERE WHAT IT READS IS OF BULK AT MOST 1048576: true; the input reads as it did. -/
def fnReadLogUptoRow : OpenClaim := { program := "ytpndlcjilgcfkaagreatdoor", sum := "ae0a3e98d2b4374812de0d864befe15e2c93f5ea824460c6fbc3148174e3a251", func := "pub-clitter/laws.FnReadLog", spec := "fnReadLog", unfollowed := true, recurses := true, named := ["pub-clitter/pub/badger/zz.NewFile", "pub-clitter/pub/badger/zz.ErrExist", "pub-clitter/pub/badger/zz.ErrNotExist", "encoding/binary.BigEndian", "io.EOF", "io.ErrUnexpectedEOF", "pub-clitter/pub/badger.errTruncate", "pub-clitter/pub/badger.errStop", "encoding/binary.errOverflow", "io.ErrShortBuffer", "strconv.ErrSyntax", "strconv.ErrRange", "internal/strconv.uint64pow10", "math/bits.deBruijn32tab", "math/bits.deBruijn64tab"], apart := false, laid := [("math/bits.deBruijn32tab", laid_math_bits_deBruijn32tab), ("math/bits.deBruijn64tab", laid_math_bits_deBruijn64tab), ("internal/strconv.uint64pow10", laid_internal_strconv_uint64pow10), ("strconv.ErrRange", laid_strconv_ErrRange), ("strconv.ErrSyntax", laid_strconv_ErrSyntax), ("io.ErrShortBuffer", laid_io_ErrShortBuffer), ("io.EOF", laid_io_EOF), ("io.ErrUnexpectedEOF", laid_io_ErrUnexpectedEOF), ("pub-clitter/pub/badger/zz.ErrNotExist", laid_pub_clitter_pub_badger_zz_ErrNotExist), ("pub-clitter/pub/badger/zz.ErrExist", laid_pub_clitter_pub_badger_zz_ErrExist), ("pub-clitter/pub/badger/zz.NewFile", laid_pub_clitter_pub_badger_zz_NewFile), ("encoding/binary.errOverflow", laid_encoding_binary_errOverflow), ("pub-clitter/pub/badger.errStop", laid_pub_clitter_pub_badger_errStop), ("pub-clitter/pub/badger.errTruncate", laid_pub_clitter_pub_badger_errTruncate)], narrowed := true }
def FnReadLogUptoSaid : Prop := fnReadLogUptoRow.holds Tryz.pinned (OpenSpec.upto fnReadLogSpec)

/-- 'laws.FnLogBack', WHERE WHAT IT READS IS OF BULK AT MOST 1048576: true; the input reads as it did. -/
def fnLogBackUptoRow : OpenClaim := { program := "ytpndlcjilgcfkaagreatdoor", sum := "ae0a3e98d2b4374812de0d864befe15e2c93f5ea824460c6fbc3148174e3a251", func := "pub-clitter/laws.FnLogBack", spec := "fnLogBack", unfollowed := true, recurses := true, named := ["encoding/binary.BigEndian", "bytes.ErrTooLarge", "pub-clitter/pub/badger/zz.NewFile", "pub-clitter/pub/badger/zz.ErrExist", "pub-clitter/pub/badger/zz.ErrNotExist", "io.EOF", "io.ErrUnexpectedEOF", "pub-clitter/pub/badger.errTruncate", "pub-clitter/pub/badger.errStop", "encoding/binary.errOverflow", "io.ErrShortBuffer", "strconv.ErrSyntax", "strconv.ErrRange", "internal/strconv.uint64pow10", "math/bits.deBruijn32tab", "math/bits.deBruijn64tab"], apart := false, laid := [("math/bits.deBruijn32tab", laid_math_bits_deBruijn32tab), ("math/bits.deBruijn64tab", laid_math_bits_deBruijn64tab), ("internal/strconv.uint64pow10", laid_internal_strconv_uint64pow10), ("strconv.ErrRange", laid_strconv_ErrRange), ("strconv.ErrSyntax", laid_strconv_ErrSyntax), ("io.ErrShortBuffer", laid_io_ErrShortBuffer), ("io.EOF", laid_io_EOF), ("io.ErrUnexpectedEOF", laid_io_ErrUnexpectedEOF), ("pub-clitter/pub/badger/zz.ErrNotExist", laid_pub_clitter_pub_badger_zz_ErrNotExist), ("pub-clitter/pub/badger/zz.ErrExist", laid_pub_clitter_pub_badger_zz_ErrExist), ("pub-clitter/pub/badger/zz.NewFile", laid_pub_clitter_pub_badger_zz_NewFile), ("bytes.ErrTooLarge", laid_bytes_ErrTooLarge), ("encoding/binary.errOverflow", laid_encoding_binary_errOverflow), ("pub-clitter/pub/badger.errStop", laid_pub_clitter_pub_badger_errStop), ("pub-clitter/pub/badger.errTruncate", laid_pub_clitter_pub_badger_errTruncate)], narrowed := true }
def FnLogBackUptoSaid : Prop := fnLogBackUptoRow.holds Tryz.pinned (OpenSpec.upto fnLogBackSpec)

/-- 'laws.FnLogCut', WHERE WHAT IT READS IS OF BULK AT MOST 1048576: true; the input reads as it did. -/
def fnLogCutUptoRow : OpenClaim := { program := "ytpndlcjilgcfkaagreatdoor", sum := "ae0a3e98d2b4374812de0d864befe15e2c93f5ea824460c6fbc3148174e3a251", func := "pub-clitter/laws.FnLogCut", spec := "fnLogCut", unfollowed := true, recurses := true, named := ["encoding/binary.BigEndian", "bytes.ErrTooLarge", "pub-clitter/pub/badger/zz.NewFile", "pub-clitter/pub/badger/zz.ErrExist", "pub-clitter/pub/badger/zz.ErrNotExist", "io.EOF", "io.ErrUnexpectedEOF", "pub-clitter/pub/badger.errTruncate", "pub-clitter/pub/badger.errStop", "encoding/binary.errOverflow", "io.ErrShortBuffer", "strconv.ErrSyntax", "strconv.ErrRange", "internal/strconv.uint64pow10", "math/bits.deBruijn32tab", "math/bits.deBruijn64tab"], apart := false, laid := [("math/bits.deBruijn32tab", laid_math_bits_deBruijn32tab), ("math/bits.deBruijn64tab", laid_math_bits_deBruijn64tab), ("internal/strconv.uint64pow10", laid_internal_strconv_uint64pow10), ("strconv.ErrRange", laid_strconv_ErrRange), ("strconv.ErrSyntax", laid_strconv_ErrSyntax), ("io.ErrShortBuffer", laid_io_ErrShortBuffer), ("io.EOF", laid_io_EOF), ("io.ErrUnexpectedEOF", laid_io_ErrUnexpectedEOF), ("pub-clitter/pub/badger/zz.ErrNotExist", laid_pub_clitter_pub_badger_zz_ErrNotExist), ("pub-clitter/pub/badger/zz.ErrExist", laid_pub_clitter_pub_badger_zz_ErrExist), ("pub-clitter/pub/badger/zz.NewFile", laid_pub_clitter_pub_badger_zz_NewFile), ("bytes.ErrTooLarge", laid_bytes_ErrTooLarge), ("encoding/binary.errOverflow", laid_encoding_binary_errOverflow), ("pub-clitter/pub/badger.errStop", laid_pub_clitter_pub_badger_errStop), ("pub-clitter/pub/badger.errTruncate", laid_pub_clitter_pub_badger_errTruncate)], narrowed := true }
def FnLogCutUptoSaid : Prop := fnLogCutUptoRow.holds Tryz.pinned (OpenSpec.upto fnLogCutSpec)

/-- 'laws.FnLogTorn', WHERE WHAT IT READS IS OF BULK AT MOST 1048576: true; the input reads as it did. -/
def fnLogTornUptoRow : OpenClaim := { program := "ytpndlcjilgcfkaagreatdoor", sum := "ae0a3e98d2b4374812de0d864befe15e2c93f5ea824460c6fbc3148174e3a251", func := "pub-clitter/laws.FnLogTorn", spec := "fnLogTorn", unfollowed := true, recurses := true, named := ["encoding/binary.BigEndian", "bytes.ErrTooLarge", "pub-clitter/pub/badger/zz.NewFile", "pub-clitter/pub/badger/zz.ErrExist", "pub-clitter/pub/badger/zz.ErrNotExist", "io.EOF", "io.ErrUnexpectedEOF", "pub-clitter/pub/badger.errTruncate", "pub-clitter/pub/badger.errStop", "encoding/binary.errOverflow", "io.ErrShortBuffer", "strconv.ErrSyntax", "strconv.ErrRange", "internal/strconv.uint64pow10", "math/bits.deBruijn32tab", "math/bits.deBruijn64tab"], apart := false, laid := [("math/bits.deBruijn32tab", laid_math_bits_deBruijn32tab), ("math/bits.deBruijn64tab", laid_math_bits_deBruijn64tab), ("internal/strconv.uint64pow10", laid_internal_strconv_uint64pow10), ("strconv.ErrRange", laid_strconv_ErrRange), ("strconv.ErrSyntax", laid_strconv_ErrSyntax), ("io.ErrShortBuffer", laid_io_ErrShortBuffer), ("io.EOF", laid_io_EOF), ("io.ErrUnexpectedEOF", laid_io_ErrUnexpectedEOF), ("pub-clitter/pub/badger/zz.ErrNotExist", laid_pub_clitter_pub_badger_zz_ErrNotExist), ("pub-clitter/pub/badger/zz.ErrExist", laid_pub_clitter_pub_badger_zz_ErrExist), ("pub-clitter/pub/badger/zz.NewFile", laid_pub_clitter_pub_badger_zz_NewFile), ("bytes.ErrTooLarge", laid_bytes_ErrTooLarge), ("encoding/binary.errOverflow", laid_encoding_binary_errOverflow), ("pub-clitter/pub/badger.errStop", laid_pub_clitter_pub_badger_errStop), ("pub-clitter/pub/badger.errTruncate", laid_pub_clitter_pub_badger_errTruncate)], narrowed := true }
def FnLogTornUptoSaid : Prop := fnLogTornUptoRow.holds Tryz.pinned (OpenSpec.upto fnLogTornSpec)

end Rows
end Go.Proofs.YtpndlcjilgcfkaaGreatDoor
