/-
  NARROWER THAN 'FOR EVERY INPUT', by the rows' own cells (each row's printed sentence says how): FnRleThere: laid · FnDictionaryFloat32Read: loops, laid · FnDictionaryFloat64Between: loops, laid · FnLevelsThere: laid.
  DERIVED. THE GIVEN ROWS OF THIS SEAT. 4 by the template 'for every input the law returns true; each argument reads behind the call as it read before'; 0 by the template 'total and deterministic' (their statements: YtlolcgklcnechaaGreatDoorTotals.lean).
  GIVEN WITH THE SEED: the statements are not yours to turn. If you find one false, say at which input.
  Laid BY PROGRAM, IN A SANDBOX (cutbox-rows.mjs): the forced cells as the released guide's own fill.sh prints them over the translation d9662bdd245283b0… (all of the seat's roots in one cut). By AI agents, Wed Nov 11 2026. No macro, syntax, notation, axiom, sorry.
-/
import Derived.Test.YtlolcgklcnechaaGreatDoorChecked
import GoSem.Claim
import GoSem.ClaimJoined
import GoSem.ClaimMapViews
import Derived.JoinedTies
import Derived.KernelRfl
namespace Go.Proofs.YtlolcgklcnechaaGreatDoor
/- THE CELL 'sum', in the pinned program and in every row, IS THE sha256 OF THE DUMP (.gsa) THAT YtlolcgklcnechaaGreatDoorProg.lean LOADS. Nothing in Lean hashes anything: it is a label: what it is worth is what the hold of that sum in a sandbox is worth. -/
noncomputable def Tryz.pinned : Pinned := { name := "ytlolcgklcnechaagreatdoor", sum := "d9662bdd245283b0f976ba24d7f74d9d3ca39379af9769e2563ff0a47308dbf1", checked := Tryz.checked }
namespace Rows
def none {H : Type} : Left H := { results := [], args := [] }

/- WHAT THE LISTED PACKAGE-LEVEL VARIABLES READ AS WHEN THE CALL BEGINS. Each datum BY PROGRAM (the guide's laid-datum.mjs) off the statement by which the dump's own 'gosem.cut.vars' lays the variable. In a bare row this is a premise. The card (YtlolcgklcnechaaGreatDoorCards.lean) ties it to the program's text. -/
def laid_io_ErrShortBuffer {H : Type} : DataW H := .iface "*errors.errorString" (.ptr (.agg [.lit (.string [115, 104, 111, 114, 116, 32, 98, 117, 102, 102, 101, 114])]))
def laid_io_EOF {H : Type} : DataW H := .iface "*errors.errorString" (.ptr (.agg [.lit (.string [69, 79, 70])]))
def laid_io_ErrUnexpectedEOF {H : Type} : DataW H := .iface "*errors.errorString" (.ptr (.agg [.lit (.string [117, 110, 101, 120, 112, 101, 99, 116, 101, 100, 32, 69, 79, 70])]))
def laid_encoding_binary_errOverflow {H : Type} : DataW H := .iface "*errors.errorString" (.ptr (.agg [.lit (.string [98, 105, 110, 97, 114, 121, 58, 32, 118, 97, 114, 105, 110, 116, 32, 111, 118, 101, 114, 102, 108, 111, 119, 115, 32, 97, 32, 54, 52, 45, 98, 105, 116, 32, 105, 110, 116, 101, 103, 101, 114])]))
def laid_given_example_pub_arrowroot_pub_arrow_arrow_bitutil_BitMask {H : Type} : DataW H := .agg [.lit (.int .u8 1), .lit (.int .u8 2), .lit (.int .u8 4), .lit (.int .u8 8), .lit (.int .u8 16), .lit (.int .u8 32), .lit (.int .u8 64), .lit (.int .u8 128)]
def laid_given_example_pub_arrowroot_pub_arrow_arrow_bitutil_FlippedBitMask {H : Type} : DataW H := .agg [.lit (.int .u8 254), .lit (.int .u8 253), .lit (.int .u8 251), .lit (.int .u8 247), .lit (.int .u8 239), .lit (.int .u8 223), .lit (.int .u8 191), .lit (.int .u8 127)]
def laid_given_example_pub_arrowroot_pub_arrow_arrow_bitutil_PrecedingBitmask {H : Type} : DataW H := .agg [.lit (.int .u8 0), .lit (.int .u8 1), .lit (.int .u8 3), .lit (.int .u8 7), .lit (.int .u8 15), .lit (.int .u8 31), .lit (.int .u8 63), .lit (.int .u8 127)]
def laid_given_example_pub_arrowroot_pub_arrow_arrow_bitutil_TrailingBitmask {H : Type} : DataW H := .agg [.lit (.int .u8 255), .lit (.int .u8 254), .lit (.int .u8 252), .lit (.int .u8 248), .lit (.int .u8 240), .lit (.int .u8 224), .lit (.int .u8 192), .lit (.int .u8 128)]

/-- 'laws.FnRleThere': WHATEVER THE INPUT: true; the input reads as it did. -/
def fnRleThereSpec : ChangeSpec := { name := "fnRleThere", vars := ["given.example/pub-arrowroot/pub/arrow/arrow/bitutil.PrecedingBitmask", "given.example/pub-arrowroot/pub/arrow/arrow/bitutil.TrailingBitmask", "given.example/pub-arrowroot/pub/arrow/arrow/bitutil.BitMask", "given.example/pub-arrowroot/pub/arrow/arrow/bitutil.FlippedBitMask"], fn := fun _ => fun
  | [d1, d2, d3, g1, g2, g3, g4] => { results := [.lit (.bool true)], args := [d1, d2, d3], vars := [g1, g2, g3, g4] }
  | _ => none }
def fnRleThereRow : OpenClaim := { program := "ytlolcgklcnechaagreatdoor", sum := "d9662bdd245283b0f976ba24d7f74d9d3ca39379af9769e2563ff0a47308dbf1", func := "given.example/pub-arrowroot/laws.FnRleThere", spec := "fnRleThere", unfollowed := true, recurses := true, named := ["encoding/binary.LittleEndian", "io.ErrUnexpectedEOF", "io.EOF", "encoding/binary.errOverflow", "io.ErrShortBuffer", "given.example/pub-arrowroot/pub/arrow/arrow/bitutil.PrecedingBitmask", "given.example/pub-arrowroot/pub/arrow/arrow/bitutil.TrailingBitmask", "given.example/pub-arrowroot/pub/arrow/arrow/bitutil.BitMask", "given.example/pub-arrowroot/pub/arrow/arrow/bitutil.FlippedBitMask"], apart := false, laid := [("io.ErrShortBuffer", laid_io_ErrShortBuffer), ("io.EOF", laid_io_EOF), ("io.ErrUnexpectedEOF", laid_io_ErrUnexpectedEOF), ("encoding/binary.errOverflow", laid_encoding_binary_errOverflow), ("given.example/pub-arrowroot/pub/arrow/arrow/bitutil.BitMask", laid_given_example_pub_arrowroot_pub_arrow_arrow_bitutil_BitMask), ("given.example/pub-arrowroot/pub/arrow/arrow/bitutil.FlippedBitMask", laid_given_example_pub_arrowroot_pub_arrow_arrow_bitutil_FlippedBitMask), ("given.example/pub-arrowroot/pub/arrow/arrow/bitutil.PrecedingBitmask", laid_given_example_pub_arrowroot_pub_arrow_arrow_bitutil_PrecedingBitmask), ("given.example/pub-arrowroot/pub/arrow/arrow/bitutil.TrailingBitmask", laid_given_example_pub_arrowroot_pub_arrow_arrow_bitutil_TrailingBitmask)] }
def FnRleThereSaid : Prop := fnRleThereRow.holds Tryz.pinned (OpenSpec.ofChange fnRleThereSpec)

/-- ITS FALSE NEIGHBOUR: 'it returns false'. Refute it at one input. -/
def fnRleThereWrong : ChangeSpec := { name := "fnRleThere", vars := ["given.example/pub-arrowroot/pub/arrow/arrow/bitutil.PrecedingBitmask", "given.example/pub-arrowroot/pub/arrow/arrow/bitutil.TrailingBitmask", "given.example/pub-arrowroot/pub/arrow/arrow/bitutil.BitMask", "given.example/pub-arrowroot/pub/arrow/arrow/bitutil.FlippedBitMask"], fn := fun _ => fun
  | [d1, d2, d3, g1, g2, g3, g4] => { results := [.lit (.bool false)], args := [d1, d2, d3], vars := [g1, g2, g3, g4] }
  | _ => none }
def FnRleThereWrongFalsely : Prop := fnRleThereRow.holds Tryz.pinned (OpenSpec.ofChange fnRleThereWrong)

/-- 'laws.FnDictionaryFloat32Read': WHATEVER THE INPUT: true; the input reads as it did. -/
def fnDictionaryFloat32ReadSpec : ChangeSpec := { name := "fnDictionaryFloat32Read", fn := fun _ => fun
  | [d1, d2, d3, d4] => { results := [.lit (.bool true)], args := [d1, d2, d3, d4] }
  | _ => none }
def fnDictionaryFloat32ReadRow : OpenClaim := { program := "ytlolcgklcnechaagreatdoor", sum := "d9662bdd245283b0f976ba24d7f74d9d3ca39379af9769e2563ff0a47308dbf1", func := "given.example/pub-arrowroot/laws.FnDictionaryFloat32Read", spec := "fnDictionaryFloat32Read", inPlace := ["math.Float32bits", "math.Float64bits", "math.Float64frombits", "math.Float32frombits"], unfollowed := true, recurses := true, named := ["io.ErrUnexpectedEOF", "io.EOF", "encoding/binary.LittleEndian", "io.ErrShortBuffer", "encoding/binary.errOverflow"], loops := true, apart := false, laid := [("io.ErrShortBuffer", laid_io_ErrShortBuffer), ("io.EOF", laid_io_EOF), ("io.ErrUnexpectedEOF", laid_io_ErrUnexpectedEOF), ("encoding/binary.errOverflow", laid_encoding_binary_errOverflow)] }
def FnDictionaryFloat32ReadSaid : Prop := fnDictionaryFloat32ReadRow.holds Tryz.pinned (OpenSpec.ofChange fnDictionaryFloat32ReadSpec)

/-- ITS FALSE NEIGHBOUR: 'it returns false'. Refute it at one input. -/
def fnDictionaryFloat32ReadWrong : ChangeSpec := { name := "fnDictionaryFloat32Read", fn := fun _ => fun
  | [d1, d2, d3, d4] => { results := [.lit (.bool false)], args := [d1, d2, d3, d4] }
  | _ => none }
def FnDictionaryFloat32ReadWrongFalsely : Prop := fnDictionaryFloat32ReadRow.holds Tryz.pinned (OpenSpec.ofChange fnDictionaryFloat32ReadWrong)

/-- 'laws.FnDictionaryFloat64Between': WHATEVER THE INPUT: true; the input reads as it did. -/
def fnDictionaryFloat64BetweenSpec : ChangeSpec := { name := "fnDictionaryFloat64Between", vars := ["given.example/pub-arrowroot/pub/arrow/arrow/bitutil.BitMask", "given.example/pub-arrowroot/pub/arrow/arrow/bitutil.FlippedBitMask"], fn := fun _ => fun
  | [d1, d2, d3, d4, d5, d6, g1, g2] => { results := [.lit (.bool true)], args := [d1, d2, d3, d4, d5, d6], vars := [g1, g2] }
  | _ => none }
def fnDictionaryFloat64BetweenRow : OpenClaim := { program := "ytlolcgklcnechaagreatdoor", sum := "d9662bdd245283b0f976ba24d7f74d9d3ca39379af9769e2563ff0a47308dbf1", func := "given.example/pub-arrowroot/laws.FnDictionaryFloat64Between", spec := "fnDictionaryFloat64Between", inPlace := ["math.Float64bits", "math.Float64frombits", "math.Float32frombits"], unfollowed := true, recurses := true, named := ["io.ErrUnexpectedEOF", "io.EOF", "encoding/binary.LittleEndian", "io.ErrShortBuffer", "encoding/binary.errOverflow", "given.example/pub-arrowroot/pub/arrow/arrow/bitutil.BitMask", "given.example/pub-arrowroot/pub/arrow/arrow/bitutil.FlippedBitMask"], loops := true, apart := false, laid := [("io.ErrShortBuffer", laid_io_ErrShortBuffer), ("io.EOF", laid_io_EOF), ("io.ErrUnexpectedEOF", laid_io_ErrUnexpectedEOF), ("encoding/binary.errOverflow", laid_encoding_binary_errOverflow), ("given.example/pub-arrowroot/pub/arrow/arrow/bitutil.BitMask", laid_given_example_pub_arrowroot_pub_arrow_arrow_bitutil_BitMask), ("given.example/pub-arrowroot/pub/arrow/arrow/bitutil.FlippedBitMask", laid_given_example_pub_arrowroot_pub_arrow_arrow_bitutil_FlippedBitMask)] }
def FnDictionaryFloat64BetweenSaid : Prop := fnDictionaryFloat64BetweenRow.holds Tryz.pinned (OpenSpec.ofChange fnDictionaryFloat64BetweenSpec)

/-- ITS FALSE NEIGHBOUR: 'it returns false'. Refute it at one input. -/
def fnDictionaryFloat64BetweenWrong : ChangeSpec := { name := "fnDictionaryFloat64Between", vars := ["given.example/pub-arrowroot/pub/arrow/arrow/bitutil.BitMask", "given.example/pub-arrowroot/pub/arrow/arrow/bitutil.FlippedBitMask"], fn := fun _ => fun
  | [d1, d2, d3, d4, d5, d6, g1, g2] => { results := [.lit (.bool false)], args := [d1, d2, d3, d4, d5, d6], vars := [g1, g2] }
  | _ => none }
def FnDictionaryFloat64BetweenWrongFalsely : Prop := fnDictionaryFloat64BetweenRow.holds Tryz.pinned (OpenSpec.ofChange fnDictionaryFloat64BetweenWrong)

/-- 'laws.FnLevelsThere': WHATEVER THE INPUT: true; the input reads as it did. -/
def fnLevelsThereSpec : ChangeSpec := { name := "fnLevelsThere", fn := fun _ => fun
  | [d1, d2, d3] => { results := [.lit (.bool true)], args := [d1, d2, d3] }
  | _ => none }
def fnLevelsThereRow : OpenClaim := { program := "ytlolcgklcnechaagreatdoor", sum := "d9662bdd245283b0f976ba24d7f74d9d3ca39379af9769e2563ff0a47308dbf1", func := "given.example/pub-arrowroot/laws.FnLevelsThere", spec := "fnLevelsThere", unfollowed := true, recurses := true, named := ["encoding/binary.LittleEndian", "io.ErrUnexpectedEOF", "io.EOF", "io.ErrShortBuffer", "encoding/binary.errOverflow"], apart := false, laid := [("io.ErrShortBuffer", laid_io_ErrShortBuffer), ("io.EOF", laid_io_EOF), ("io.ErrUnexpectedEOF", laid_io_ErrUnexpectedEOF), ("encoding/binary.errOverflow", laid_encoding_binary_errOverflow)] }
def FnLevelsThereSaid : Prop := fnLevelsThereRow.holds Tryz.pinned (OpenSpec.ofChange fnLevelsThereSpec)

/-- ITS FALSE NEIGHBOUR: 'it returns false'. Refute it at one input. -/
def fnLevelsThereWrong : ChangeSpec := { name := "fnLevelsThere", fn := fun _ => fun
  | [d1, d2, d3] => { results := [.lit (.bool false)], args := [d1, d2, d3] }
  | _ => none }
def FnLevelsThereWrongFalsely : Prop := fnLevelsThereRow.holds Tryz.pinned (OpenSpec.ofChange fnLevelsThereWrong)

/- THE SECOND FORM. 'bulk': how many values and letters a reading holds, each counted each time it is reached (what is shared counts as often as it is met; a slice's spare places count too). A statement '..UptoSaid' is the law's where the arguments, and the package variables that the reading takes, are together of bulk at most 1048576: NARROWER than '..Said'. Prove '..Said' where nothing that the law and all that it calls make is longer than what came in: it says more and counts as full. Else prove '..UptoSaid'. A law counts once. -/
mutual
def uptoBulk {H : Type} : DataW H → Nat
  | .lit (.string bytes) => bytes.length + 1
  | .lit _ => 1
  | .nil => 1
  | .ptr d => uptoBulk d + 1
  | .slice elems spare => uptoBulkAll elems + uptoBulkAll spare + 1
  | .agg parts => uptoBulkAll parts + 1
  | .iface _ d => uptoBulk d + 1
  | .map entries => uptoBulkEntries entries + 1
  | .held _ => 1
def uptoBulkAll {H : Type} : List (DataW H) → Nat
  | [] => 0
  | d :: r => uptoBulk d + uptoBulkAll r
def uptoBulkEntries {H : Type} : List (Lit × DataW H) → Nat
  | [] => 0
  | x :: r => uptoBulkEntry x + uptoBulkEntries r
def uptoBulkEntry {H : Type} : Lit × DataW H → Nat
  | (.string bytes, d) => bytes.length + uptoBulk d + 1
  | (_, d) => uptoBulk d + 1
 end
def uptoSmall : (H : Type) → List (DataW H) → Bool := fun _ ds => decide (uptoBulkAll ds ≤ 1048576)
def OpenSpec.upto (s : _root_.Go.ChangeSpec) : _root_.Go.OpenSpec := { _root_.Go.OpenSpec.ofChange s with cond := some uptoSmall }

/-- 'laws.FnRleThere', WHERE WHAT IT READS IS OF BULK AT MOST 1048576: true; the input reads as it did. -/
def fnRleThereUptoRow : OpenClaim := { program := "ytlolcgklcnechaagreatdoor", sum := "d9662bdd245283b0f976ba24d7f74d9d3ca39379af9769e2563ff0a47308dbf1", func := "given.example/pub-arrowroot/laws.FnRleThere", spec := "fnRleThere", unfollowed := true, recurses := true, named := ["encoding/binary.LittleEndian", "io.ErrUnexpectedEOF", "io.EOF", "encoding/binary.errOverflow", "io.ErrShortBuffer", "given.example/pub-arrowroot/pub/arrow/arrow/bitutil.PrecedingBitmask", "given.example/pub-arrowroot/pub/arrow/arrow/bitutil.TrailingBitmask", "given.example/pub-arrowroot/pub/arrow/arrow/bitutil.BitMask", "given.example/pub-arrowroot/pub/arrow/arrow/bitutil.FlippedBitMask"], apart := false, laid := [("io.ErrShortBuffer", laid_io_ErrShortBuffer), ("io.EOF", laid_io_EOF), ("io.ErrUnexpectedEOF", laid_io_ErrUnexpectedEOF), ("encoding/binary.errOverflow", laid_encoding_binary_errOverflow), ("given.example/pub-arrowroot/pub/arrow/arrow/bitutil.BitMask", laid_given_example_pub_arrowroot_pub_arrow_arrow_bitutil_BitMask), ("given.example/pub-arrowroot/pub/arrow/arrow/bitutil.FlippedBitMask", laid_given_example_pub_arrowroot_pub_arrow_arrow_bitutil_FlippedBitMask), ("given.example/pub-arrowroot/pub/arrow/arrow/bitutil.PrecedingBitmask", laid_given_example_pub_arrowroot_pub_arrow_arrow_bitutil_PrecedingBitmask), ("given.example/pub-arrowroot/pub/arrow/arrow/bitutil.TrailingBitmask", laid_given_example_pub_arrowroot_pub_arrow_arrow_bitutil_TrailingBitmask)], narrowed := true }
def FnRleThereUptoSaid : Prop := fnRleThereUptoRow.holds Tryz.pinned (OpenSpec.upto fnRleThereSpec)

/-- 'laws.FnDictionaryFloat32Read', WHERE WHAT IT READS IS OF BULK AT MOST 1048576: true; the input reads as it did. -/
def fnDictionaryFloat32ReadUptoRow : OpenClaim := { program := "ytlolcgklcnechaagreatdoor", sum := "d9662bdd245283b0f976ba24d7f74d9d3ca39379af9769e2563ff0a47308dbf1", func := "given.example/pub-arrowroot/laws.FnDictionaryFloat32Read", spec := "fnDictionaryFloat32Read", inPlace := ["math.Float32bits", "math.Float64bits", "math.Float64frombits", "math.Float32frombits"], unfollowed := true, recurses := true, named := ["io.ErrUnexpectedEOF", "io.EOF", "encoding/binary.LittleEndian", "io.ErrShortBuffer", "encoding/binary.errOverflow"], loops := true, apart := false, laid := [("io.ErrShortBuffer", laid_io_ErrShortBuffer), ("io.EOF", laid_io_EOF), ("io.ErrUnexpectedEOF", laid_io_ErrUnexpectedEOF), ("encoding/binary.errOverflow", laid_encoding_binary_errOverflow)], narrowed := true }
def FnDictionaryFloat32ReadUptoSaid : Prop := fnDictionaryFloat32ReadUptoRow.holds Tryz.pinned (OpenSpec.upto fnDictionaryFloat32ReadSpec)

/-- 'laws.FnDictionaryFloat64Between', WHERE WHAT IT READS IS OF BULK AT MOST 1048576: true; the input reads as it did. -/
def fnDictionaryFloat64BetweenUptoRow : OpenClaim := { program := "ytlolcgklcnechaagreatdoor", sum := "d9662bdd245283b0f976ba24d7f74d9d3ca39379af9769e2563ff0a47308dbf1", func := "given.example/pub-arrowroot/laws.FnDictionaryFloat64Between", spec := "fnDictionaryFloat64Between", inPlace := ["math.Float64bits", "math.Float64frombits", "math.Float32frombits"], unfollowed := true, recurses := true, named := ["io.ErrUnexpectedEOF", "io.EOF", "encoding/binary.LittleEndian", "io.ErrShortBuffer", "encoding/binary.errOverflow", "given.example/pub-arrowroot/pub/arrow/arrow/bitutil.BitMask", "given.example/pub-arrowroot/pub/arrow/arrow/bitutil.FlippedBitMask"], loops := true, apart := false, laid := [("io.ErrShortBuffer", laid_io_ErrShortBuffer), ("io.EOF", laid_io_EOF), ("io.ErrUnexpectedEOF", laid_io_ErrUnexpectedEOF), ("encoding/binary.errOverflow", laid_encoding_binary_errOverflow), ("given.example/pub-arrowroot/pub/arrow/arrow/bitutil.BitMask", laid_given_example_pub_arrowroot_pub_arrow_arrow_bitutil_BitMask), ("given.example/pub-arrowroot/pub/arrow/arrow/bitutil.FlippedBitMask", laid_given_example_pub_arrowroot_pub_arrow_arrow_bitutil_FlippedBitMask)], narrowed := true }
def FnDictionaryFloat64BetweenUptoSaid : Prop := fnDictionaryFloat64BetweenUptoRow.holds Tryz.pinned (OpenSpec.upto fnDictionaryFloat64BetweenSpec)

/-- 'laws.FnLevelsThere', WHERE WHAT IT READS IS OF BULK AT MOST 1048576: true; the input reads as it did. -/
def fnLevelsThereUptoRow : OpenClaim := { program := "ytlolcgklcnechaagreatdoor", sum := "d9662bdd245283b0f976ba24d7f74d9d3ca39379af9769e2563ff0a47308dbf1", func := "given.example/pub-arrowroot/laws.FnLevelsThere", spec := "fnLevelsThere", unfollowed := true, recurses := true, named := ["encoding/binary.LittleEndian", "io.ErrUnexpectedEOF", "io.EOF", "io.ErrShortBuffer", "encoding/binary.errOverflow"], apart := false, laid := [("io.ErrShortBuffer", laid_io_ErrShortBuffer), ("io.EOF", laid_io_EOF), ("io.ErrUnexpectedEOF", laid_io_ErrUnexpectedEOF), ("encoding/binary.errOverflow", laid_encoding_binary_errOverflow)], narrowed := true }
def FnLevelsThereUptoSaid : Prop := fnLevelsThereUptoRow.holds Tryz.pinned (OpenSpec.upto fnLevelsThereSpec)

end Rows
end Go.Proofs.YtlolcgklcnechaaGreatDoor
