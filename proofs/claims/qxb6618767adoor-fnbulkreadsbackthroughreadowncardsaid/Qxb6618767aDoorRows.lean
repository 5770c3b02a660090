/-
  NARROWER THAN 'FOR EVERY INPUT', by the rows' own cells (each row's printed sentence says how): FnBulkReadsBackThroughReadOwn: laid · FnBulkRepliesJoinAndMeasure: laid · FnNilArrayAgreesWithArrayMinusOne: laid · FnNilArrayReadsAsCountMinusOneAndNoOther: laid.
  DERIVED. THE GIVEN ROWS OF THIS SEAT. 4 by the template 'for every input the law returns true; each argument reads behind the call as it read before'; 0 by the template 'total and deterministic' (their statements: Qxb6618767aDoorTotals.lean).
  GIVEN WITH THE SEED: the statements are not yours to turn. If you find one false, say at which input.
  Laid BY PROGRAM, IN A SANDBOX (cutbox-rows.mjs): the forced cells as the released guide's own fill.sh prints them over the translation a532e3a9fd9a2708… (all of the seat's roots in one cut). By AI agents, Wed Nov 11 2026. No macro, syntax, notation, axiom, sorry.
-/
import Derived.Test.Qxb6618767aDoorChecked
import GoSem.Claim
import GoSem.ClaimJoined
import GoSem.ClaimMapViews
import Derived.JoinedTies
import Derived.KernelRfl
namespace Go.Proofs.Qxb6618767aDoor
/- THE CELL 'sum', in the pinned program and in every row, IS THE sha256 OF THE DUMP (.gsa) THAT Qxb6618767aDoorProg.lean LOADS. Nothing in Lean hashes anything: it is a label: what it is worth is what the hold of that sum in a sandbox is worth. -/
noncomputable def Tryd.pinned : Pinned := { name := "qxb6618767adoor", sum := "a532e3a9fd9a270853b75799b1aadd29c97c8f427025642e06f1369918915a5f", checked := Tryd.checked }
namespace Rows
def none {H : Type} : Left H := { results := [], args := [] }

/- WHAT THE LISTED PACKAGE-LEVEL VARIABLES READ AS WHEN THE CALL BEGINS. Each datum BY PROGRAM (the guide's laid-datum.mjs) off the statement by which the dump's own 'gosem.cut.vars' lays the variable. In a bare row this is a premise. The card (Qxb6618767aDoorCards.lean) ties it to the program's text. -/
def laid_math_bits_deBruijn32tab {H : Type} : DataW H := .agg [.lit (.int .u8 0), .lit (.int .u8 1), .lit (.int .u8 28), .lit (.int .u8 2), .lit (.int .u8 29), .lit (.int .u8 14), .lit (.int .u8 24), .lit (.int .u8 3), .lit (.int .u8 30), .lit (.int .u8 22), .lit (.int .u8 20), .lit (.int .u8 15), .lit (.int .u8 25), .lit (.int .u8 17), .lit (.int .u8 4), .lit (.int .u8 8), .lit (.int .u8 31), .lit (.int .u8 27), .lit (.int .u8 13), .lit (.int .u8 23), .lit (.int .u8 21), .lit (.int .u8 19), .lit (.int .u8 16), .lit (.int .u8 7), .lit (.int .u8 26), .lit (.int .u8 12), .lit (.int .u8 18), .lit (.int .u8 6), .lit (.int .u8 11), .lit (.int .u8 5), .lit (.int .u8 10), .lit (.int .u8 9)]
def laid_math_bits_deBruijn64tab {H : Type} : DataW H := .agg [.lit (.int .u8 0), .lit (.int .u8 1), .lit (.int .u8 56), .lit (.int .u8 2), .lit (.int .u8 57), .lit (.int .u8 49), .lit (.int .u8 28), .lit (.int .u8 3), .lit (.int .u8 61), .lit (.int .u8 58), .lit (.int .u8 42), .lit (.int .u8 50), .lit (.int .u8 38), .lit (.int .u8 29), .lit (.int .u8 17), .lit (.int .u8 4), .lit (.int .u8 62), .lit (.int .u8 47), .lit (.int .u8 59), .lit (.int .u8 36), .lit (.int .u8 45), .lit (.int .u8 43), .lit (.int .u8 51), .lit (.int .u8 22), .lit (.int .u8 53), .lit (.int .u8 39), .lit (.int .u8 33), .lit (.int .u8 30), .lit (.int .u8 24), .lit (.int .u8 18), .lit (.int .u8 12), .lit (.int .u8 5), .lit (.int .u8 63), .lit (.int .u8 55), .lit (.int .u8 48), .lit (.int .u8 27), .lit (.int .u8 60), .lit (.int .u8 41), .lit (.int .u8 37), .lit (.int .u8 16), .lit (.int .u8 46), .lit (.int .u8 35), .lit (.int .u8 44), .lit (.int .u8 21), .lit (.int .u8 52), .lit (.int .u8 32), .lit (.int .u8 23), .lit (.int .u8 11), .lit (.int .u8 54), .lit (.int .u8 26), .lit (.int .u8 40), .lit (.int .u8 15), .lit (.int .u8 34), .lit (.int .u8 20), .lit (.int .u8 31), .lit (.int .u8 10), .lit (.int .u8 25), .lit (.int .u8 14), .lit (.int .u8 19), .lit (.int .u8 9), .lit (.int .u8 13), .lit (.int .u8 8), .lit (.int .u8 7), .lit (.int .u8 6)]
def laid_internal_strconv_uint64pow10 {H : Type} : DataW H := .agg [.lit (.int .u64 1), .lit (.int .u64 10), .lit (.int .u64 100), .lit (.int .u64 1000), .lit (.int .u64 10000), .lit (.int .u64 100000), .lit (.int .u64 1000000), .lit (.int .u64 10000000), .lit (.int .u64 100000000), .lit (.int .u64 1000000000), .lit (.int .u64 10000000000), .lit (.int .u64 100000000000), .lit (.int .u64 1000000000000), .lit (.int .u64 10000000000000), .lit (.int .u64 100000000000000), .lit (.int .u64 1000000000000000), .lit (.int .u64 10000000000000000), .lit (.int .u64 100000000000000000), .lit (.int .u64 1000000000000000000), .lit (.int .u64 10000000000000000000)]
def laid_io_ErrShortWrite {H : Type} : DataW H := .iface "*errors.errorString" (.ptr (.agg [.lit (.string [115, 104, 111, 114, 116, 32, 119, 114, 105, 116, 101])]))
def laid_io_ErrShortBuffer {H : Type} : DataW H := .iface "*errors.errorString" (.ptr (.agg [.lit (.string [115, 104, 111, 114, 116, 32, 98, 117, 102, 102, 101, 114])]))
def laid_io_EOF {H : Type} : DataW H := .iface "*errors.errorString" (.ptr (.agg [.lit (.string [69, 79, 70])]))
def laid_io_ErrUnexpectedEOF {H : Type} : DataW H := .iface "*errors.errorString" (.ptr (.agg [.lit (.string [117, 110, 101, 120, 112, 101, 99, 116, 101, 100, 32, 69, 79, 70])]))

/-- 'zzlaws_resp_b1.FnBulkReadsBackThroughReadOwn': WHATEVER THE INPUT: true; the input reads as it did. -/
def fnBulkReadsBackThroughReadOwnSpec : ChangeSpec := { name := "fnBulkReadsBackThroughReadOwn", fn := fun _ => fun
  | [d] => { results := [.lit (.bool true)], args := [d] }
  | _ => none }
def fnBulkReadsBackThroughReadOwnRow : OpenClaim := { program := "qxb6618767adoor", sum := "a532e3a9fd9a270853b75799b1aadd29c97c8f427025642e06f1369918915a5f", func := "example.com/sealstone/sealstone/zzlaws_resp_b1.FnBulkReadsBackThroughReadOwn", spec := "fnBulkReadsBackThroughReadOwn", unfollowed := true, recurses := true, named := ["io.ErrShortWrite", "internal/strconv.uint64pow10", "math/bits.deBruijn32tab", "math/bits.deBruijn64tab", "io.ErrShortBuffer", "io.EOF", "io.ErrUnexpectedEOF"], apart := false, laid := [("math/bits.deBruijn32tab", laid_math_bits_deBruijn32tab), ("math/bits.deBruijn64tab", laid_math_bits_deBruijn64tab), ("internal/strconv.uint64pow10", laid_internal_strconv_uint64pow10), ("io.ErrShortWrite", laid_io_ErrShortWrite), ("io.ErrShortBuffer", laid_io_ErrShortBuffer), ("io.EOF", laid_io_EOF), ("io.ErrUnexpectedEOF", laid_io_ErrUnexpectedEOF)] }
def FnBulkReadsBackThroughReadOwnSaid : Prop := fnBulkReadsBackThroughReadOwnRow.holds Tryd.pinned (OpenSpec.ofChange fnBulkReadsBackThroughReadOwnSpec)

/-- ITS FALSE NEIGHBOUR: 'it returns false'. Refute it at one input. -/
def fnBulkReadsBackThroughReadOwnWrong : ChangeSpec := { name := "fnBulkReadsBackThroughReadOwn", fn := fun _ => fun
  | [d] => { results := [.lit (.bool false)], args := [d] }
  | _ => none }
def FnBulkReadsBackThroughReadOwnWrongFalsely : Prop := fnBulkReadsBackThroughReadOwnRow.holds Tryd.pinned (OpenSpec.ofChange fnBulkReadsBackThroughReadOwnWrong)

/-- 'zzlaws_resp_b1.FnBulkRepliesJoinAndMeasure': WHATEVER THE INPUT: true; the input reads as it did. -/
def fnBulkRepliesJoinAndMeasureSpec : ChangeSpec := { name := "fnBulkRepliesJoinAndMeasure", fn := fun _ => fun
  | [d1, d2] => { results := [.lit (.bool true)], args := [d1, d2] }
  | _ => none }
def fnBulkRepliesJoinAndMeasureRow : OpenClaim := { program := "qxb6618767adoor", sum := "a532e3a9fd9a270853b75799b1aadd29c97c8f427025642e06f1369918915a5f", func := "example.com/sealstone/sealstone/zzlaws_resp_b1.FnBulkRepliesJoinAndMeasure", spec := "fnBulkRepliesJoinAndMeasure", unfollowed := true, recurses := true, named := ["io.ErrShortWrite", "internal/strconv.uint64pow10", "math/bits.deBruijn32tab", "math/bits.deBruijn64tab"], apart := false, laid := [("math/bits.deBruijn32tab", laid_math_bits_deBruijn32tab), ("math/bits.deBruijn64tab", laid_math_bits_deBruijn64tab), ("internal/strconv.uint64pow10", laid_internal_strconv_uint64pow10), ("io.ErrShortWrite", laid_io_ErrShortWrite)] }
def FnBulkRepliesJoinAndMeasureSaid : Prop := fnBulkRepliesJoinAndMeasureRow.holds Tryd.pinned (OpenSpec.ofChange fnBulkRepliesJoinAndMeasureSpec)

/-- ITS FALSE NEIGHBOUR: 'it returns false'. Refute it at one input. -/
def fnBulkRepliesJoinAndMeasureWrong : ChangeSpec := { name := "fnBulkRepliesJoinAndMeasure", fn := fun _ => fun
  | [d1, d2] => { results := [.lit (.bool false)], args := [d1, d2] }
  | _ => none }
def FnBulkRepliesJoinAndMeasureWrongFalsely : Prop := fnBulkRepliesJoinAndMeasureRow.holds Tryd.pinned (OpenSpec.ofChange fnBulkRepliesJoinAndMeasureWrong)

/-- 'zzlaws_resp_b1.FnNilArrayAgreesWithArrayMinusOne': WHATEVER THE INPUT: true; the input reads as it did. -/
def fnNilArrayAgreesWithArrayMinusOneSpec : ChangeSpec := { name := "fnNilArrayAgreesWithArrayMinusOne", fn := fun _ => fun
  | [d] => { results := [.lit (.bool true)], args := [d] }
  | _ => none }
def fnNilArrayAgreesWithArrayMinusOneRow : OpenClaim := { program := "qxb6618767adoor", sum := "a532e3a9fd9a270853b75799b1aadd29c97c8f427025642e06f1369918915a5f", func := "example.com/sealstone/sealstone/zzlaws_resp_b1.FnNilArrayAgreesWithArrayMinusOne", spec := "fnNilArrayAgreesWithArrayMinusOne", unfollowed := true, recurses := true, named := ["io.ErrShortWrite", "internal/strconv.uint64pow10", "math/bits.deBruijn32tab", "math/bits.deBruijn64tab"], apart := false, laid := [("math/bits.deBruijn32tab", laid_math_bits_deBruijn32tab), ("math/bits.deBruijn64tab", laid_math_bits_deBruijn64tab), ("internal/strconv.uint64pow10", laid_internal_strconv_uint64pow10), ("io.ErrShortWrite", laid_io_ErrShortWrite)] }
def FnNilArrayAgreesWithArrayMinusOneSaid : Prop := fnNilArrayAgreesWithArrayMinusOneRow.holds Tryd.pinned (OpenSpec.ofChange fnNilArrayAgreesWithArrayMinusOneSpec)

/-- ITS FALSE NEIGHBOUR: 'it returns false'. Refute it at one input. -/
def fnNilArrayAgreesWithArrayMinusOneWrong : ChangeSpec := { name := "fnNilArrayAgreesWithArrayMinusOne", fn := fun _ => fun
  | [d] => { results := [.lit (.bool false)], args := [d] }
  | _ => none }
def FnNilArrayAgreesWithArrayMinusOneWrongFalsely : Prop := fnNilArrayAgreesWithArrayMinusOneRow.holds Tryd.pinned (OpenSpec.ofChange fnNilArrayAgreesWithArrayMinusOneWrong)

/-- 'zzlaws_resp_b1.FnNilArrayReadsAsCountMinusOneAndNoOther': WHATEVER THE INPUT: true; the input reads as it did. -/
def fnNilArrayReadsAsCountMinusOneAndNoOtherSpec : ChangeSpec := { name := "fnNilArrayReadsAsCountMinusOneAndNoOther", fn := fun _ => fun
  | [d] => { results := [.lit (.bool true)], args := [d] }
  | _ => none }
def fnNilArrayReadsAsCountMinusOneAndNoOtherRow : OpenClaim := { program := "qxb6618767adoor", sum := "a532e3a9fd9a270853b75799b1aadd29c97c8f427025642e06f1369918915a5f", func := "example.com/sealstone/sealstone/zzlaws_resp_b1.FnNilArrayReadsAsCountMinusOneAndNoOther", spec := "fnNilArrayReadsAsCountMinusOneAndNoOther", unfollowed := true, recurses := true, named := ["io.ErrShortWrite", "internal/strconv.uint64pow10", "math/bits.deBruijn32tab", "math/bits.deBruijn64tab"], apart := false, laid := [("math/bits.deBruijn32tab", laid_math_bits_deBruijn32tab), ("math/bits.deBruijn64tab", laid_math_bits_deBruijn64tab), ("internal/strconv.uint64pow10", laid_internal_strconv_uint64pow10), ("io.ErrShortWrite", laid_io_ErrShortWrite)] }
def FnNilArrayReadsAsCountMinusOneAndNoOtherSaid : Prop := fnNilArrayReadsAsCountMinusOneAndNoOtherRow.holds Tryd.pinned (OpenSpec.ofChange fnNilArrayReadsAsCountMinusOneAndNoOtherSpec)

/-- ITS FALSE NEIGHBOUR: 'it returns false'. Refute it at one input. -/
def fnNilArrayReadsAsCountMinusOneAndNoOtherWrong : ChangeSpec := { name := "fnNilArrayReadsAsCountMinusOneAndNoOther", fn := fun _ => fun
  | [d] => { results := [.lit (.bool false)], args := [d] }
  | _ => none }
def FnNilArrayReadsAsCountMinusOneAndNoOtherWrongFalsely : Prop := fnNilArrayReadsAsCountMinusOneAndNoOtherRow.holds Tryd.pinned (OpenSpec.ofChange fnNilArrayReadsAsCountMinusOneAndNoOtherWrong)

end Rows
end Go.Proofs.Qxb6618767aDoor
