/-
  NARROWER THAN 'FOR EVERY INPUT', by the rows' own cells (each row's printed sentence says how): FnSimpleStringRepliesConcatenate: laid · FnIntegerIsCanonicalDecimalAndAgreesWithArray: laid · FnIntegerNegationAndTimesTen: laid · FnCommandSplitsAtAnyCut: laid · FnCommandIsArrayOfBulksAndDecodesBack: laid · FnFlushDeliversExactlyWhatWasWritten: laid · FnFlushIsIdempotentAndIncremental: laid.
  DERIVED. THE GIVEN ROWS OF THIS SEAT. 7 by the template 'for every input the law returns true; each argument reads behind the call as it read before'; 0 by the template 'total and deterministic' (their statements: Qxb6616850aDoorTotals.lean).
  GIVEN WITH THE SEED: the statements are not yours to turn. If you find one false, say at which input.
  Laid BY PROGRAM, IN A SANDBOX (cutbox-rows.mjs): the forced cells as the released guide's own fill.sh prints them over the translation 20d746e2b1c432b7… (all of the seat's roots in one cut). By AI agents, Wed Nov 11 2026. No macro, syntax, notation, axiom, sorry.
-/
import Derived.Test.Qxb6616850aDoorChecked
import GoSem.Claim
import GoSem.ClaimJoined
import GoSem.ClaimMapViews
import Derived.JoinedTies
import Derived.KernelRfl
namespace Go.Proofs.Qxb6616850aDoor
/- THE CELL 'sum', in the pinned program and in every row, IS THE sha256 OF THE DUMP (.gsa) THAT Qxb6616850aDoorProg.lean LOADS. Nothing in Lean hashes anything: it is a label: what it is worth is what the hold of that sum in a sandbox is worth. -/
noncomputable def Tryd.pinned : Pinned := { name := "qxb6616850adoor", sum := "20d746e2b1c432b7f86e16803aa2814ce40e0ccf03a1e1eed42aaa9294d94b62", checked := Tryd.checked }
namespace Rows
def none {H : Type} : Left H := { results := [], args := [] }

/- WHAT THE LISTED PACKAGE-LEVEL VARIABLES READ AS WHEN THE CALL BEGINS. Each datum BY PROGRAM (the guide's laid-datum.mjs) off the statement by which the dump's own 'gosem.cut.vars' lays the variable. In a bare row this is a premise. The card (Qxb6616850aDoorCards.lean) ties it to the program's text. -/
def laid_io_ErrShortWrite {H : Type} : DataW H := .iface "*errors.errorString" (.ptr (.agg [.lit (.string [115, 104, 111, 114, 116, 32, 119, 114, 105, 116, 101])]))
def laid_math_bits_deBruijn32tab {H : Type} : DataW H := .agg [.lit (.int .u8 0), .lit (.int .u8 1), .lit (.int .u8 28), .lit (.int .u8 2), .lit (.int .u8 29), .lit (.int .u8 14), .lit (.int .u8 24), .lit (.int .u8 3), .lit (.int .u8 30), .lit (.int .u8 22), .lit (.int .u8 20), .lit (.int .u8 15), .lit (.int .u8 25), .lit (.int .u8 17), .lit (.int .u8 4), .lit (.int .u8 8), .lit (.int .u8 31), .lit (.int .u8 27), .lit (.int .u8 13), .lit (.int .u8 23), .lit (.int .u8 21), .lit (.int .u8 19), .lit (.int .u8 16), .lit (.int .u8 7), .lit (.int .u8 26), .lit (.int .u8 12), .lit (.int .u8 18), .lit (.int .u8 6), .lit (.int .u8 11), .lit (.int .u8 5), .lit (.int .u8 10), .lit (.int .u8 9)]
def laid_math_bits_deBruijn64tab {H : Type} : DataW H := .agg [.lit (.int .u8 0), .lit (.int .u8 1), .lit (.int .u8 56), .lit (.int .u8 2), .lit (.int .u8 57), .lit (.int .u8 49), .lit (.int .u8 28), .lit (.int .u8 3), .lit (.int .u8 61), .lit (.int .u8 58), .lit (.int .u8 42), .lit (.int .u8 50), .lit (.int .u8 38), .lit (.int .u8 29), .lit (.int .u8 17), .lit (.int .u8 4), .lit (.int .u8 62), .lit (.int .u8 47), .lit (.int .u8 59), .lit (.int .u8 36), .lit (.int .u8 45), .lit (.int .u8 43), .lit (.int .u8 51), .lit (.int .u8 22), .lit (.int .u8 53), .lit (.int .u8 39), .lit (.int .u8 33), .lit (.int .u8 30), .lit (.int .u8 24), .lit (.int .u8 18), .lit (.int .u8 12), .lit (.int .u8 5), .lit (.int .u8 63), .lit (.int .u8 55), .lit (.int .u8 48), .lit (.int .u8 27), .lit (.int .u8 60), .lit (.int .u8 41), .lit (.int .u8 37), .lit (.int .u8 16), .lit (.int .u8 46), .lit (.int .u8 35), .lit (.int .u8 44), .lit (.int .u8 21), .lit (.int .u8 52), .lit (.int .u8 32), .lit (.int .u8 23), .lit (.int .u8 11), .lit (.int .u8 54), .lit (.int .u8 26), .lit (.int .u8 40), .lit (.int .u8 15), .lit (.int .u8 34), .lit (.int .u8 20), .lit (.int .u8 31), .lit (.int .u8 10), .lit (.int .u8 25), .lit (.int .u8 14), .lit (.int .u8 19), .lit (.int .u8 9), .lit (.int .u8 13), .lit (.int .u8 8), .lit (.int .u8 7), .lit (.int .u8 6)]
def laid_internal_strconv_uint64pow10 {H : Type} : DataW H := .agg [.lit (.int .u64 1), .lit (.int .u64 10), .lit (.int .u64 100), .lit (.int .u64 1000), .lit (.int .u64 10000), .lit (.int .u64 100000), .lit (.int .u64 1000000), .lit (.int .u64 10000000), .lit (.int .u64 100000000), .lit (.int .u64 1000000000), .lit (.int .u64 10000000000), .lit (.int .u64 100000000000), .lit (.int .u64 1000000000000), .lit (.int .u64 10000000000000), .lit (.int .u64 100000000000000), .lit (.int .u64 1000000000000000), .lit (.int .u64 10000000000000000), .lit (.int .u64 100000000000000000), .lit (.int .u64 1000000000000000000), .lit (.int .u64 10000000000000000000)]

/-- 'zzlaws_internal_resp_b1.FnSimpleStringRepliesConcatenate': WHATEVER THE INPUT: true; the input reads as it did. -/
def fnSimpleStringRepliesConcatenateSpec : ChangeSpec := { name := "fnSimpleStringRepliesConcatenate", fn := fun _ => fun
  | [d1, d2] => { results := [.lit (.bool true)], args := [d1, d2] }
  | _ => none }
def fnSimpleStringRepliesConcatenateRow : OpenClaim := { program := "qxb6616850adoor", sum := "20d746e2b1c432b7f86e16803aa2814ce40e0ccf03a1e1eed42aaa9294d94b62", func := "example.com/restitch/restitch/zzlaws_internal_resp_b1.FnSimpleStringRepliesConcatenate", spec := "fnSimpleStringRepliesConcatenate", unfollowed := true, recurses := true, named := ["io.ErrShortWrite"], apart := false, laid := [("io.ErrShortWrite", laid_io_ErrShortWrite)] }
def FnSimpleStringRepliesConcatenateSaid : Prop := fnSimpleStringRepliesConcatenateRow.holds Tryd.pinned (OpenSpec.ofChange fnSimpleStringRepliesConcatenateSpec)

/-- ITS FALSE NEIGHBOUR: 'it returns false'. Refute it at one input. -/
def fnSimpleStringRepliesConcatenateWrong : ChangeSpec := { name := "fnSimpleStringRepliesConcatenate", fn := fun _ => fun
  | [d1, d2] => { results := [.lit (.bool false)], args := [d1, d2] }
  | _ => none }
def FnSimpleStringRepliesConcatenateWrongFalsely : Prop := fnSimpleStringRepliesConcatenateRow.holds Tryd.pinned (OpenSpec.ofChange fnSimpleStringRepliesConcatenateWrong)

/-- 'zzlaws_internal_resp_b1.FnIntegerIsCanonicalDecimalAndAgreesWithArray': WHATEVER THE INPUT: true; the input reads as it did. -/
def fnIntegerIsCanonicalDecimalAndAgreesWithArraySpec : ChangeSpec := { name := "fnIntegerIsCanonicalDecimalAndAgreesWithArray", fn := fun _ => fun
  | [d] => { results := [.lit (.bool true)], args := [d] }
  | _ => none }
def fnIntegerIsCanonicalDecimalAndAgreesWithArrayRow : OpenClaim := { program := "qxb6616850adoor", sum := "20d746e2b1c432b7f86e16803aa2814ce40e0ccf03a1e1eed42aaa9294d94b62", func := "example.com/restitch/restitch/zzlaws_internal_resp_b1.FnIntegerIsCanonicalDecimalAndAgreesWithArray", spec := "fnIntegerIsCanonicalDecimalAndAgreesWithArray", unfollowed := true, recurses := true, named := ["internal/strconv.uint64pow10", "math/bits.deBruijn32tab", "math/bits.deBruijn64tab", "io.ErrShortWrite"], apart := false, laid := [("math/bits.deBruijn32tab", laid_math_bits_deBruijn32tab), ("math/bits.deBruijn64tab", laid_math_bits_deBruijn64tab), ("internal/strconv.uint64pow10", laid_internal_strconv_uint64pow10), ("io.ErrShortWrite", laid_io_ErrShortWrite)] }
def FnIntegerIsCanonicalDecimalAndAgreesWithArraySaid : Prop := fnIntegerIsCanonicalDecimalAndAgreesWithArrayRow.holds Tryd.pinned (OpenSpec.ofChange fnIntegerIsCanonicalDecimalAndAgreesWithArraySpec)

/-- ITS FALSE NEIGHBOUR: 'it returns false'. Refute it at one input. -/
def fnIntegerIsCanonicalDecimalAndAgreesWithArrayWrong : ChangeSpec := { name := "fnIntegerIsCanonicalDecimalAndAgreesWithArray", fn := fun _ => fun
  | [d] => { results := [.lit (.bool false)], args := [d] }
  | _ => none }
def FnIntegerIsCanonicalDecimalAndAgreesWithArrayWrongFalsely : Prop := fnIntegerIsCanonicalDecimalAndAgreesWithArrayRow.holds Tryd.pinned (OpenSpec.ofChange fnIntegerIsCanonicalDecimalAndAgreesWithArrayWrong)

/-- 'zzlaws_internal_resp_b1.FnIntegerNegationAndTimesTen': WHATEVER THE INPUT: true; the input reads as it did. -/
def fnIntegerNegationAndTimesTenSpec : ChangeSpec := { name := "fnIntegerNegationAndTimesTen", fn := fun _ => fun
  | [d] => { results := [.lit (.bool true)], args := [d] }
  | _ => none }
def fnIntegerNegationAndTimesTenRow : OpenClaim := { program := "qxb6616850adoor", sum := "20d746e2b1c432b7f86e16803aa2814ce40e0ccf03a1e1eed42aaa9294d94b62", func := "example.com/restitch/restitch/zzlaws_internal_resp_b1.FnIntegerNegationAndTimesTen", spec := "fnIntegerNegationAndTimesTen", unfollowed := true, recurses := true, named := ["internal/strconv.uint64pow10", "math/bits.deBruijn32tab", "math/bits.deBruijn64tab", "io.ErrShortWrite"], apart := false, laid := [("math/bits.deBruijn32tab", laid_math_bits_deBruijn32tab), ("math/bits.deBruijn64tab", laid_math_bits_deBruijn64tab), ("internal/strconv.uint64pow10", laid_internal_strconv_uint64pow10), ("io.ErrShortWrite", laid_io_ErrShortWrite)] }
def FnIntegerNegationAndTimesTenSaid : Prop := fnIntegerNegationAndTimesTenRow.holds Tryd.pinned (OpenSpec.ofChange fnIntegerNegationAndTimesTenSpec)

/-- ITS FALSE NEIGHBOUR: 'it returns false'. Refute it at one input. -/
def fnIntegerNegationAndTimesTenWrong : ChangeSpec := { name := "fnIntegerNegationAndTimesTen", fn := fun _ => fun
  | [d] => { results := [.lit (.bool false)], args := [d] }
  | _ => none }
def FnIntegerNegationAndTimesTenWrongFalsely : Prop := fnIntegerNegationAndTimesTenRow.holds Tryd.pinned (OpenSpec.ofChange fnIntegerNegationAndTimesTenWrong)

/-- 'zzlaws_internal_resp_b1.FnCommandSplitsAtAnyCut': WHATEVER THE INPUT: true; the input reads as it did. -/
def fnCommandSplitsAtAnyCutSpec : ChangeSpec := { name := "fnCommandSplitsAtAnyCut", fn := fun _ => fun
  | [d1, d2] => { results := [.lit (.bool true)], args := [d1, d2] }
  | _ => none }
def fnCommandSplitsAtAnyCutRow : OpenClaim := { program := "qxb6616850adoor", sum := "20d746e2b1c432b7f86e16803aa2814ce40e0ccf03a1e1eed42aaa9294d94b62", func := "example.com/restitch/restitch/zzlaws_internal_resp_b1.FnCommandSplitsAtAnyCut", spec := "fnCommandSplitsAtAnyCut", unfollowed := true, recurses := true, named := ["internal/strconv.uint64pow10", "math/bits.deBruijn32tab", "math/bits.deBruijn64tab", "io.ErrShortWrite"], apart := false, laid := [("math/bits.deBruijn32tab", laid_math_bits_deBruijn32tab), ("math/bits.deBruijn64tab", laid_math_bits_deBruijn64tab), ("internal/strconv.uint64pow10", laid_internal_strconv_uint64pow10), ("io.ErrShortWrite", laid_io_ErrShortWrite)] }
def FnCommandSplitsAtAnyCutSaid : Prop := fnCommandSplitsAtAnyCutRow.holds Tryd.pinned (OpenSpec.ofChange fnCommandSplitsAtAnyCutSpec)

/-- ITS FALSE NEIGHBOUR: 'it returns false'. Refute it at one input. -/
def fnCommandSplitsAtAnyCutWrong : ChangeSpec := { name := "fnCommandSplitsAtAnyCut", fn := fun _ => fun
  | [d1, d2] => { results := [.lit (.bool false)], args := [d1, d2] }
  | _ => none }
def FnCommandSplitsAtAnyCutWrongFalsely : Prop := fnCommandSplitsAtAnyCutRow.holds Tryd.pinned (OpenSpec.ofChange fnCommandSplitsAtAnyCutWrong)

/-- 'zzlaws_internal_resp_b1.FnCommandIsArrayOfBulksAndDecodesBack': WHATEVER THE INPUT: true; the input reads as it did. -/
def fnCommandIsArrayOfBulksAndDecodesBackSpec : ChangeSpec := { name := "fnCommandIsArrayOfBulksAndDecodesBack", fn := fun _ => fun
  | [d] => { results := [.lit (.bool true)], args := [d] }
  | _ => none }
def fnCommandIsArrayOfBulksAndDecodesBackRow : OpenClaim := { program := "qxb6616850adoor", sum := "20d746e2b1c432b7f86e16803aa2814ce40e0ccf03a1e1eed42aaa9294d94b62", func := "example.com/restitch/restitch/zzlaws_internal_resp_b1.FnCommandIsArrayOfBulksAndDecodesBack", spec := "fnCommandIsArrayOfBulksAndDecodesBack", unfollowed := true, recurses := true, named := ["internal/strconv.uint64pow10", "math/bits.deBruijn32tab", "math/bits.deBruijn64tab", "io.ErrShortWrite"], apart := false, laid := [("math/bits.deBruijn32tab", laid_math_bits_deBruijn32tab), ("math/bits.deBruijn64tab", laid_math_bits_deBruijn64tab), ("internal/strconv.uint64pow10", laid_internal_strconv_uint64pow10), ("io.ErrShortWrite", laid_io_ErrShortWrite)] }
def FnCommandIsArrayOfBulksAndDecodesBackSaid : Prop := fnCommandIsArrayOfBulksAndDecodesBackRow.holds Tryd.pinned (OpenSpec.ofChange fnCommandIsArrayOfBulksAndDecodesBackSpec)

/-- ITS FALSE NEIGHBOUR: 'it returns false'. Refute it at one input. -/
def fnCommandIsArrayOfBulksAndDecodesBackWrong : ChangeSpec := { name := "fnCommandIsArrayOfBulksAndDecodesBack", fn := fun _ => fun
  | [d] => { results := [.lit (.bool false)], args := [d] }
  | _ => none }
def FnCommandIsArrayOfBulksAndDecodesBackWrongFalsely : Prop := fnCommandIsArrayOfBulksAndDecodesBackRow.holds Tryd.pinned (OpenSpec.ofChange fnCommandIsArrayOfBulksAndDecodesBackWrong)

/-- 'zzlaws_internal_resp_b1.FnFlushDeliversExactlyWhatWasWritten': WHATEVER THE INPUT: true; the input reads as it did. -/
def fnFlushDeliversExactlyWhatWasWrittenSpec : ChangeSpec := { name := "fnFlushDeliversExactlyWhatWasWritten", fn := fun _ => fun
  | [d1, d2] => { results := [.lit (.bool true)], args := [d1, d2] }
  | _ => none }
def fnFlushDeliversExactlyWhatWasWrittenRow : OpenClaim := { program := "qxb6616850adoor", sum := "20d746e2b1c432b7f86e16803aa2814ce40e0ccf03a1e1eed42aaa9294d94b62", func := "example.com/restitch/restitch/zzlaws_internal_resp_b1.FnFlushDeliversExactlyWhatWasWritten", spec := "fnFlushDeliversExactlyWhatWasWritten", unfollowed := true, recurses := true, named := ["io.ErrShortWrite", "internal/strconv.uint64pow10", "math/bits.deBruijn32tab", "math/bits.deBruijn64tab"], apart := false, laid := [("math/bits.deBruijn32tab", laid_math_bits_deBruijn32tab), ("math/bits.deBruijn64tab", laid_math_bits_deBruijn64tab), ("internal/strconv.uint64pow10", laid_internal_strconv_uint64pow10), ("io.ErrShortWrite", laid_io_ErrShortWrite)] }
def FnFlushDeliversExactlyWhatWasWrittenSaid : Prop := fnFlushDeliversExactlyWhatWasWrittenRow.holds Tryd.pinned (OpenSpec.ofChange fnFlushDeliversExactlyWhatWasWrittenSpec)

/-- ITS FALSE NEIGHBOUR: 'it returns false'. Refute it at one input. -/
def fnFlushDeliversExactlyWhatWasWrittenWrong : ChangeSpec := { name := "fnFlushDeliversExactlyWhatWasWritten", fn := fun _ => fun
  | [d1, d2] => { results := [.lit (.bool false)], args := [d1, d2] }
  | _ => none }
def FnFlushDeliversExactlyWhatWasWrittenWrongFalsely : Prop := fnFlushDeliversExactlyWhatWasWrittenRow.holds Tryd.pinned (OpenSpec.ofChange fnFlushDeliversExactlyWhatWasWrittenWrong)

/-- 'zzlaws_internal_resp_b1.FnFlushIsIdempotentAndIncremental': WHATEVER THE INPUT: true; the input reads as it did. -/
def fnFlushIsIdempotentAndIncrementalSpec : ChangeSpec := { name := "fnFlushIsIdempotentAndIncremental", fn := fun _ => fun
  | [d1, d2] => { results := [.lit (.bool true)], args := [d1, d2] }
  | _ => none }
def fnFlushIsIdempotentAndIncrementalRow : OpenClaim := { program := "qxb6616850adoor", sum := "20d746e2b1c432b7f86e16803aa2814ce40e0ccf03a1e1eed42aaa9294d94b62", func := "example.com/restitch/restitch/zzlaws_internal_resp_b1.FnFlushIsIdempotentAndIncremental", spec := "fnFlushIsIdempotentAndIncremental", unfollowed := true, recurses := true, named := ["io.ErrShortWrite"], apart := false, laid := [("io.ErrShortWrite", laid_io_ErrShortWrite)] }
def FnFlushIsIdempotentAndIncrementalSaid : Prop := fnFlushIsIdempotentAndIncrementalRow.holds Tryd.pinned (OpenSpec.ofChange fnFlushIsIdempotentAndIncrementalSpec)

/-- ITS FALSE NEIGHBOUR: 'it returns false'. Refute it at one input. -/
def fnFlushIsIdempotentAndIncrementalWrong : ChangeSpec := { name := "fnFlushIsIdempotentAndIncremental", fn := fun _ => fun
  | [d1, d2] => { results := [.lit (.bool false)], args := [d1, d2] }
  | _ => none }
def FnFlushIsIdempotentAndIncrementalWrongFalsely : Prop := fnFlushIsIdempotentAndIncrementalRow.holds Tryd.pinned (OpenSpec.ofChange fnFlushIsIdempotentAndIncrementalWrong)

end Rows
end Go.Proofs.Qxb6616850aDoor
