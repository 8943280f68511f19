/-
  NARROWER THAN 'FOR EVERY INPUT', by the rows' own cells (each row's printed sentence says how): FnLexAlone: laid · FnLexEnds: laid · FnLexJoins: laid · FnLooseSame: laid · FnLexSteps: laid · FnSplitKeeps: laid · FnBytesBack: laid.
  DERIVED. THE GIVEN ROWS OF THIS SEAT. 7 by the template 'for every input the law returns true; each argument reads behind the call as it read before'; 0 by the template 'total and deterministic' (their statements: YtngofbhlhcalpaaGreatDoorTotals.lean).
  GIVEN WITH THE SEED: the statements are not yours to turn. If you find one false, say at which input.
  Laid BY PROGRAM, IN A SANDBOX (cutbox-rows.mjs): the forced cells as the released guide's own fill.sh prints them over the translation 35fe6f2bf6b38e1b… (all of the seat's roots in one cut). By AI agents, Wed Nov 11 2026. No macro, syntax, notation, axiom, sorry.
-/
import Derived.Test.YtngofbhlhcalpaaGreatDoorChecked
import GoSem.PinnedTables
import GoSem.Claim
import GoSem.ClaimJoined
import GoSem.ClaimMapViews
import Derived.JoinedTies
import Derived.KernelRfl
namespace Go.Proofs.YtngofbhlhcalpaaGreatDoor
/- THE CELL 'sum', in the pinned program and in every row, IS THE sha256 OF THE DUMP (.gsa) THAT YtngofbhlhcalpaaGreatDoorProg.lean LOADS. Nothing in Lean hashes anything: it is a label: what it is worth is what the hold of that sum in a sandbox is worth. -/
noncomputable def Tryz.pinned : Pinned := { name := "ytngofbhlhcalpaagreatdoor", sum := "35fe6f2bf6b38e1b93923fca506e39887156e2be4d23cd27df67f1432c5935b0", checked := Tryz.checked }
namespace Rows
def none {H : Type} : Left H := { results := [], args := [] }

/- WHAT THE LISTED PACKAGE-LEVEL VARIABLES READ AS WHEN THE CALL BEGINS. Each datum BY PROGRAM (the guide's laid-datum.mjs) off the statement by which the dump's own 'gosem.cut.vars' lays the variable. In a bare row this is a premise. The card (YtngofbhlhcalpaaGreatDoorCards.lean) ties it to the program's text. -/
def laid_math_bits_deBruijn32tab {H : Type} : DataW H := .agg [.lit (.int .u8 0), .lit (.int .u8 1), .lit (.int .u8 28), .lit (.int .u8 2), .lit (.int .u8 29), .lit (.int .u8 14), .lit (.int .u8 24), .lit (.int .u8 3), .lit (.int .u8 30), .lit (.int .u8 22), .lit (.int .u8 20), .lit (.int .u8 15), .lit (.int .u8 25), .lit (.int .u8 17), .lit (.int .u8 4), .lit (.int .u8 8), .lit (.int .u8 31), .lit (.int .u8 27), .lit (.int .u8 13), .lit (.int .u8 23), .lit (.int .u8 21), .lit (.int .u8 19), .lit (.int .u8 16), .lit (.int .u8 7), .lit (.int .u8 26), .lit (.int .u8 12), .lit (.int .u8 18), .lit (.int .u8 6), .lit (.int .u8 11), .lit (.int .u8 5), .lit (.int .u8 10), .lit (.int .u8 9)]
def laid_math_bits_deBruijn64tab {H : Type} : DataW H := .agg [.lit (.int .u8 0), .lit (.int .u8 1), .lit (.int .u8 56), .lit (.int .u8 2), .lit (.int .u8 57), .lit (.int .u8 49), .lit (.int .u8 28), .lit (.int .u8 3), .lit (.int .u8 61), .lit (.int .u8 58), .lit (.int .u8 42), .lit (.int .u8 50), .lit (.int .u8 38), .lit (.int .u8 29), .lit (.int .u8 17), .lit (.int .u8 4), .lit (.int .u8 62), .lit (.int .u8 47), .lit (.int .u8 59), .lit (.int .u8 36), .lit (.int .u8 45), .lit (.int .u8 43), .lit (.int .u8 51), .lit (.int .u8 22), .lit (.int .u8 53), .lit (.int .u8 39), .lit (.int .u8 33), .lit (.int .u8 30), .lit (.int .u8 24), .lit (.int .u8 18), .lit (.int .u8 12), .lit (.int .u8 5), .lit (.int .u8 63), .lit (.int .u8 55), .lit (.int .u8 48), .lit (.int .u8 27), .lit (.int .u8 60), .lit (.int .u8 41), .lit (.int .u8 37), .lit (.int .u8 16), .lit (.int .u8 46), .lit (.int .u8 35), .lit (.int .u8 44), .lit (.int .u8 21), .lit (.int .u8 52), .lit (.int .u8 32), .lit (.int .u8 23), .lit (.int .u8 11), .lit (.int .u8 54), .lit (.int .u8 26), .lit (.int .u8 40), .lit (.int .u8 15), .lit (.int .u8 34), .lit (.int .u8 20), .lit (.int .u8 31), .lit (.int .u8 10), .lit (.int .u8 25), .lit (.int .u8 14), .lit (.int .u8 19), .lit (.int .u8 9), .lit (.int .u8 13), .lit (.int .u8 8), .lit (.int .u8 7), .lit (.int .u8 6)]
def laid_internal_strconv_uint64pow10 {H : Type} : DataW H := .agg [.lit (.int .u64 1), .lit (.int .u64 10), .lit (.int .u64 100), .lit (.int .u64 1000), .lit (.int .u64 10000), .lit (.int .u64 100000), .lit (.int .u64 1000000), .lit (.int .u64 10000000), .lit (.int .u64 100000000), .lit (.int .u64 1000000000), .lit (.int .u64 10000000000), .lit (.int .u64 100000000000), .lit (.int .u64 1000000000000), .lit (.int .u64 10000000000000), .lit (.int .u64 100000000000000), .lit (.int .u64 1000000000000000), .lit (.int .u64 10000000000000000), .lit (.int .u64 100000000000000000), .lit (.int .u64 1000000000000000000), .lit (.int .u64 10000000000000000000)]
def laid_unicode_utf8_acceptRanges {H : Type} : DataW H := .agg [.agg [.lit (.int .u8 128), .lit (.int .u8 191)], .agg [.lit (.int .u8 160), .lit (.int .u8 191)], .agg [.lit (.int .u8 128), .lit (.int .u8 159)], .agg [.lit (.int .u8 144), .lit (.int .u8 191)], .agg [.lit (.int .u8 128), .lit (.int .u8 143)], .agg [.lit (.int .u8 0), .lit (.int .u8 0)], .agg [.lit (.int .u8 0), .lit (.int .u8 0)], .agg [.lit (.int .u8 0), .lit (.int .u8 0)], .agg [.lit (.int .u8 0), .lit (.int .u8 0)], .agg [.lit (.int .u8 0), .lit (.int .u8 0)], .agg [.lit (.int .u8 0), .lit (.int .u8 0)], .agg [.lit (.int .u8 0), .lit (.int .u8 0)], .agg [.lit (.int .u8 0), .lit (.int .u8 0)], .agg [.lit (.int .u8 0), .lit (.int .u8 0)], .agg [.lit (.int .u8 0), .lit (.int .u8 0)], .agg [.lit (.int .u8 0), .lit (.int .u8 0)]]
def laid_errors_errorType {H : Type} : DataW H := .iface "internal/reflectlite.rtype" (.agg [.ptr (.lit (.string [101, 114, 114, 111, 114]))])
def laid_strconv_ErrRange {H : Type} : DataW H := .iface "*errors.errorString" (.ptr (.agg [.lit (.string [118, 97, 108, 117, 101, 32, 111, 117, 116, 32, 111, 102, 32, 114, 97, 110, 103, 101])]))
def laid_strconv_ErrSyntax {H : Type} : DataW H := .iface "*errors.errorString" (.ptr (.agg [.lit (.string [105, 110, 118, 97, 108, 105, 100, 32, 115, 121, 110, 116, 97, 120])]))
def laid_unicode_White_Space {H : Type} : DataW H := .ptr (.agg [.slice [.agg [.lit (.int .u16 9), .lit (.int .u16 13), .lit (.int .u16 1)], .agg [.lit (.int .u16 32), .lit (.int .u16 133), .lit (.int .u16 101)], .agg [.lit (.int .u16 160), .lit (.int .u16 5760), .lit (.int .u16 5600)], .agg [.lit (.int .u16 8192), .lit (.int .u16 8202), .lit (.int .u16 1)], .agg [.lit (.int .u16 8232), .lit (.int .u16 8233), .lit (.int .u16 1)], .agg [.lit (.int .u16 8239), .lit (.int .u16 8287), .lit (.int .u16 48)], .agg [.lit (.int .u16 12288), .lit (.int .u16 12288), .lit (.int .u16 1)]] [], .nil, .lit (.int .i64 2)])
def laid_bytes_ErrTooLarge {H : Type} : DataW H := .iface "*errors.errorString" (.ptr (.agg [.lit (.string [98, 121, 116, 101, 115, 46, 66, 117, 102, 102, 101, 114, 58, 32, 116, 111, 111, 32, 108, 97, 114, 103, 101])]))
/-- One of Go's own tables, pinned by name: the form's constant. -/
def laid_unicode_utf8_first : DataW Unit := Go.Pinned.utf8First

/-- 'laws.FnLexAlone': WHATEVER THE INPUT: true; the input reads as it did. -/
def fnLexAloneSpec : ChangeSpec := { name := "fnLexAlone", fn := fun _ => fun
  | [d] => { results := [.lit (.bool true)], args := [d] }
  | _ => none }
def fnLexAloneRow : OpenClaim := { program := "ytngofbhlhcalpaagreatdoor", sum := "35fe6f2bf6b38e1b93923fca506e39887156e2be4d23cd27df67f1432c5935b0", func := "pub-dabber/laws.FnLexAlone", spec := "fnLexAlone", inPlace := ["internal/abi.NoEscape", "internal/bytealg.MakeNoZero", "internal/reflectlite.ValueOf", "(internal/reflectlite.Value).Type", "(internal/reflectlite.Value).IsNil", "internal/reflectlite.TypeOf", "(internal/reflectlite.Value).Elem", "(internal/reflectlite.Value).Set"], unfollowed := true, recurses := true, named := ["unicode/utf8.first", "unicode/utf8.acceptRanges", "unicode.White_Space", "internal/strconv.uint64pow10", "math/bits.deBruijn32tab", "math/bits.deBruijn64tab", "bytes.ErrTooLarge", "strconv.ErrSyntax", "strconv.ErrRange", "errors.errorType"], apart := false, laid := [("math/bits.deBruijn32tab", laid_math_bits_deBruijn32tab), ("math/bits.deBruijn64tab", laid_math_bits_deBruijn64tab), ("internal/strconv.uint64pow10", laid_internal_strconv_uint64pow10), ("unicode/utf8.acceptRanges", laid_unicode_utf8_acceptRanges), ("errors.errorType", laid_errors_errorType), ("strconv.ErrRange", laid_strconv_ErrRange), ("strconv.ErrSyntax", laid_strconv_ErrSyntax), ("unicode.White_Space", laid_unicode_White_Space), ("bytes.ErrTooLarge", laid_bytes_ErrTooLarge), ("unicode/utf8.first", laid_unicode_utf8_first)] }
def FnLexAloneSaid : Prop := fnLexAloneRow.holds Tryz.pinned (OpenSpec.ofChange fnLexAloneSpec)

/-- ITS FALSE NEIGHBOUR: 'it returns false'. Refute it at one input. -/
def fnLexAloneWrong : ChangeSpec := { name := "fnLexAlone", fn := fun _ => fun
  | [d] => { results := [.lit (.bool false)], args := [d] }
  | _ => none }
def FnLexAloneWrongFalsely : Prop := fnLexAloneRow.holds Tryz.pinned (OpenSpec.ofChange fnLexAloneWrong)

/-- 'laws.FnLexEnds': WHATEVER THE INPUT: true; the input reads as it did. -/
def fnLexEndsSpec : ChangeSpec := { name := "fnLexEnds", fn := fun _ => fun
  | [d] => { results := [.lit (.bool true)], args := [d] }
  | _ => none }
def fnLexEndsRow : OpenClaim := { program := "ytngofbhlhcalpaagreatdoor", sum := "35fe6f2bf6b38e1b93923fca506e39887156e2be4d23cd27df67f1432c5935b0", func := "pub-dabber/laws.FnLexEnds", spec := "fnLexEnds", inPlace := ["internal/abi.NoEscape", "internal/bytealg.MakeNoZero", "internal/reflectlite.ValueOf", "(internal/reflectlite.Value).Type", "(internal/reflectlite.Value).IsNil", "internal/reflectlite.TypeOf", "(internal/reflectlite.Value).Elem", "(internal/reflectlite.Value).Set"], unfollowed := true, recurses := true, named := ["unicode/utf8.first", "unicode/utf8.acceptRanges", "unicode.White_Space", "internal/strconv.uint64pow10", "math/bits.deBruijn32tab", "math/bits.deBruijn64tab", "bytes.ErrTooLarge", "strconv.ErrSyntax", "strconv.ErrRange", "errors.errorType"], apart := false, laid := [("math/bits.deBruijn32tab", laid_math_bits_deBruijn32tab), ("math/bits.deBruijn64tab", laid_math_bits_deBruijn64tab), ("internal/strconv.uint64pow10", laid_internal_strconv_uint64pow10), ("unicode/utf8.acceptRanges", laid_unicode_utf8_acceptRanges), ("errors.errorType", laid_errors_errorType), ("strconv.ErrRange", laid_strconv_ErrRange), ("strconv.ErrSyntax", laid_strconv_ErrSyntax), ("unicode.White_Space", laid_unicode_White_Space), ("bytes.ErrTooLarge", laid_bytes_ErrTooLarge), ("unicode/utf8.first", laid_unicode_utf8_first)] }
def FnLexEndsSaid : Prop := fnLexEndsRow.holds Tryz.pinned (OpenSpec.ofChange fnLexEndsSpec)

/-- ITS FALSE NEIGHBOUR: 'it returns false'. Refute it at one input. -/
def fnLexEndsWrong : ChangeSpec := { name := "fnLexEnds", fn := fun _ => fun
  | [d] => { results := [.lit (.bool false)], args := [d] }
  | _ => none }
def FnLexEndsWrongFalsely : Prop := fnLexEndsRow.holds Tryz.pinned (OpenSpec.ofChange fnLexEndsWrong)

/-- 'laws.FnLexJoins': WHATEVER THE INPUT: true; the input reads as it did. -/
def fnLexJoinsSpec : ChangeSpec := { name := "fnLexJoins", fn := fun _ => fun
  | [d1, d2] => { results := [.lit (.bool true)], args := [d1, d2] }
  | _ => none }
def fnLexJoinsRow : OpenClaim := { program := "ytngofbhlhcalpaagreatdoor", sum := "35fe6f2bf6b38e1b93923fca506e39887156e2be4d23cd27df67f1432c5935b0", func := "pub-dabber/laws.FnLexJoins", spec := "fnLexJoins", inPlace := ["internal/abi.NoEscape", "internal/bytealg.MakeNoZero", "internal/reflectlite.ValueOf", "(internal/reflectlite.Value).Type", "(internal/reflectlite.Value).IsNil", "internal/reflectlite.TypeOf", "(internal/reflectlite.Value).Elem", "(internal/reflectlite.Value).Set"], unfollowed := true, recurses := true, named := ["unicode/utf8.first", "unicode/utf8.acceptRanges", "unicode.White_Space", "internal/strconv.uint64pow10", "math/bits.deBruijn32tab", "math/bits.deBruijn64tab", "bytes.ErrTooLarge", "strconv.ErrSyntax", "strconv.ErrRange", "errors.errorType"], apart := false, laid := [("math/bits.deBruijn32tab", laid_math_bits_deBruijn32tab), ("math/bits.deBruijn64tab", laid_math_bits_deBruijn64tab), ("internal/strconv.uint64pow10", laid_internal_strconv_uint64pow10), ("unicode/utf8.acceptRanges", laid_unicode_utf8_acceptRanges), ("errors.errorType", laid_errors_errorType), ("strconv.ErrRange", laid_strconv_ErrRange), ("strconv.ErrSyntax", laid_strconv_ErrSyntax), ("unicode.White_Space", laid_unicode_White_Space), ("bytes.ErrTooLarge", laid_bytes_ErrTooLarge), ("unicode/utf8.first", laid_unicode_utf8_first)] }
def FnLexJoinsSaid : Prop := fnLexJoinsRow.holds Tryz.pinned (OpenSpec.ofChange fnLexJoinsSpec)

/-- ITS FALSE NEIGHBOUR: 'it returns false'. Refute it at one input. -/
def fnLexJoinsWrong : ChangeSpec := { name := "fnLexJoins", fn := fun _ => fun
  | [d1, d2] => { results := [.lit (.bool false)], args := [d1, d2] }
  | _ => none }
def FnLexJoinsWrongFalsely : Prop := fnLexJoinsRow.holds Tryz.pinned (OpenSpec.ofChange fnLexJoinsWrong)

/-- 'laws.FnLooseSame': WHATEVER THE INPUT: true; the input reads as it did. -/
def fnLooseSameSpec : ChangeSpec := { name := "fnLooseSame", fn := fun _ => fun
  | [d] => { results := [.lit (.bool true)], args := [d] }
  | _ => none }
def fnLooseSameRow : OpenClaim := { program := "ytngofbhlhcalpaagreatdoor", sum := "35fe6f2bf6b38e1b93923fca506e39887156e2be4d23cd27df67f1432c5935b0", func := "pub-dabber/laws.FnLooseSame", spec := "fnLooseSame", inPlace := ["internal/abi.NoEscape", "internal/bytealg.MakeNoZero", "internal/reflectlite.ValueOf", "(internal/reflectlite.Value).Type", "(internal/reflectlite.Value).IsNil", "internal/reflectlite.TypeOf", "(internal/reflectlite.Value).Elem", "(internal/reflectlite.Value).Set"], unfollowed := true, recurses := true, named := ["unicode/utf8.first", "unicode/utf8.acceptRanges", "unicode.White_Space", "internal/strconv.uint64pow10", "math/bits.deBruijn32tab", "math/bits.deBruijn64tab", "bytes.ErrTooLarge", "strconv.ErrSyntax", "strconv.ErrRange", "errors.errorType"], apart := false, laid := [("math/bits.deBruijn32tab", laid_math_bits_deBruijn32tab), ("math/bits.deBruijn64tab", laid_math_bits_deBruijn64tab), ("internal/strconv.uint64pow10", laid_internal_strconv_uint64pow10), ("unicode/utf8.acceptRanges", laid_unicode_utf8_acceptRanges), ("errors.errorType", laid_errors_errorType), ("strconv.ErrRange", laid_strconv_ErrRange), ("strconv.ErrSyntax", laid_strconv_ErrSyntax), ("unicode.White_Space", laid_unicode_White_Space), ("bytes.ErrTooLarge", laid_bytes_ErrTooLarge), ("unicode/utf8.first", laid_unicode_utf8_first)] }
def FnLooseSameSaid : Prop := fnLooseSameRow.holds Tryz.pinned (OpenSpec.ofChange fnLooseSameSpec)

/-- ITS FALSE NEIGHBOUR: 'it returns false'. Refute it at one input. -/
def fnLooseSameWrong : ChangeSpec := { name := "fnLooseSame", fn := fun _ => fun
  | [d] => { results := [.lit (.bool false)], args := [d] }
  | _ => none }
def FnLooseSameWrongFalsely : Prop := fnLooseSameRow.holds Tryz.pinned (OpenSpec.ofChange fnLooseSameWrong)

/-- 'laws.FnLexSteps': WHATEVER THE INPUT: true; the input reads as it did. -/
def fnLexStepsSpec : ChangeSpec := { name := "fnLexSteps", fn := fun _ => fun
  | [d] => { results := [.lit (.bool true)], args := [d] }
  | _ => none }
def fnLexStepsRow : OpenClaim := { program := "ytngofbhlhcalpaagreatdoor", sum := "35fe6f2bf6b38e1b93923fca506e39887156e2be4d23cd27df67f1432c5935b0", func := "pub-dabber/laws.FnLexSteps", spec := "fnLexSteps", inPlace := ["internal/abi.NoEscape", "internal/bytealg.MakeNoZero", "internal/reflectlite.ValueOf", "(internal/reflectlite.Value).Type", "(internal/reflectlite.Value).IsNil", "internal/reflectlite.TypeOf", "(internal/reflectlite.Value).Elem", "(internal/reflectlite.Value).Set"], unfollowed := true, recurses := true, named := ["unicode/utf8.first", "unicode/utf8.acceptRanges", "unicode.White_Space", "internal/strconv.uint64pow10", "math/bits.deBruijn32tab", "math/bits.deBruijn64tab", "bytes.ErrTooLarge", "strconv.ErrSyntax", "strconv.ErrRange", "errors.errorType"], apart := false, laid := [("math/bits.deBruijn32tab", laid_math_bits_deBruijn32tab), ("math/bits.deBruijn64tab", laid_math_bits_deBruijn64tab), ("internal/strconv.uint64pow10", laid_internal_strconv_uint64pow10), ("unicode/utf8.acceptRanges", laid_unicode_utf8_acceptRanges), ("errors.errorType", laid_errors_errorType), ("strconv.ErrRange", laid_strconv_ErrRange), ("strconv.ErrSyntax", laid_strconv_ErrSyntax), ("unicode.White_Space", laid_unicode_White_Space), ("bytes.ErrTooLarge", laid_bytes_ErrTooLarge), ("unicode/utf8.first", laid_unicode_utf8_first)] }
def FnLexStepsSaid : Prop := fnLexStepsRow.holds Tryz.pinned (OpenSpec.ofChange fnLexStepsSpec)

/-- ITS FALSE NEIGHBOUR: 'it returns false'. Refute it at one input. -/
def fnLexStepsWrong : ChangeSpec := { name := "fnLexSteps", fn := fun _ => fun
  | [d] => { results := [.lit (.bool false)], args := [d] }
  | _ => none }
def FnLexStepsWrongFalsely : Prop := fnLexStepsRow.holds Tryz.pinned (OpenSpec.ofChange fnLexStepsWrong)

/-- 'laws.FnSplitKeeps': WHATEVER THE INPUT: true; the input reads as it did. -/
def fnSplitKeepsSpec : ChangeSpec := { name := "fnSplitKeeps", fn := fun _ => fun
  | [d] => { results := [.lit (.bool true)], args := [d] }
  | _ => none }
def fnSplitKeepsRow : OpenClaim := { program := "ytngofbhlhcalpaagreatdoor", sum := "35fe6f2bf6b38e1b93923fca506e39887156e2be4d23cd27df67f1432c5935b0", func := "pub-dabber/laws.FnSplitKeeps", spec := "fnSplitKeeps", inPlace := ["internal/abi.NoEscape", "internal/bytealg.MakeNoZero", "internal/reflectlite.ValueOf", "(internal/reflectlite.Value).Type", "(internal/reflectlite.Value).IsNil", "internal/reflectlite.TypeOf", "(internal/reflectlite.Value).Elem", "(internal/reflectlite.Value).Set"], unfollowed := true, recurses := true, named := ["unicode/utf8.first", "unicode/utf8.acceptRanges", "unicode.White_Space", "internal/strconv.uint64pow10", "math/bits.deBruijn32tab", "math/bits.deBruijn64tab", "bytes.ErrTooLarge", "strconv.ErrSyntax", "strconv.ErrRange", "errors.errorType"], apart := false, laid := [("math/bits.deBruijn32tab", laid_math_bits_deBruijn32tab), ("math/bits.deBruijn64tab", laid_math_bits_deBruijn64tab), ("internal/strconv.uint64pow10", laid_internal_strconv_uint64pow10), ("unicode/utf8.acceptRanges", laid_unicode_utf8_acceptRanges), ("errors.errorType", laid_errors_errorType), ("strconv.ErrRange", laid_strconv_ErrRange), ("strconv.ErrSyntax", laid_strconv_ErrSyntax), ("unicode.White_Space", laid_unicode_White_Space), ("bytes.ErrTooLarge", laid_bytes_ErrTooLarge), ("unicode/utf8.first", laid_unicode_utf8_first)] }
def FnSplitKeepsSaid : Prop := fnSplitKeepsRow.holds Tryz.pinned (OpenSpec.ofChange fnSplitKeepsSpec)

/-- ITS FALSE NEIGHBOUR: 'it returns false'. Refute it at one input. -/
def fnSplitKeepsWrong : ChangeSpec := { name := "fnSplitKeeps", fn := fun _ => fun
  | [d] => { results := [.lit (.bool false)], args := [d] }
  | _ => none }
def FnSplitKeepsWrongFalsely : Prop := fnSplitKeepsRow.holds Tryz.pinned (OpenSpec.ofChange fnSplitKeepsWrong)

/-- 'laws.FnBytesBack': WHATEVER THE INPUT: true; the input reads as it did. -/
def fnBytesBackSpec : ChangeSpec := { name := "fnBytesBack", fn := fun _ => fun
  | [d] => { results := [.lit (.bool true)], args := [d] }
  | _ => none }
def fnBytesBackRow : OpenClaim := { program := "ytngofbhlhcalpaagreatdoor", sum := "35fe6f2bf6b38e1b93923fca506e39887156e2be4d23cd27df67f1432c5935b0", func := "pub-dabber/laws.FnBytesBack", spec := "fnBytesBack", inPlace := ["internal/abi.NoEscape", "internal/bytealg.MakeNoZero", "internal/reflectlite.ValueOf", "(internal/reflectlite.Value).Type", "(internal/reflectlite.Value).IsNil", "internal/reflectlite.TypeOf", "(internal/reflectlite.Value).Elem", "(internal/reflectlite.Value).Set"], unfollowed := true, recurses := true, named := ["bytes.ErrTooLarge", "internal/strconv.uint64pow10", "math/bits.deBruijn32tab", "math/bits.deBruijn64tab", "unicode/utf8.first", "unicode/utf8.acceptRanges", "unicode.White_Space", "strconv.ErrSyntax", "strconv.ErrRange", "errors.errorType"], apart := false, laid := [("math/bits.deBruijn32tab", laid_math_bits_deBruijn32tab), ("math/bits.deBruijn64tab", laid_math_bits_deBruijn64tab), ("internal/strconv.uint64pow10", laid_internal_strconv_uint64pow10), ("unicode/utf8.acceptRanges", laid_unicode_utf8_acceptRanges), ("errors.errorType", laid_errors_errorType), ("strconv.ErrRange", laid_strconv_ErrRange), ("strconv.ErrSyntax", laid_strconv_ErrSyntax), ("unicode.White_Space", laid_unicode_White_Space), ("bytes.ErrTooLarge", laid_bytes_ErrTooLarge), ("unicode/utf8.first", laid_unicode_utf8_first)] }
def FnBytesBackSaid : Prop := fnBytesBackRow.holds Tryz.pinned (OpenSpec.ofChange fnBytesBackSpec)

/-- ITS FALSE NEIGHBOUR: 'it returns false'. Refute it at one input. -/
def fnBytesBackWrong : ChangeSpec := { name := "fnBytesBack", fn := fun _ => fun
  | [d] => { results := [.lit (.bool false)], args := [d] }
  | _ => none }
def FnBytesBackWrongFalsely : Prop := fnBytesBackRow.holds Tryz.pinned (OpenSpec.ofChange fnBytesBackWrong)

/- THE SECOND FORM. 'bulk': how many values and letters a reading holds, each counted each time it is reached (what is shared counts as often as it is met; a slice's spare places count too). A statement '..UptoSaid' is the law's where the arguments, and the package variables that the reading takes, are together of bulk at most 1048576: NARROWER than '..Said'. Prove '..Said' where nothing that the law and all that it calls make is longer than what came in: it says more and counts as full. Else prove '..UptoSaid'. A law counts once. -/
mutual
def uptoBulk {H : Type} : DataW H → Nat
  | .lit (.string bytes) => bytes.length + 1
  | .lit _ => 1
  | .nil => 1
  | .ptr d => uptoBulk d + 1
  | .slice elems spare => uptoBulkAll elems + uptoBulkAll spare + 1
  | .agg parts => uptoBulkAll parts + 1
  | .iface _ d => uptoBulk d + 1
  | .map entries => uptoBulkEntries entries + 1
  | .held _ => 1
def uptoBulkAll {H : Type} : List (DataW H) → Nat
  | [] => 0
  | d :: r => uptoBulk d + uptoBulkAll r
def uptoBulkEntries {H : Type} : List (Lit × DataW H) → Nat
  | [] => 0
  | x :: r => uptoBulkEntry x + uptoBulkEntries r
def uptoBulkEntry {H : Type} : Lit × DataW H → Nat
  | (.string bytes, d) => bytes.length + uptoBulk d + 1
  | (_, d) => uptoBulk d + 1
 end
def uptoSmall : (H : Type) → List (DataW H) → Bool := fun _ ds => decide (uptoBulkAll ds ≤ 1048576)
def OpenSpec.upto (s : _root_.Go.ChangeSpec) : _root_.Go.OpenSpec := { _root_.Go.OpenSpec.ofChange s with cond := some uptoSmall }

/-- 'laws.FnLexAlone', WHERE WHAT IT READS IS OF BULK AT MOST 1048576: true; the input reads as it did. -/
def fnLexAloneUptoRow : OpenClaim := { program := "ytngofbhlhcalpaagreatdoor", sum := "35fe6f2bf6b38e1b93923fca506e39887156e2be4d23cd27df67f1432c5935b0", func := "pub-dabber/laws.FnLexAlone", spec := "fnLexAlone", inPlace := ["internal/abi.NoEscape", "internal/bytealg.MakeNoZero", "internal/reflectlite.ValueOf", "(internal/reflectlite.Value).Type", "(internal/reflectlite.Value).IsNil", "internal/reflectlite.TypeOf", "(internal/reflectlite.Value).Elem", "(internal/reflectlite.Value).Set"], unfollowed := true, recurses := true, named := ["unicode/utf8.first", "unicode/utf8.acceptRanges", "unicode.White_Space", "internal/strconv.uint64pow10", "math/bits.deBruijn32tab", "math/bits.deBruijn64tab", "bytes.ErrTooLarge", "strconv.ErrSyntax", "strconv.ErrRange", "errors.errorType"], apart := false, laid := [("math/bits.deBruijn32tab", laid_math_bits_deBruijn32tab), ("math/bits.deBruijn64tab", laid_math_bits_deBruijn64tab), ("internal/strconv.uint64pow10", laid_internal_strconv_uint64pow10), ("unicode/utf8.acceptRanges", laid_unicode_utf8_acceptRanges), ("errors.errorType", laid_errors_errorType), ("strconv.ErrRange", laid_strconv_ErrRange), ("strconv.ErrSyntax", laid_strconv_ErrSyntax), ("unicode.White_Space", laid_unicode_White_Space), ("bytes.ErrTooLarge", laid_bytes_ErrTooLarge), ("unicode/utf8.first", laid_unicode_utf8_first)], narrowed := true }
def FnLexAloneUptoSaid : Prop := fnLexAloneUptoRow.holds Tryz.pinned (OpenSpec.upto fnLexAloneSpec)

/-- 'laws.FnLexEnds', WHERE WHAT IT READS IS OF BULK AT MOST 1048576: true; the input reads as it did. -/
def fnLexEndsUptoRow : OpenClaim := { program := "ytngofbhlhcalpaagreatdoor", sum := "35fe6f2bf6b38e1b93923fca506e39887156e2be4d23cd27df67f1432c5935b0", func := "pub-dabber/laws.FnLexEnds", spec := "fnLexEnds", inPlace := ["internal/abi.NoEscape", "internal/bytealg.MakeNoZero", "internal/reflectlite.ValueOf", "(internal/reflectlite.Value).Type", "(internal/reflectlite.Value).IsNil", "internal/reflectlite.TypeOf", "(internal/reflectlite.Value).Elem", "(internal/reflectlite.Value).Set"], unfollowed := true, recurses := true, named := ["unicode/utf8.first", "unicode/utf8.acceptRanges", "unicode.White_Space", "internal/strconv.uint64pow10", "math/bits.deBruijn32tab", "math/bits.deBruijn64tab", "bytes.ErrTooLarge", "strconv.ErrSyntax", "strconv.ErrRange", "errors.errorType"], apart := false, laid := [("math/bits.deBruijn32tab", laid_math_bits_deBruijn32tab), ("math/bits.deBruijn64tab", laid_math_bits_deBruijn64tab), ("internal/strconv.uint64pow10", laid_internal_strconv_uint64pow10), ("unicode/utf8.acceptRanges", laid_unicode_utf8_acceptRanges), ("errors.errorType", laid_errors_errorType), ("strconv.ErrRange", laid_strconv_ErrRange), ("strconv.ErrSyntax", laid_strconv_ErrSyntax), ("unicode.White_Space", laid_unicode_White_Space), ("bytes.ErrTooLarge", laid_bytes_ErrTooLarge), ("unicode/utf8.first", laid_unicode_utf8_first)], narrowed := true }
def FnLexEndsUptoSaid : Prop := fnLexEndsUptoRow.holds Tryz.pinned (OpenSpec.upto fnLexEndsSpec)

/-- 'laws.FnLexJoins', WHERE WHAT IT READS IS OF BULK AT MOST 1048576: true; the input reads as it did. -/
def fnLexJoinsUptoRow : OpenClaim := { program := "ytngofbhlhcalpaagreatdoor", sum := "35fe6f2bf6b38e1b93923fca506e39887156e2be4d23cd27df67f1432c5935b0", func := "pub-dabber/laws.FnLexJoins", spec := "fnLexJoins", inPlace := ["internal/abi.NoEscape", "internal/bytealg.MakeNoZero", "internal/reflectlite.ValueOf", "(internal/reflectlite.Value).Type", "(internal/reflectlite.Value).IsNil", "internal/reflectlite.TypeOf", "(internal/reflectlite.Value).Elem", "(internal/reflectlite.Value).Set"], unfollowed := true, recurses := true, named := ["unicode/utf8.first", "unicode/utf8.acceptRanges", "unicode.White_Space", "internal/strconv.uint64pow10", "math/bits.deBruijn32tab", "math/bits.deBruijn64tab", "bytes.ErrTooLarge", "strconv.ErrSyntax", "strconv.ErrRange", "errors.errorType"], apart := false, laid := [("math/bits.deBruijn32tab", laid_math_bits_deBruijn32tab), ("math/bits.deBruijn64tab", laid_math_bits_deBruijn64tab), ("internal/strconv.uint64pow10", laid_internal_strconv_uint64pow10), ("unicode/utf8.acceptRanges", laid_unicode_utf8_acceptRanges), ("errors.errorType", laid_errors_errorType), ("strconv.ErrRange", laid_strconv_ErrRange), ("strconv.ErrSyntax", laid_strconv_ErrSyntax), ("unicode.White_Space", laid_unicode_White_Space), ("bytes.ErrTooLarge", laid_bytes_ErrTooLarge), ("unicode/utf8.first", laid_unicode_utf8_first)], narrowed := true }
def FnLexJoinsUptoSaid : Prop := fnLexJoinsUptoRow.holds Tryz.pinned (OpenSpec.upto fnLexJoinsSpec)

/-- 'laws.FnLooseSame', WHERE WHAT IT READS IS OF BULK AT MOST 1048576: true; the input reads as it did. -/
def fnLooseSameUptoRow : OpenClaim := { program := "ytngofbhlhcalpaagreatdoor", sum := "35fe6f2bf6b38e1b93923fca506e39887156e2be4d23cd27df67f1432c5935b0", func := "pub-dabber/laws.FnLooseSame", spec := "fnLooseSame", inPlace := ["internal/abi.NoEscape", "internal/bytealg.MakeNoZero", "internal/reflectlite.ValueOf", "(internal/reflectlite.Value).Type", "(internal/reflectlite.Value).IsNil", "internal/reflectlite.TypeOf", "(internal/reflectlite.Value).Elem", "(internal/reflectlite.Value).Set"], unfollowed := true, recurses := true, named := ["unicode/utf8.first", "unicode/utf8.acceptRanges", "unicode.White_Space", "internal/strconv.uint64pow10", "math/bits.deBruijn32tab", "math/bits.deBruijn64tab", "bytes.ErrTooLarge", "strconv.ErrSyntax", "strconv.ErrRange", "errors.errorType"], apart := false, laid := [("math/bits.deBruijn32tab", laid_math_bits_deBruijn32tab), ("math/bits.deBruijn64tab", laid_math_bits_deBruijn64tab), ("internal/strconv.uint64pow10", laid_internal_strconv_uint64pow10), ("unicode/utf8.acceptRanges", laid_unicode_utf8_acceptRanges), ("errors.errorType", laid_errors_errorType), ("strconv.ErrRange", laid_strconv_ErrRange), ("strconv.ErrSyntax", laid_strconv_ErrSyntax), ("unicode.White_Space", laid_unicode_White_Space), ("bytes.ErrTooLarge", laid_bytes_ErrTooLarge), ("unicode/utf8.first", laid_unicode_utf8_first)], narrowed := true }
def FnLooseSameUptoSaid : Prop := fnLooseSameUptoRow.holds Tryz.pinned (OpenSpec.upto fnLooseSameSpec)

/-- 'laws.FnLexSteps', WHERE WHAT IT READS IS OF BULK AT MOST 1048576: true; the input reads as it did. -/
def fnLexStepsUptoRow : OpenClaim := { program := "ytngofbhlhcalpaagreatdoor", sum := "35fe6f2bf6b38e1b93923fca506e39887156e2be4d23cd27df67f1432c5935b0", func := "pub-dabber/laws.FnLexSteps", spec := "fnLexSteps", inPlace := ["internal/abi.NoEscape", "internal/bytealg.MakeNoZero", "internal/reflectlite.ValueOf", "(internal/reflectlite.Value).Type", "(internal/reflectlite.Value).IsNil", "internal/reflectlite.TypeOf", "(internal/reflectlite.Value).Elem", "(internal/reflectlite.Value).Set"], unfollowed := true, recurses := true, named := ["unicode/utf8.first", "unicode/utf8.acceptRanges", "unicode.White_Space", "internal/strconv.uint64pow10", "math/bits.deBruijn32tab", "math/bits.deBruijn64tab", "bytes.ErrTooLarge", "strconv.ErrSyntax", "strconv.ErrRange", "errors.errorType"], apart := false, laid := [("math/bits.deBruijn32tab", laid_math_bits_deBruijn32tab), ("math/bits.deBruijn64tab", laid_math_bits_deBruijn64tab), ("internal/strconv.uint64pow10", laid_internal_strconv_uint64pow10), ("unicode/utf8.acceptRanges", laid_unicode_utf8_acceptRanges), ("errors.errorType", laid_errors_errorType), ("strconv.ErrRange", laid_strconv_ErrRange), ("strconv.ErrSyntax", laid_strconv_ErrSyntax), ("unicode.White_Space", laid_unicode_White_Space), ("bytes.ErrTooLarge", laid_bytes_ErrTooLarge), ("unicode/utf8.first", laid_unicode_utf8_first)], narrowed := true }
def FnLexStepsUptoSaid : Prop := fnLexStepsUptoRow.holds Tryz.pinned (OpenSpec.upto fnLexStepsSpec)

/-- 'laws.FnSplitKeeps', WHERE WHAT IT READS IS OF BULK AT MOST 1048576: true; the input reads as it did. -/
def fnSplitKeepsUptoRow : OpenClaim := { program := "ytngofbhlhcalpaagreatdoor", sum := "35fe6f2bf6b38e1b93923fca506e39887156e2be4d23cd27df67f1432c5935b0", func := "pub-dabber/laws.FnSplitKeeps", spec := "fnSplitKeeps", inPlace := ["internal/abi.NoEscape", "internal/bytealg.MakeNoZero", "internal/reflectlite.ValueOf", "(internal/reflectlite.Value).Type", "(internal/reflectlite.Value).IsNil", "internal/reflectlite.TypeOf", "(internal/reflectlite.Value).Elem", "(internal/reflectlite.Value).Set"], unfollowed := true, recurses := true, named := ["unicode/utf8.first", "unicode/utf8.acceptRanges", "unicode.White_Space", "internal/strconv.uint64pow10", "math/bits.deBruijn32tab", "math/bits.deBruijn64tab", "bytes.ErrTooLarge", "strconv.ErrSyntax", "strconv.ErrRange", "errors.errorType"], apart := false, laid := [("math/bits.deBruijn32tab", laid_math_bits_deBruijn32tab), ("math/bits.deBruijn64tab", laid_math_bits_deBruijn64tab), ("internal/strconv.uint64pow10", laid_internal_strconv_uint64pow10), ("unicode/utf8.acceptRanges", laid_unicode_utf8_acceptRanges), ("errors.errorType", laid_errors_errorType), ("strconv.ErrRange", laid_strconv_ErrRange), ("strconv.ErrSyntax", laid_strconv_ErrSyntax), ("unicode.White_Space", laid_unicode_White_Space), ("bytes.ErrTooLarge", laid_bytes_ErrTooLarge), ("unicode/utf8.first", laid_unicode_utf8_first)], narrowed := true }
def FnSplitKeepsUptoSaid : Prop := fnSplitKeepsUptoRow.holds Tryz.pinned (OpenSpec.upto fnSplitKeepsSpec)

/-- 'laws.FnBytesBack', WHERE WHAT IT READS IS OF BULK AT MOST 1048576: true; the input reads as it did. -/
def fnBytesBackUptoRow : OpenClaim := { program := "ytngofbhlhcalpaagreatdoor", sum := "35fe6f2bf6b38e1b93923fca506e39887156e2be4d23cd27df67f1432c5935b0", func := "pub-dabber/laws.FnBytesBack", spec := "fnBytesBack", inPlace := ["internal/abi.NoEscape", "internal/bytealg.MakeNoZero", "internal/reflectlite.ValueOf", "(internal/reflectlite.Value).Type", "(internal/reflectlite.Value).IsNil", "internal/reflectlite.TypeOf", "(internal/reflectlite.Value).Elem", "(internal/reflectlite.Value).Set"], unfollowed := true, recurses := true, named := ["bytes.ErrTooLarge", "internal/strconv.uint64pow10", "math/bits.deBruijn32tab", "math/bits.deBruijn64tab", "unicode/utf8.first", "unicode/utf8.acceptRanges", "unicode.White_Space", "strconv.ErrSyntax", "strconv.ErrRange", "errors.errorType"], apart := false, laid := [("math/bits.deBruijn32tab", laid_math_bits_deBruijn32tab), ("math/bits.deBruijn64tab", laid_math_bits_deBruijn64tab), ("internal/strconv.uint64pow10", laid_internal_strconv_uint64pow10), ("unicode/utf8.acceptRanges", laid_unicode_utf8_acceptRanges), ("errors.errorType", laid_errors_errorType), ("strconv.ErrRange", laid_strconv_ErrRange), ("strconv.ErrSyntax", laid_strconv_ErrSyntax), ("unicode.White_Space", laid_unicode_White_Space), ("bytes.ErrTooLarge", laid_bytes_ErrTooLarge), ("unicode/utf8.first", laid_unicode_utf8_first)], narrowed := true }
def FnBytesBackUptoSaid : Prop := fnBytesBackUptoRow.holds Tryz.pinned (OpenSpec.upto fnBytesBackSpec)

end Rows
end Go.Proofs.YtngofbhlhcalpaaGreatDoor
