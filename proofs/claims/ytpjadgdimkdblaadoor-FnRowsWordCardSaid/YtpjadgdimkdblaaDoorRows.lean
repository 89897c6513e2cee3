/-
  NARROWER THAN 'FOR EVERY INPUT', by the rows' own cells (each row's printed sentence says how): FnNameAlone: laid · FnNameColons: laid · FnNameTight: laid · FnNamedAgain: loops, laid · FnRowsKind: loops, laid · FnRowsNested: loops, laid · FnRowsWord: loops, laid · FnNamePlain: loops, laid · FnNamesToDatabase: loops, laid.
  DERIVED. THE GIVEN ROWS OF THIS SEAT. 9 by the template 'for every input the law returns true; each argument reads behind the call as it read before'; 0 by the template 'total and deterministic' (their statements: YtpjadgdimkdblaaDoorTotals.lean).
  GIVEN WITH THE SEED: the statements are not yours to turn. If you find one false, say at which input.
  Laid BY PROGRAM, IN A SANDBOX (cutbox-rows.mjs): the forced cells as the released guide's own fill.sh prints them over the translation 9496534fa1f8164b… (all of the seat's roots in one cut). By AI agents, Wed Nov 11 2026. No macro, syntax, notation, axiom, sorry.
-/
import Derived.Test.YtpjadgdimkdblaaDoorChecked
import GoSem.Claim
import GoSem.ClaimJoined
import GoSem.ClaimMapViews
import Derived.JoinedTies
import Derived.KernelRfl
namespace Go.Proofs.YtpjadgdimkdblaaDoor
/- THE CELL 'sum', in the pinned program and in every row, IS THE sha256 OF THE DUMP (.gsa) THAT YtpjadgdimkdblaaDoorProg.lean LOADS. Nothing in Lean hashes anything: it is a label: what it is worth is what the hold of that sum in a sandbox is worth. -/
noncomputable def Tryd.pinned : Pinned := { name := "ytpjadgdimkdblaadoor", sum := "9496534fa1f8164bddeceec37e3dac5864a18387032daa9bb202117609cf9352", checked := Tryd.checked }
namespace Rows
def none {H : Type} : Left H := { results := [], args := [] }

/- WHAT THE LISTED PACKAGE-LEVEL VARIABLES READ AS WHEN THE CALL BEGINS. Each datum BY PROGRAM (the guide's laid-datum.mjs) off the statement by which the dump's own 'gosem.cut.vars' lays the variable. In a bare row this is a premise. The card (YtpjadgdimkdblaaDoorCards.lean) ties it to the program's text. -/
def laid_math_bits_deBruijn32tab {H : Type} : DataW H := .agg [.lit (.int .u8 0), .lit (.int .u8 1), .lit (.int .u8 28), .lit (.int .u8 2), .lit (.int .u8 29), .lit (.int .u8 14), .lit (.int .u8 24), .lit (.int .u8 3), .lit (.int .u8 30), .lit (.int .u8 22), .lit (.int .u8 20), .lit (.int .u8 15), .lit (.int .u8 25), .lit (.int .u8 17), .lit (.int .u8 4), .lit (.int .u8 8), .lit (.int .u8 31), .lit (.int .u8 27), .lit (.int .u8 13), .lit (.int .u8 23), .lit (.int .u8 21), .lit (.int .u8 19), .lit (.int .u8 16), .lit (.int .u8 7), .lit (.int .u8 26), .lit (.int .u8 12), .lit (.int .u8 18), .lit (.int .u8 6), .lit (.int .u8 11), .lit (.int .u8 5), .lit (.int .u8 10), .lit (.int .u8 9)]
def laid_math_bits_deBruijn64tab {H : Type} : DataW H := .agg [.lit (.int .u8 0), .lit (.int .u8 1), .lit (.int .u8 56), .lit (.int .u8 2), .lit (.int .u8 57), .lit (.int .u8 49), .lit (.int .u8 28), .lit (.int .u8 3), .lit (.int .u8 61), .lit (.int .u8 58), .lit (.int .u8 42), .lit (.int .u8 50), .lit (.int .u8 38), .lit (.int .u8 29), .lit (.int .u8 17), .lit (.int .u8 4), .lit (.int .u8 62), .lit (.int .u8 47), .lit (.int .u8 59), .lit (.int .u8 36), .lit (.int .u8 45), .lit (.int .u8 43), .lit (.int .u8 51), .lit (.int .u8 22), .lit (.int .u8 53), .lit (.int .u8 39), .lit (.int .u8 33), .lit (.int .u8 30), .lit (.int .u8 24), .lit (.int .u8 18), .lit (.int .u8 12), .lit (.int .u8 5), .lit (.int .u8 63), .lit (.int .u8 55), .lit (.int .u8 48), .lit (.int .u8 27), .lit (.int .u8 60), .lit (.int .u8 41), .lit (.int .u8 37), .lit (.int .u8 16), .lit (.int .u8 46), .lit (.int .u8 35), .lit (.int .u8 44), .lit (.int .u8 21), .lit (.int .u8 52), .lit (.int .u8 32), .lit (.int .u8 23), .lit (.int .u8 11), .lit (.int .u8 54), .lit (.int .u8 26), .lit (.int .u8 40), .lit (.int .u8 15), .lit (.int .u8 34), .lit (.int .u8 20), .lit (.int .u8 31), .lit (.int .u8 10), .lit (.int .u8 25), .lit (.int .u8 14), .lit (.int .u8 19), .lit (.int .u8 9), .lit (.int .u8 13), .lit (.int .u8 8), .lit (.int .u8 7), .lit (.int .u8 6)]
def laid_internal_strconv_uint64pow10 {H : Type} : DataW H := .agg [.lit (.int .u64 1), .lit (.int .u64 10), .lit (.int .u64 100), .lit (.int .u64 1000), .lit (.int .u64 10000), .lit (.int .u64 100000), .lit (.int .u64 1000000), .lit (.int .u64 10000000), .lit (.int .u64 100000000), .lit (.int .u64 1000000000), .lit (.int .u64 10000000000), .lit (.int .u64 100000000000), .lit (.int .u64 1000000000000), .lit (.int .u64 10000000000000), .lit (.int .u64 100000000000000), .lit (.int .u64 1000000000000000), .lit (.int .u64 10000000000000000), .lit (.int .u64 100000000000000000), .lit (.int .u64 1000000000000000000), .lit (.int .u64 10000000000000000000)]
def laid_bytes_ErrTooLarge {H : Type} : DataW H := .iface "*errors.errorString" (.ptr (.agg [.lit (.string [98, 121, 116, 101, 115, 46, 66, 117, 102, 102, 101, 114, 58, 32, 116, 111, 111, 32, 108, 97, 114, 103, 101])]))

/-- 'laws.FnNameAlone': WHATEVER THE INPUT: true; the input reads as it did. -/
def fnNameAloneSpec : ChangeSpec := { name := "fnNameAlone", fn := fun _ => fun
  | [d1, d2, d3, d4] => { results := [.lit (.bool true)], args := [d1, d2, d3, d4] }
  | _ => none }
def fnNameAloneRow : OpenClaim := { program := "ytpjadgdimkdblaadoor", sum := "9496534fa1f8164bddeceec37e3dac5864a18387032daa9bb202117609cf9352", func := "given.example/pub-notarial/laws.FnNameAlone", spec := "fnNameAlone", named := ["internal/strconv.uint64pow10", "math/bits.deBruijn32tab", "math/bits.deBruijn64tab"], apart := false, laid := [("math/bits.deBruijn32tab", laid_math_bits_deBruijn32tab), ("math/bits.deBruijn64tab", laid_math_bits_deBruijn64tab), ("internal/strconv.uint64pow10", laid_internal_strconv_uint64pow10)] }
def FnNameAloneSaid : Prop := fnNameAloneRow.holds Tryd.pinned (OpenSpec.ofChange fnNameAloneSpec)

/-- ITS FALSE NEIGHBOUR: 'it returns false'. Refute it at one input. -/
def fnNameAloneWrong : ChangeSpec := { name := "fnNameAlone", fn := fun _ => fun
  | [d1, d2, d3, d4] => { results := [.lit (.bool false)], args := [d1, d2, d3, d4] }
  | _ => none }
def FnNameAloneWrongFalsely : Prop := fnNameAloneRow.holds Tryd.pinned (OpenSpec.ofChange fnNameAloneWrong)

/-- 'laws.FnNameColons': WHATEVER THE INPUT: true; the input reads as it did. -/
def fnNameColonsSpec : ChangeSpec := { name := "fnNameColons", fn := fun _ => fun
  | [d1, d2, d3, d4] => { results := [.lit (.bool true)], args := [d1, d2, d3, d4] }
  | _ => none }
def fnNameColonsRow : OpenClaim := { program := "ytpjadgdimkdblaadoor", sum := "9496534fa1f8164bddeceec37e3dac5864a18387032daa9bb202117609cf9352", func := "given.example/pub-notarial/laws.FnNameColons", spec := "fnNameColons", named := ["internal/strconv.uint64pow10", "math/bits.deBruijn32tab", "math/bits.deBruijn64tab"], apart := false, laid := [("math/bits.deBruijn32tab", laid_math_bits_deBruijn32tab), ("math/bits.deBruijn64tab", laid_math_bits_deBruijn64tab), ("internal/strconv.uint64pow10", laid_internal_strconv_uint64pow10)] }
def FnNameColonsSaid : Prop := fnNameColonsRow.holds Tryd.pinned (OpenSpec.ofChange fnNameColonsSpec)

/-- ITS FALSE NEIGHBOUR: 'it returns false'. Refute it at one input. -/
def fnNameColonsWrong : ChangeSpec := { name := "fnNameColons", fn := fun _ => fun
  | [d1, d2, d3, d4] => { results := [.lit (.bool false)], args := [d1, d2, d3, d4] }
  | _ => none }
def FnNameColonsWrongFalsely : Prop := fnNameColonsRow.holds Tryd.pinned (OpenSpec.ofChange fnNameColonsWrong)

/-- 'laws.FnNameTight': WHATEVER THE INPUT: true; the input reads as it did. -/
def fnNameTightSpec : ChangeSpec := { name := "fnNameTight", fn := fun _ => fun
  | [d1, d2, d3, d4] => { results := [.lit (.bool true)], args := [d1, d2, d3, d4] }
  | _ => none }
def fnNameTightRow : OpenClaim := { program := "ytpjadgdimkdblaadoor", sum := "9496534fa1f8164bddeceec37e3dac5864a18387032daa9bb202117609cf9352", func := "given.example/pub-notarial/laws.FnNameTight", spec := "fnNameTight", named := ["internal/strconv.uint64pow10", "math/bits.deBruijn32tab", "math/bits.deBruijn64tab"], apart := false, laid := [("math/bits.deBruijn32tab", laid_math_bits_deBruijn32tab), ("math/bits.deBruijn64tab", laid_math_bits_deBruijn64tab), ("internal/strconv.uint64pow10", laid_internal_strconv_uint64pow10)] }
def FnNameTightSaid : Prop := fnNameTightRow.holds Tryd.pinned (OpenSpec.ofChange fnNameTightSpec)

/-- ITS FALSE NEIGHBOUR: 'it returns false'. Refute it at one input. -/
def fnNameTightWrong : ChangeSpec := { name := "fnNameTight", fn := fun _ => fun
  | [d1, d2, d3, d4] => { results := [.lit (.bool false)], args := [d1, d2, d3, d4] }
  | _ => none }
def FnNameTightWrongFalsely : Prop := fnNameTightRow.holds Tryd.pinned (OpenSpec.ofChange fnNameTightWrong)

/-- 'laws.FnNamedAgain': WHATEVER THE INPUT: true; the input reads as it did. -/
def fnNamedAgainSpec : ChangeSpec := { name := "fnNamedAgain", fn := fun _ => fun
  | [d1, d2, d3] => { results := [.lit (.bool true)], args := [d1, d2, d3] }
  | _ => none }
def fnNamedAgainRow : OpenClaim := { program := "ytpjadgdimkdblaadoor", sum := "9496534fa1f8164bddeceec37e3dac5864a18387032daa9bb202117609cf9352", func := "given.example/pub-notarial/laws.FnNamedAgain", spec := "fnNamedAgain", recurses := true, named := ["internal/strconv.uint64pow10", "math/bits.deBruijn32tab", "math/bits.deBruijn64tab", "bytes.ErrTooLarge"], loops := true, apart := false, laid := [("math/bits.deBruijn32tab", laid_math_bits_deBruijn32tab), ("math/bits.deBruijn64tab", laid_math_bits_deBruijn64tab), ("internal/strconv.uint64pow10", laid_internal_strconv_uint64pow10), ("bytes.ErrTooLarge", laid_bytes_ErrTooLarge)] }
def FnNamedAgainSaid : Prop := fnNamedAgainRow.holds Tryd.pinned (OpenSpec.ofChange fnNamedAgainSpec)

/-- ITS FALSE NEIGHBOUR: 'it returns false'. Refute it at one input. -/
def fnNamedAgainWrong : ChangeSpec := { name := "fnNamedAgain", fn := fun _ => fun
  | [d1, d2, d3] => { results := [.lit (.bool false)], args := [d1, d2, d3] }
  | _ => none }
def FnNamedAgainWrongFalsely : Prop := fnNamedAgainRow.holds Tryd.pinned (OpenSpec.ofChange fnNamedAgainWrong)

/-- 'laws.FnRowsKind': WHATEVER THE INPUT: true; the input reads as it did. -/
def fnRowsKindSpec : ChangeSpec := { name := "fnRowsKind", fn := fun _ => fun
  | [d1, d2, d3] => { results := [.lit (.bool true)], args := [d1, d2, d3] }
  | _ => none }
def fnRowsKindRow : OpenClaim := { program := "ytpjadgdimkdblaadoor", sum := "9496534fa1f8164bddeceec37e3dac5864a18387032daa9bb202117609cf9352", func := "given.example/pub-notarial/laws.FnRowsKind", spec := "fnRowsKind", recurses := true, named := ["internal/strconv.uint64pow10", "math/bits.deBruijn32tab", "math/bits.deBruijn64tab", "bytes.ErrTooLarge"], loops := true, apart := false, laid := [("math/bits.deBruijn32tab", laid_math_bits_deBruijn32tab), ("math/bits.deBruijn64tab", laid_math_bits_deBruijn64tab), ("internal/strconv.uint64pow10", laid_internal_strconv_uint64pow10), ("bytes.ErrTooLarge", laid_bytes_ErrTooLarge)] }
def FnRowsKindSaid : Prop := fnRowsKindRow.holds Tryd.pinned (OpenSpec.ofChange fnRowsKindSpec)

/-- ITS FALSE NEIGHBOUR: 'it returns false'. Refute it at one input. -/
def fnRowsKindWrong : ChangeSpec := { name := "fnRowsKind", fn := fun _ => fun
  | [d1, d2, d3] => { results := [.lit (.bool false)], args := [d1, d2, d3] }
  | _ => none }
def FnRowsKindWrongFalsely : Prop := fnRowsKindRow.holds Tryd.pinned (OpenSpec.ofChange fnRowsKindWrong)

/-- 'laws.FnRowsNested': WHATEVER THE INPUT: true; the input reads as it did. -/
def fnRowsNestedSpec : ChangeSpec := { name := "fnRowsNested", fn := fun _ => fun
  | [d1, d2, d3] => { results := [.lit (.bool true)], args := [d1, d2, d3] }
  | _ => none }
def fnRowsNestedRow : OpenClaim := { program := "ytpjadgdimkdblaadoor", sum := "9496534fa1f8164bddeceec37e3dac5864a18387032daa9bb202117609cf9352", func := "given.example/pub-notarial/laws.FnRowsNested", spec := "fnRowsNested", recurses := true, named := ["internal/strconv.uint64pow10", "math/bits.deBruijn32tab", "math/bits.deBruijn64tab", "bytes.ErrTooLarge"], loops := true, apart := false, laid := [("math/bits.deBruijn32tab", laid_math_bits_deBruijn32tab), ("math/bits.deBruijn64tab", laid_math_bits_deBruijn64tab), ("internal/strconv.uint64pow10", laid_internal_strconv_uint64pow10), ("bytes.ErrTooLarge", laid_bytes_ErrTooLarge)] }
def FnRowsNestedSaid : Prop := fnRowsNestedRow.holds Tryd.pinned (OpenSpec.ofChange fnRowsNestedSpec)

/-- ITS FALSE NEIGHBOUR: 'it returns false'. Refute it at one input. -/
def fnRowsNestedWrong : ChangeSpec := { name := "fnRowsNested", fn := fun _ => fun
  | [d1, d2, d3] => { results := [.lit (.bool false)], args := [d1, d2, d3] }
  | _ => none }
def FnRowsNestedWrongFalsely : Prop := fnRowsNestedRow.holds Tryd.pinned (OpenSpec.ofChange fnRowsNestedWrong)

/-- 'laws.FnRowsWord': WHATEVER THE INPUT: true; the input reads as it did. -/
def fnRowsWordSpec : ChangeSpec := { name := "fnRowsWord", fn := fun _ => fun
  | [d1, d2, d3, d4, d5] => { results := [.lit (.bool true)], args := [d1, d2, d3, d4, d5] }
  | _ => none }
def fnRowsWordRow : OpenClaim := { program := "ytpjadgdimkdblaadoor", sum := "9496534fa1f8164bddeceec37e3dac5864a18387032daa9bb202117609cf9352", func := "given.example/pub-notarial/laws.FnRowsWord", spec := "fnRowsWord", recurses := true, named := ["internal/strconv.uint64pow10", "math/bits.deBruijn32tab", "math/bits.deBruijn64tab", "bytes.ErrTooLarge"], loops := true, apart := false, laid := [("math/bits.deBruijn32tab", laid_math_bits_deBruijn32tab), ("math/bits.deBruijn64tab", laid_math_bits_deBruijn64tab), ("internal/strconv.uint64pow10", laid_internal_strconv_uint64pow10), ("bytes.ErrTooLarge", laid_bytes_ErrTooLarge)] }
def FnRowsWordSaid : Prop := fnRowsWordRow.holds Tryd.pinned (OpenSpec.ofChange fnRowsWordSpec)

/-- ITS FALSE NEIGHBOUR: 'it returns false'. Refute it at one input. -/
def fnRowsWordWrong : ChangeSpec := { name := "fnRowsWord", fn := fun _ => fun
  | [d1, d2, d3, d4, d5] => { results := [.lit (.bool false)], args := [d1, d2, d3, d4, d5] }
  | _ => none }
def FnRowsWordWrongFalsely : Prop := fnRowsWordRow.holds Tryd.pinned (OpenSpec.ofChange fnRowsWordWrong)

/-- 'laws.FnNamePlain': WHATEVER THE INPUT: true; the input reads as it did. -/
def fnNamePlainSpec : ChangeSpec := { name := "fnNamePlain", fn := fun _ => fun
  | [d1, d2, d3, d4] => { results := [.lit (.bool true)], args := [d1, d2, d3, d4] }
  | _ => none }
def fnNamePlainRow : OpenClaim := { program := "ytpjadgdimkdblaadoor", sum := "9496534fa1f8164bddeceec37e3dac5864a18387032daa9bb202117609cf9352", func := "given.example/pub-notarial/laws.FnNamePlain", spec := "fnNamePlain", recurses := true, named := ["internal/strconv.uint64pow10", "math/bits.deBruijn32tab", "math/bits.deBruijn64tab", "bytes.ErrTooLarge"], loops := true, apart := false, laid := [("math/bits.deBruijn32tab", laid_math_bits_deBruijn32tab), ("math/bits.deBruijn64tab", laid_math_bits_deBruijn64tab), ("internal/strconv.uint64pow10", laid_internal_strconv_uint64pow10), ("bytes.ErrTooLarge", laid_bytes_ErrTooLarge)] }
def FnNamePlainSaid : Prop := fnNamePlainRow.holds Tryd.pinned (OpenSpec.ofChange fnNamePlainSpec)

/-- ITS FALSE NEIGHBOUR: 'it returns false'. Refute it at one input. -/
def fnNamePlainWrong : ChangeSpec := { name := "fnNamePlain", fn := fun _ => fun
  | [d1, d2, d3, d4] => { results := [.lit (.bool false)], args := [d1, d2, d3, d4] }
  | _ => none }
def FnNamePlainWrongFalsely : Prop := fnNamePlainRow.holds Tryd.pinned (OpenSpec.ofChange fnNamePlainWrong)

/-- 'laws.FnNamesToDatabase': WHATEVER THE INPUT: true; the input reads as it did. -/
def fnNamesToDatabaseSpec : ChangeSpec := { name := "fnNamesToDatabase", fn := fun _ => fun
  | [d1, d2, d3, d4] => { results := [.lit (.bool true)], args := [d1, d2, d3, d4] }
  | _ => none }
def fnNamesToDatabaseRow : OpenClaim := { program := "ytpjadgdimkdblaadoor", sum := "9496534fa1f8164bddeceec37e3dac5864a18387032daa9bb202117609cf9352", func := "given.example/pub-notarial/laws.FnNamesToDatabase", spec := "fnNamesToDatabase", inPlace := ["internal/abi.NoEscape", "internal/bytealg.MakeNoZero"], recurses := true, named := ["internal/strconv.uint64pow10", "math/bits.deBruijn32tab", "math/bits.deBruijn64tab", "bytes.ErrTooLarge"], loops := true, apart := false, laid := [("math/bits.deBruijn32tab", laid_math_bits_deBruijn32tab), ("math/bits.deBruijn64tab", laid_math_bits_deBruijn64tab), ("internal/strconv.uint64pow10", laid_internal_strconv_uint64pow10), ("bytes.ErrTooLarge", laid_bytes_ErrTooLarge)] }
def FnNamesToDatabaseSaid : Prop := fnNamesToDatabaseRow.holds Tryd.pinned (OpenSpec.ofChange fnNamesToDatabaseSpec)

/-- ITS FALSE NEIGHBOUR: 'it returns false'. Refute it at one input. -/
def fnNamesToDatabaseWrong : ChangeSpec := { name := "fnNamesToDatabase", fn := fun _ => fun
  | [d1, d2, d3, d4] => { results := [.lit (.bool false)], args := [d1, d2, d3, d4] }
  | _ => none }
def FnNamesToDatabaseWrongFalsely : Prop := fnNamesToDatabaseRow.holds Tryd.pinned (OpenSpec.ofChange fnNamesToDatabaseWrong)

/- THE SECOND FORM. 'bulk': how many values and letters a reading holds, each counted each time it is reached (what is shared counts as often as it is met; a slice's spare places count too). A statement '..UptoSaid' is the law's where the arguments, and the package variables that the reading takes, are together of bulk at most 1048576: NARROWER than '..Said'. Prove '..Said' where nothing that the law and all that it calls make is longer than what came in: it says more and counts as full. Else prove '..UptoSaid'. A law counts once. -/
mutual
def uptoBulk {H : Type} : DataW H → Nat
  | .lit (.string bytes) => bytes.length + 1
  | .lit _ => 1
  | .nil => 1
  | .ptr d => uptoBulk d + 1
  | .slice elems spare => uptoBulkAll elems + uptoBulkAll spare + 1
  | .agg parts => uptoBulkAll parts + 1
  | .iface _ d => uptoBulk d + 1
  | .map entries => uptoBulkEntries entries + 1
  | .held _ => 1
def uptoBulkAll {H : Type} : List (DataW H) → Nat
  | [] => 0
  | d :: r => uptoBulk d + uptoBulkAll r
def uptoBulkEntries {H : Type} : List (Lit × DataW H) → Nat
  | [] => 0
  | x :: r => uptoBulkEntry x + uptoBulkEntries r
def uptoBulkEntry {H : Type} : Lit × DataW H → Nat
  | (.string bytes, d) => bytes.length + uptoBulk d + 1
  | (_, d) => uptoBulk d + 1
 end
def uptoSmall : (H : Type) → List (DataW H) → Bool := fun _ ds => decide (uptoBulkAll ds ≤ 1048576)
def OpenSpec.upto (s : _root_.Go.ChangeSpec) : _root_.Go.OpenSpec := { _root_.Go.OpenSpec.ofChange s with cond := some uptoSmall }

/-- 'laws.FnNameAlone', WHERE WHAT IT READS IS OF BULK AT MOST 1048576: true; the input reads as it did. -/
def fnNameAloneUptoRow : OpenClaim := { program := "ytpjadgdimkdblaadoor", sum := "9496534fa1f8164bddeceec37e3dac5864a18387032daa9bb202117609cf9352", func := "given.example/pub-notarial/laws.FnNameAlone", spec := "fnNameAlone", named := ["internal/strconv.uint64pow10", "math/bits.deBruijn32tab", "math/bits.deBruijn64tab"], apart := false, laid := [("math/bits.deBruijn32tab", laid_math_bits_deBruijn32tab), ("math/bits.deBruijn64tab", laid_math_bits_deBruijn64tab), ("internal/strconv.uint64pow10", laid_internal_strconv_uint64pow10)], narrowed := true }
def FnNameAloneUptoSaid : Prop := fnNameAloneUptoRow.holds Tryd.pinned (OpenSpec.upto fnNameAloneSpec)

/-- 'laws.FnNameColons', WHERE WHAT IT READS IS OF BULK AT MOST 1048576: true; the input reads as it did. -/
def fnNameColonsUptoRow : OpenClaim := { program := "ytpjadgdimkdblaadoor", sum := "9496534fa1f8164bddeceec37e3dac5864a18387032daa9bb202117609cf9352", func := "given.example/pub-notarial/laws.FnNameColons", spec := "fnNameColons", named := ["internal/strconv.uint64pow10", "math/bits.deBruijn32tab", "math/bits.deBruijn64tab"], apart := false, laid := [("math/bits.deBruijn32tab", laid_math_bits_deBruijn32tab), ("math/bits.deBruijn64tab", laid_math_bits_deBruijn64tab), ("internal/strconv.uint64pow10", laid_internal_strconv_uint64pow10)], narrowed := true }
def FnNameColonsUptoSaid : Prop := fnNameColonsUptoRow.holds Tryd.pinned (OpenSpec.upto fnNameColonsSpec)

/-- 'laws.FnNameTight', WHERE WHAT IT READS IS OF BULK AT MOST 1048576: true; the input reads as it did. -/
def fnNameTightUptoRow : OpenClaim := { program := "ytpjadgdimkdblaadoor", sum := "9496534fa1f8164bddeceec37e3dac5864a18387032daa9bb202117609cf9352", func := "given.example/pub-notarial/laws.FnNameTight", spec := "fnNameTight", named := ["internal/strconv.uint64pow10", "math/bits.deBruijn32tab", "math/bits.deBruijn64tab"], apart := false, laid := [("math/bits.deBruijn32tab", laid_math_bits_deBruijn32tab), ("math/bits.deBruijn64tab", laid_math_bits_deBruijn64tab), ("internal/strconv.uint64pow10", laid_internal_strconv_uint64pow10)], narrowed := true }
def FnNameTightUptoSaid : Prop := fnNameTightUptoRow.holds Tryd.pinned (OpenSpec.upto fnNameTightSpec)

/-- 'laws.FnNamedAgain', WHERE WHAT IT READS IS OF BULK AT MOST 1048576: true; the input reads as it did. -/
def fnNamedAgainUptoRow : OpenClaim := { program := "ytpjadgdimkdblaadoor", sum := "9496534fa1f8164bddeceec37e3dac5864a18387032daa9bb202117609cf9352", func := "given.example/pub-notarial/laws.FnNamedAgain", spec := "fnNamedAgain", recurses := true, named := ["internal/strconv.uint64pow10", "math/bits.deBruijn32tab", "math/bits.deBruijn64tab", "bytes.ErrTooLarge"], loops := true, apart := false, laid := [("math/bits.deBruijn32tab", laid_math_bits_deBruijn32tab), ("math/bits.deBruijn64tab", laid_math_bits_deBruijn64tab), ("internal/strconv.uint64pow10", laid_internal_strconv_uint64pow10), ("bytes.ErrTooLarge", laid_bytes_ErrTooLarge)], narrowed := true }
def FnNamedAgainUptoSaid : Prop := fnNamedAgainUptoRow.holds Tryd.pinned (OpenSpec.upto fnNamedAgainSpec)

/-- 'laws.FnRowsKind', WHERE WHAT IT READS IS OF BULK AT MOST 1048576: true; the input reads as it did. -/
def fnRowsKindUptoRow : OpenClaim := { program := "ytpjadgdimkdblaadoor", sum := "9496534fa1f8164bddeceec37e3dac5864a18387032daa9bb202117609cf9352", func := "given.example/pub-notarial/laws.FnRowsKind", spec := "fnRowsKind", recurses := true, named := ["internal/strconv.uint64pow10", "math/bits.deBruijn32tab", "math/bits.deBruijn64tab", "bytes.ErrTooLarge"], loops := true, apart := false, laid := [("math/bits.deBruijn32tab", laid_math_bits_deBruijn32tab), ("math/bits.deBruijn64tab", laid_math_bits_deBruijn64tab), ("internal/strconv.uint64pow10", laid_internal_strconv_uint64pow10), ("bytes.ErrTooLarge", laid_bytes_ErrTooLarge)], narrowed := true }
def FnRowsKindUptoSaid : Prop := fnRowsKindUptoRow.holds Tryd.pinned (OpenSpec.upto fnRowsKindSpec)

/-- 'laws.FnRowsNested', WHERE WHAT IT READS IS OF BULK AT MOST 1048576: true; the input reads as it did. -/
def fnRowsNestedUptoRow : OpenClaim := { program := "ytpjadgdimkdblaadoor", sum := "9496534fa1f8164bddeceec37e3dac5864a18387032daa9bb202117609cf9352", func := "given.example/pub-notarial/laws.FnRowsNested", spec := "fnRowsNested", recurses := true, named := ["internal/strconv.uint64pow10", "math/bits.deBruijn32tab", "math/bits.deBruijn64tab", "bytes.ErrTooLarge"], loops := true, apart := false, laid := [("math/bits.deBruijn32tab", laid_math_bits_deBruijn32tab), ("math/bits.deBruijn64tab", laid_math_bits_deBruijn64tab), ("internal/strconv.uint64pow10", laid_internal_strconv_uint64pow10), ("bytes.ErrTooLarge", laid_bytes_ErrTooLarge)], narrowed := true }
def FnRowsNestedUptoSaid : Prop := fnRowsNestedUptoRow.holds Tryd.pinned (OpenSpec.upto fnRowsNestedSpec)

/-- 'laws.FnRowsWord', WHERE WHAT IT READS IS OF BULK AT MOST 1048576: true; the input reads as it did. -/
def fnRowsWordUptoRow : OpenClaim := { program := "ytpjadgdimkdblaadoor", sum := "9496534fa1f8164bddeceec37e3dac5864a18387032daa9bb202117609cf9352", func := "given.example/pub-notarial/laws.FnRowsWord", spec := "fnRowsWord", recurses := true, named := ["internal/strconv.uint64pow10", "math/bits.deBruijn32tab", "math/bits.deBruijn64tab", "bytes.ErrTooLarge"], loops := true, apart := false, laid := [("math/bits.deBruijn32tab", laid_math_bits_deBruijn32tab), ("math/bits.deBruijn64tab", laid_math_bits_deBruijn64tab), ("internal/strconv.uint64pow10", laid_internal_strconv_uint64pow10), ("bytes.ErrTooLarge", laid_bytes_ErrTooLarge)], narrowed := true }
def FnRowsWordUptoSaid : Prop := fnRowsWordUptoRow.holds Tryd.pinned (OpenSpec.upto fnRowsWordSpec)

/-- 'laws.FnNamePlain', WHERE WHAT IT READS IS OF BULK AT MOST 1048576: true; the input reads as it did. -/
def fnNamePlainUptoRow : OpenClaim := { program := "ytpjadgdimkdblaadoor", sum := "9496534fa1f8164bddeceec37e3dac5864a18387032daa9bb202117609cf9352", func := "given.example/pub-notarial/laws.FnNamePlain", spec := "fnNamePlain", recurses := true, named := ["internal/strconv.uint64pow10", "math/bits.deBruijn32tab", "math/bits.deBruijn64tab", "bytes.ErrTooLarge"], loops := true, apart := false, laid := [("math/bits.deBruijn32tab", laid_math_bits_deBruijn32tab), ("math/bits.deBruijn64tab", laid_math_bits_deBruijn64tab), ("internal/strconv.uint64pow10", laid_internal_strconv_uint64pow10), ("bytes.ErrTooLarge", laid_bytes_ErrTooLarge)], narrowed := true }
def FnNamePlainUptoSaid : Prop := fnNamePlainUptoRow.holds Tryd.pinned (OpenSpec.upto fnNamePlainSpec)

/-- 'laws.FnNamesToDatabase', WHERE WHAT IT READS IS OF BULK AT MOST 1048576: true; the input reads as it did. -/
def fnNamesToDatabaseUptoRow : OpenClaim := { program := "ytpjadgdimkdblaadoor", sum := "9496534fa1f8164bddeceec37e3dac5864a18387032daa9bb202117609cf9352", func := "given.example/pub-notarial/laws.FnNamesToDatabase", spec := "fnNamesToDatabase", inPlace := ["internal/abi.NoEscape", "internal/bytealg.MakeNoZero"], recurses := true, named := ["internal/strconv.uint64pow10", "math/bits.deBruijn32tab", "math/bits.deBruijn64tab", "bytes.ErrTooLarge"], loops := true, apart := false, laid := [("math/bits.deBruijn32tab", laid_math_bits_deBruijn32tab), ("math/bits.deBruijn64tab", laid_math_bits_deBruijn64tab), ("internal/strconv.uint64pow10", laid_internal_strconv_uint64pow10), ("bytes.ErrTooLarge", laid_bytes_ErrTooLarge)], narrowed := true }
def FnNamesToDatabaseUptoSaid : Prop := fnNamesToDatabaseUptoRow.holds Tryd.pinned (OpenSpec.upto fnNamesToDatabaseSpec)

end Rows
end Go.Proofs.YtpjadgdimkdblaaDoor
