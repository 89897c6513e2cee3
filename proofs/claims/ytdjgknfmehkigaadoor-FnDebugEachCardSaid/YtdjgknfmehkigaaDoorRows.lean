/-
  NARROWER THAN 'FOR EVERY INPUT', by the rows' own cells (each row's printed sentence says how): FnRebindEach: laid · FnRebindOf: laid · FnFormDone: laid · FnFormEach: laid · FnFormQuotes: laid · FnDebugEach: loops, laid · FnDebugMarks: laid.
  DERIVED. THE GIVEN ROWS OF THIS SEAT. 7 by the template 'for every input the law returns true; each argument reads behind the call as it read before'; 0 by the template 'total and deterministic' (their statements: YtdjgknfmehkigaaDoorTotals.lean).
  GIVEN WITH THE SEED: the statements are not yours to turn. If you find one false, say at which input.
  Laid BY PROGRAM, IN A SANDBOX (cutbox-rows.mjs): the forced cells as the released guide's own fill.sh prints them over the translation c16e5ad66a244a60… (all of the seat's roots in one cut). By AI agents, Wed Nov 11 2026. No macro, syntax, notation, axiom, sorry.
-/
import Derived.Test.YtdjgknfmehkigaaDoorChecked
import GoSem.Claim
import GoSem.ClaimJoined
import GoSem.ClaimMapViews
import Derived.JoinedTies
import Derived.KernelRfl
namespace Go.Proofs.YtdjgknfmehkigaaDoor
/- THE CELL 'sum', in the pinned program and in every row, IS THE sha256 OF THE DUMP (.gsa) THAT YtdjgknfmehkigaaDoorProg.lean LOADS. Nothing in Lean hashes anything: it is a label: what it is worth is what the hold of that sum in a sandbox is worth. -/
noncomputable def Tryd.pinned : Pinned := { name := "ytdjgknfmehkigaadoor", sum := "c16e5ad66a244a6083469c9af4f8008c9d27acae1cc3398dfbea7bbf5334e2c8", checked := Tryd.checked }
namespace Rows
def none {H : Type} : Left H := { results := [], args := [] }

/- WHAT THE LISTED PACKAGE-LEVEL VARIABLES READ AS WHEN THE CALL BEGINS. Each datum BY PROGRAM (the guide's laid-datum.mjs) off the statement by which the dump's own 'gosem.cut.vars' lays the variable. In a bare row this is a premise. The card (YtdjgknfmehkigaaDoorCards.lean) ties it to the program's text. -/
def laid_math_bits_deBruijn32tab {H : Type} : DataW H := .agg [.lit (.int .u8 0), .lit (.int .u8 1), .lit (.int .u8 28), .lit (.int .u8 2), .lit (.int .u8 29), .lit (.int .u8 14), .lit (.int .u8 24), .lit (.int .u8 3), .lit (.int .u8 30), .lit (.int .u8 22), .lit (.int .u8 20), .lit (.int .u8 15), .lit (.int .u8 25), .lit (.int .u8 17), .lit (.int .u8 4), .lit (.int .u8 8), .lit (.int .u8 31), .lit (.int .u8 27), .lit (.int .u8 13), .lit (.int .u8 23), .lit (.int .u8 21), .lit (.int .u8 19), .lit (.int .u8 16), .lit (.int .u8 7), .lit (.int .u8 26), .lit (.int .u8 12), .lit (.int .u8 18), .lit (.int .u8 6), .lit (.int .u8 11), .lit (.int .u8 5), .lit (.int .u8 10), .lit (.int .u8 9)]
def laid_math_bits_deBruijn64tab {H : Type} : DataW H := .agg [.lit (.int .u8 0), .lit (.int .u8 1), .lit (.int .u8 56), .lit (.int .u8 2), .lit (.int .u8 57), .lit (.int .u8 49), .lit (.int .u8 28), .lit (.int .u8 3), .lit (.int .u8 61), .lit (.int .u8 58), .lit (.int .u8 42), .lit (.int .u8 50), .lit (.int .u8 38), .lit (.int .u8 29), .lit (.int .u8 17), .lit (.int .u8 4), .lit (.int .u8 62), .lit (.int .u8 47), .lit (.int .u8 59), .lit (.int .u8 36), .lit (.int .u8 45), .lit (.int .u8 43), .lit (.int .u8 51), .lit (.int .u8 22), .lit (.int .u8 53), .lit (.int .u8 39), .lit (.int .u8 33), .lit (.int .u8 30), .lit (.int .u8 24), .lit (.int .u8 18), .lit (.int .u8 12), .lit (.int .u8 5), .lit (.int .u8 63), .lit (.int .u8 55), .lit (.int .u8 48), .lit (.int .u8 27), .lit (.int .u8 60), .lit (.int .u8 41), .lit (.int .u8 37), .lit (.int .u8 16), .lit (.int .u8 46), .lit (.int .u8 35), .lit (.int .u8 44), .lit (.int .u8 21), .lit (.int .u8 52), .lit (.int .u8 32), .lit (.int .u8 23), .lit (.int .u8 11), .lit (.int .u8 54), .lit (.int .u8 26), .lit (.int .u8 40), .lit (.int .u8 15), .lit (.int .u8 34), .lit (.int .u8 20), .lit (.int .u8 31), .lit (.int .u8 10), .lit (.int .u8 25), .lit (.int .u8 14), .lit (.int .u8 19), .lit (.int .u8 9), .lit (.int .u8 13), .lit (.int .u8 8), .lit (.int .u8 7), .lit (.int .u8 6)]
def laid_internal_strconv_uint64pow10 {H : Type} : DataW H := .agg [.lit (.int .u64 1), .lit (.int .u64 10), .lit (.int .u64 100), .lit (.int .u64 1000), .lit (.int .u64 10000), .lit (.int .u64 100000), .lit (.int .u64 1000000), .lit (.int .u64 10000000), .lit (.int .u64 100000000), .lit (.int .u64 1000000000), .lit (.int .u64 10000000000), .lit (.int .u64 100000000000), .lit (.int .u64 1000000000000), .lit (.int .u64 10000000000000), .lit (.int .u64 100000000000000), .lit (.int .u64 1000000000000000), .lit (.int .u64 10000000000000000), .lit (.int .u64 100000000000000000), .lit (.int .u64 1000000000000000000), .lit (.int .u64 10000000000000000000)]
def laid_given_example_pub_notarial_pub_squirrel_Question {H : Type} : DataW H := .agg []
def laid_given_example_pub_notarial_pub_squirrel_Dollar {H : Type} : DataW H := .agg []
def laid_given_example_pub_notarial_pub_squirrel_Colon {H : Type} : DataW H := .agg []
def laid_given_example_pub_notarial_pub_squirrel_AtP {H : Type} : DataW H := .agg []
def laid_bytes_ErrTooLarge {H : Type} : DataW H := .iface "*errors.errorString" (.ptr (.agg [.lit (.string [98, 121, 116, 101, 115, 46, 66, 117, 102, 102, 101, 114, 58, 32, 116, 111, 111, 32, 108, 97, 114, 103, 101])]))

/-- 'laws.FnRebindEach': WHATEVER THE INPUT: true; the input reads as it did. -/
def fnRebindEachSpec : ChangeSpec := { name := "fnRebindEach", fn := fun _ => fun
  | [d1, d2] => { results := [.lit (.bool true)], args := [d1, d2] }
  | _ => none }
def fnRebindEachRow : OpenClaim := { program := "ytdjgknfmehkigaadoor", sum := "c16e5ad66a244a6083469c9af4f8008c9d27acae1cc3398dfbea7bbf5334e2c8", func := "given.example/pub-notarial/laws.FnRebindEach", spec := "fnRebindEach", unfollowed := true, recurses := true, named := ["internal/strconv.uint64pow10", "math/bits.deBruijn32tab", "math/bits.deBruijn64tab"], apart := false, laid := [("math/bits.deBruijn32tab", laid_math_bits_deBruijn32tab), ("math/bits.deBruijn64tab", laid_math_bits_deBruijn64tab), ("internal/strconv.uint64pow10", laid_internal_strconv_uint64pow10)] }
def FnRebindEachSaid : Prop := fnRebindEachRow.holds Tryd.pinned (OpenSpec.ofChange fnRebindEachSpec)

/-- ITS FALSE NEIGHBOUR: 'it returns false'. Refute it at one input. -/
def fnRebindEachWrong : ChangeSpec := { name := "fnRebindEach", fn := fun _ => fun
  | [d1, d2] => { results := [.lit (.bool false)], args := [d1, d2] }
  | _ => none }
def FnRebindEachWrongFalsely : Prop := fnRebindEachRow.holds Tryd.pinned (OpenSpec.ofChange fnRebindEachWrong)

/-- 'laws.FnRebindOf': WHATEVER THE INPUT: true; the input reads as it did. -/
def fnRebindOfSpec : ChangeSpec := { name := "fnRebindOf", fn := fun _ => fun
  | [d1, d2] => { results := [.lit (.bool true)], args := [d1, d2] }
  | _ => none }
def fnRebindOfRow : OpenClaim := { program := "ytdjgknfmehkigaadoor", sum := "c16e5ad66a244a6083469c9af4f8008c9d27acae1cc3398dfbea7bbf5334e2c8", func := "given.example/pub-notarial/laws.FnRebindOf", spec := "fnRebindOf", unfollowed := true, recurses := true, named := ["internal/strconv.uint64pow10", "math/bits.deBruijn32tab", "math/bits.deBruijn64tab"], apart := false, laid := [("math/bits.deBruijn32tab", laid_math_bits_deBruijn32tab), ("math/bits.deBruijn64tab", laid_math_bits_deBruijn64tab), ("internal/strconv.uint64pow10", laid_internal_strconv_uint64pow10)] }
def FnRebindOfSaid : Prop := fnRebindOfRow.holds Tryd.pinned (OpenSpec.ofChange fnRebindOfSpec)

/-- ITS FALSE NEIGHBOUR: 'it returns false'. Refute it at one input. -/
def fnRebindOfWrong : ChangeSpec := { name := "fnRebindOf", fn := fun _ => fun
  | [d1, d2] => { results := [.lit (.bool false)], args := [d1, d2] }
  | _ => none }
def FnRebindOfWrongFalsely : Prop := fnRebindOfRow.holds Tryd.pinned (OpenSpec.ofChange fnRebindOfWrong)

/-- 'laws.FnFormDone': WHATEVER THE INPUT: true; the input reads as it did. -/
def fnFormDoneSpec : ChangeSpec := { name := "fnFormDone", vars := ["given.example/pub-notarial/pub/squirrel.Question", "given.example/pub-notarial/pub/squirrel.Dollar", "given.example/pub-notarial/pub/squirrel.Colon", "given.example/pub-notarial/pub/squirrel.AtP"], fn := fun _ => fun
  | [d1, d2, d3, g1, g2, g3, g4] => { results := [.lit (.bool true)], args := [d1, d2, d3], vars := [g1, g2, g3, g4] }
  | _ => none }
def fnFormDoneRow : OpenClaim := { program := "ytdjgknfmehkigaadoor", sum := "c16e5ad66a244a6083469c9af4f8008c9d27acae1cc3398dfbea7bbf5334e2c8", func := "given.example/pub-notarial/laws.FnFormDone", spec := "fnFormDone", unfollowed := true, recurses := true, named := ["given.example/pub-notarial/pub/squirrel.Question", "given.example/pub-notarial/pub/squirrel.Dollar", "given.example/pub-notarial/pub/squirrel.Colon", "given.example/pub-notarial/pub/squirrel.AtP"], apart := false, laid := [("given.example/pub-notarial/pub/squirrel.Question", laid_given_example_pub_notarial_pub_squirrel_Question), ("given.example/pub-notarial/pub/squirrel.Dollar", laid_given_example_pub_notarial_pub_squirrel_Dollar), ("given.example/pub-notarial/pub/squirrel.Colon", laid_given_example_pub_notarial_pub_squirrel_Colon), ("given.example/pub-notarial/pub/squirrel.AtP", laid_given_example_pub_notarial_pub_squirrel_AtP)] }
def FnFormDoneSaid : Prop := fnFormDoneRow.holds Tryd.pinned (OpenSpec.ofChange fnFormDoneSpec)

/-- ITS FALSE NEIGHBOUR: 'it returns false'. Refute it at one input. -/
def fnFormDoneWrong : ChangeSpec := { name := "fnFormDone", vars := ["given.example/pub-notarial/pub/squirrel.Question", "given.example/pub-notarial/pub/squirrel.Dollar", "given.example/pub-notarial/pub/squirrel.Colon", "given.example/pub-notarial/pub/squirrel.AtP"], fn := fun _ => fun
  | [d1, d2, d3, g1, g2, g3, g4] => { results := [.lit (.bool false)], args := [d1, d2, d3], vars := [g1, g2, g3, g4] }
  | _ => none }
def FnFormDoneWrongFalsely : Prop := fnFormDoneRow.holds Tryd.pinned (OpenSpec.ofChange fnFormDoneWrong)

/-- 'laws.FnFormEach': WHATEVER THE INPUT: true; the input reads as it did. -/
def fnFormEachSpec : ChangeSpec := { name := "fnFormEach", vars := ["given.example/pub-notarial/pub/squirrel.Question", "given.example/pub-notarial/pub/squirrel.Dollar", "given.example/pub-notarial/pub/squirrel.Colon", "given.example/pub-notarial/pub/squirrel.AtP"], fn := fun _ => fun
  | [d1, d2, g1, g2, g3, g4] => { results := [.lit (.bool true)], args := [d1, d2], vars := [g1, g2, g3, g4] }
  | _ => none }
def fnFormEachRow : OpenClaim := { program := "ytdjgknfmehkigaadoor", sum := "c16e5ad66a244a6083469c9af4f8008c9d27acae1cc3398dfbea7bbf5334e2c8", func := "given.example/pub-notarial/laws.FnFormEach", spec := "fnFormEach", unfollowed := true, recurses := true, named := ["given.example/pub-notarial/pub/squirrel.Question", "given.example/pub-notarial/pub/squirrel.Dollar", "given.example/pub-notarial/pub/squirrel.Colon", "given.example/pub-notarial/pub/squirrel.AtP"], apart := false, laid := [("given.example/pub-notarial/pub/squirrel.Question", laid_given_example_pub_notarial_pub_squirrel_Question), ("given.example/pub-notarial/pub/squirrel.Dollar", laid_given_example_pub_notarial_pub_squirrel_Dollar), ("given.example/pub-notarial/pub/squirrel.Colon", laid_given_example_pub_notarial_pub_squirrel_Colon), ("given.example/pub-notarial/pub/squirrel.AtP", laid_given_example_pub_notarial_pub_squirrel_AtP)] }
def FnFormEachSaid : Prop := fnFormEachRow.holds Tryd.pinned (OpenSpec.ofChange fnFormEachSpec)

/-- ITS FALSE NEIGHBOUR: 'it returns false'. Refute it at one input. -/
def fnFormEachWrong : ChangeSpec := { name := "fnFormEach", vars := ["given.example/pub-notarial/pub/squirrel.Question", "given.example/pub-notarial/pub/squirrel.Dollar", "given.example/pub-notarial/pub/squirrel.Colon", "given.example/pub-notarial/pub/squirrel.AtP"], fn := fun _ => fun
  | [d1, d2, g1, g2, g3, g4] => { results := [.lit (.bool false)], args := [d1, d2], vars := [g1, g2, g3, g4] }
  | _ => none }
def FnFormEachWrongFalsely : Prop := fnFormEachRow.holds Tryd.pinned (OpenSpec.ofChange fnFormEachWrong)

/-- 'laws.FnFormQuotes': WHATEVER THE INPUT: true; the input reads as it did. -/
def fnFormQuotesSpec : ChangeSpec := { name := "fnFormQuotes", vars := ["given.example/pub-notarial/pub/squirrel.Question", "given.example/pub-notarial/pub/squirrel.Dollar", "given.example/pub-notarial/pub/squirrel.Colon", "given.example/pub-notarial/pub/squirrel.AtP"], fn := fun _ => fun
  | [d1, d2, d3, d4, g1, g2, g3, g4] => { results := [.lit (.bool true)], args := [d1, d2, d3, d4], vars := [g1, g2, g3, g4] }
  | _ => none }
def fnFormQuotesRow : OpenClaim := { program := "ytdjgknfmehkigaadoor", sum := "c16e5ad66a244a6083469c9af4f8008c9d27acae1cc3398dfbea7bbf5334e2c8", func := "given.example/pub-notarial/laws.FnFormQuotes", spec := "fnFormQuotes", unfollowed := true, recurses := true, named := ["given.example/pub-notarial/pub/squirrel.Question", "given.example/pub-notarial/pub/squirrel.Dollar", "given.example/pub-notarial/pub/squirrel.Colon", "given.example/pub-notarial/pub/squirrel.AtP"], apart := false, laid := [("given.example/pub-notarial/pub/squirrel.Question", laid_given_example_pub_notarial_pub_squirrel_Question), ("given.example/pub-notarial/pub/squirrel.Dollar", laid_given_example_pub_notarial_pub_squirrel_Dollar), ("given.example/pub-notarial/pub/squirrel.Colon", laid_given_example_pub_notarial_pub_squirrel_Colon), ("given.example/pub-notarial/pub/squirrel.AtP", laid_given_example_pub_notarial_pub_squirrel_AtP)] }
def FnFormQuotesSaid : Prop := fnFormQuotesRow.holds Tryd.pinned (OpenSpec.ofChange fnFormQuotesSpec)

/-- ITS FALSE NEIGHBOUR: 'it returns false'. Refute it at one input. -/
def fnFormQuotesWrong : ChangeSpec := { name := "fnFormQuotes", vars := ["given.example/pub-notarial/pub/squirrel.Question", "given.example/pub-notarial/pub/squirrel.Dollar", "given.example/pub-notarial/pub/squirrel.Colon", "given.example/pub-notarial/pub/squirrel.AtP"], fn := fun _ => fun
  | [d1, d2, d3, d4, g1, g2, g3, g4] => { results := [.lit (.bool false)], args := [d1, d2, d3, d4], vars := [g1, g2, g3, g4] }
  | _ => none }
def FnFormQuotesWrongFalsely : Prop := fnFormQuotesRow.holds Tryd.pinned (OpenSpec.ofChange fnFormQuotesWrong)

/-- 'laws.FnDebugEach': WHATEVER THE INPUT: true; the input reads as it did. -/
def fnDebugEachSpec : ChangeSpec := { name := "fnDebugEach", fn := fun _ => fun
  | [d1, d2] => { results := [.lit (.bool true)], args := [d1, d2] }
  | _ => none }
def fnDebugEachRow : OpenClaim := { program := "ytdjgknfmehkigaadoor", sum := "c16e5ad66a244a6083469c9af4f8008c9d27acae1cc3398dfbea7bbf5334e2c8", func := "given.example/pub-notarial/laws.FnDebugEach", spec := "fnDebugEach", unfollowed := true, recurses := true, named := ["bytes.ErrTooLarge", "internal/strconv.uint64pow10", "math/bits.deBruijn32tab", "math/bits.deBruijn64tab"], loops := true, apart := false, laid := [("math/bits.deBruijn32tab", laid_math_bits_deBruijn32tab), ("math/bits.deBruijn64tab", laid_math_bits_deBruijn64tab), ("internal/strconv.uint64pow10", laid_internal_strconv_uint64pow10), ("bytes.ErrTooLarge", laid_bytes_ErrTooLarge)] }
def FnDebugEachSaid : Prop := fnDebugEachRow.holds Tryd.pinned (OpenSpec.ofChange fnDebugEachSpec)

/-- ITS FALSE NEIGHBOUR: 'it returns false'. Refute it at one input. -/
def fnDebugEachWrong : ChangeSpec := { name := "fnDebugEach", fn := fun _ => fun
  | [d1, d2] => { results := [.lit (.bool false)], args := [d1, d2] }
  | _ => none }
def FnDebugEachWrongFalsely : Prop := fnDebugEachRow.holds Tryd.pinned (OpenSpec.ofChange fnDebugEachWrong)

/-- 'laws.FnDebugMarks': WHATEVER THE INPUT: true; the input reads as it did. -/
def fnDebugMarksSpec : ChangeSpec := { name := "fnDebugMarks", fn := fun _ => fun
  | [d1, d2, d3] => { results := [.lit (.bool true)], args := [d1, d2, d3] }
  | _ => none }
def fnDebugMarksRow : OpenClaim := { program := "ytdjgknfmehkigaadoor", sum := "c16e5ad66a244a6083469c9af4f8008c9d27acae1cc3398dfbea7bbf5334e2c8", func := "given.example/pub-notarial/laws.FnDebugMarks", spec := "fnDebugMarks", unfollowed := true, recurses := true, named := ["bytes.ErrTooLarge", "internal/strconv.uint64pow10", "math/bits.deBruijn32tab", "math/bits.deBruijn64tab"], apart := false, laid := [("math/bits.deBruijn32tab", laid_math_bits_deBruijn32tab), ("math/bits.deBruijn64tab", laid_math_bits_deBruijn64tab), ("internal/strconv.uint64pow10", laid_internal_strconv_uint64pow10), ("bytes.ErrTooLarge", laid_bytes_ErrTooLarge)] }
def FnDebugMarksSaid : Prop := fnDebugMarksRow.holds Tryd.pinned (OpenSpec.ofChange fnDebugMarksSpec)

/-- ITS FALSE NEIGHBOUR: 'it returns false'. Refute it at one input. -/
def fnDebugMarksWrong : ChangeSpec := { name := "fnDebugMarks", fn := fun _ => fun
  | [d1, d2, d3] => { results := [.lit (.bool false)], args := [d1, d2, d3] }
  | _ => none }
def FnDebugMarksWrongFalsely : Prop := fnDebugMarksRow.holds Tryd.pinned (OpenSpec.ofChange fnDebugMarksWrong)

/- THE SECOND FORM. 'bulk': how many values and letters a reading holds, each counted each time it is reached (what is shared counts as often as it is met; a slice's spare places count too). A statement '..UptoSaid' is the law's where the arguments, and the package variables that the reading takes, are together of bulk at most 1048576: NARROWER than '..Said'. Prove '..Said' where nothing that the law and all that it calls make is longer than what came in: it says more and counts as full. Else prove '..UptoSaid'. A law counts once. -/
mutual
def uptoBulk {H : Type} : DataW H → Nat
  | .lit (.string bytes) => bytes.length + 1
  | .lit _ => 1
  | .nil => 1
  | .ptr d => uptoBulk d + 1
  | .slice elems spare => uptoBulkAll elems + uptoBulkAll spare + 1
  | .agg parts => uptoBulkAll parts + 1
  | .iface _ d => uptoBulk d + 1
  | .map entries => uptoBulkEntries entries + 1
  | .held _ => 1
def uptoBulkAll {H : Type} : List (DataW H) → Nat
  | [] => 0
  | d :: r => uptoBulk d + uptoBulkAll r
def uptoBulkEntries {H : Type} : List (Lit × DataW H) → Nat
  | [] => 0
  | x :: r => uptoBulkEntry x + uptoBulkEntries r
def uptoBulkEntry {H : Type} : Lit × DataW H → Nat
  | (.string bytes, d) => bytes.length + uptoBulk d + 1
  | (_, d) => uptoBulk d + 1
 end
def uptoSmall : (H : Type) → List (DataW H) → Bool := fun _ ds => decide (uptoBulkAll ds ≤ 1048576)
def OpenSpec.upto (s : _root_.Go.ChangeSpec) : _root_.Go.OpenSpec := { _root_.Go.OpenSpec.ofChange s with cond := some uptoSmall }

/-- 'laws.FnRebindEach', WHERE WHAT IT READS IS OF BULK AT MOST 1048576: true; the input reads as it did. -/
def fnRebindEachUptoRow : OpenClaim := { program := "ytdjgknfmehkigaadoor", sum := "c16e5ad66a244a6083469c9af4f8008c9d27acae1cc3398dfbea7bbf5334e2c8", func := "given.example/pub-notarial/laws.FnRebindEach", spec := "fnRebindEach", unfollowed := true, recurses := true, named := ["internal/strconv.uint64pow10", "math/bits.deBruijn32tab", "math/bits.deBruijn64tab"], apart := false, laid := [("math/bits.deBruijn32tab", laid_math_bits_deBruijn32tab), ("math/bits.deBruijn64tab", laid_math_bits_deBruijn64tab), ("internal/strconv.uint64pow10", laid_internal_strconv_uint64pow10)], narrowed := true }
def FnRebindEachUptoSaid : Prop := fnRebindEachUptoRow.holds Tryd.pinned (OpenSpec.upto fnRebindEachSpec)

/-- 'laws.FnRebindOf', WHERE WHAT IT READS IS OF BULK AT MOST 1048576: true; the input reads as it did. -/
def fnRebindOfUptoRow : OpenClaim := { program := "ytdjgknfmehkigaadoor", sum := "c16e5ad66a244a6083469c9af4f8008c9d27acae1cc3398dfbea7bbf5334e2c8", func := "given.example/pub-notarial/laws.FnRebindOf", spec := "fnRebindOf", unfollowed := true, recurses := true, named := ["internal/strconv.uint64pow10", "math/bits.deBruijn32tab", "math/bits.deBruijn64tab"], apart := false, laid := [("math/bits.deBruijn32tab", laid_math_bits_deBruijn32tab), ("math/bits.deBruijn64tab", laid_math_bits_deBruijn64tab), ("internal/strconv.uint64pow10", laid_internal_strconv_uint64pow10)], narrowed := true }
def FnRebindOfUptoSaid : Prop := fnRebindOfUptoRow.holds Tryd.pinned (OpenSpec.upto fnRebindOfSpec)

/-- 'laws.FnFormDone', WHERE WHAT IT READS IS OF BULK AT MOST 1048576: true; the input reads as it did. -/
def fnFormDoneUptoRow : OpenClaim := { program := "ytdjgknfmehkigaadoor", sum := "c16e5ad66a244a6083469c9af4f8008c9d27acae1cc3398dfbea7bbf5334e2c8", func := "given.example/pub-notarial/laws.FnFormDone", spec := "fnFormDone", unfollowed := true, recurses := true, named := ["given.example/pub-notarial/pub/squirrel.Question", "given.example/pub-notarial/pub/squirrel.Dollar", "given.example/pub-notarial/pub/squirrel.Colon", "given.example/pub-notarial/pub/squirrel.AtP"], apart := false, laid := [("given.example/pub-notarial/pub/squirrel.Question", laid_given_example_pub_notarial_pub_squirrel_Question), ("given.example/pub-notarial/pub/squirrel.Dollar", laid_given_example_pub_notarial_pub_squirrel_Dollar), ("given.example/pub-notarial/pub/squirrel.Colon", laid_given_example_pub_notarial_pub_squirrel_Colon), ("given.example/pub-notarial/pub/squirrel.AtP", laid_given_example_pub_notarial_pub_squirrel_AtP)], narrowed := true }
def FnFormDoneUptoSaid : Prop := fnFormDoneUptoRow.holds Tryd.pinned (OpenSpec.upto fnFormDoneSpec)

/-- 'laws.FnFormEach', WHERE WHAT IT READS IS OF BULK AT MOST 1048576: true; the input reads as it did. -/
def fnFormEachUptoRow : OpenClaim := { program := "ytdjgknfmehkigaadoor", sum := "c16e5ad66a244a6083469c9af4f8008c9d27acae1cc3398dfbea7bbf5334e2c8", func := "given.example/pub-notarial/laws.FnFormEach", spec := "fnFormEach", unfollowed := true, recurses := true, named := ["given.example/pub-notarial/pub/squirrel.Question", "given.example/pub-notarial/pub/squirrel.Dollar", "given.example/pub-notarial/pub/squirrel.Colon", "given.example/pub-notarial/pub/squirrel.AtP"], apart := false, laid := [("given.example/pub-notarial/pub/squirrel.Question", laid_given_example_pub_notarial_pub_squirrel_Question), ("given.example/pub-notarial/pub/squirrel.Dollar", laid_given_example_pub_notarial_pub_squirrel_Dollar), ("given.example/pub-notarial/pub/squirrel.Colon", laid_given_example_pub_notarial_pub_squirrel_Colon), ("given.example/pub-notarial/pub/squirrel.AtP", laid_given_example_pub_notarial_pub_squirrel_AtP)], narrowed := true }
def FnFormEachUptoSaid : Prop := fnFormEachUptoRow.holds Tryd.pinned (OpenSpec.upto fnFormEachSpec)

/-- 'laws.FnFormQuotes', WHERE WHAT IT READS IS OF BULK AT MOST 1048576: true; the input reads as it did. -/
def fnFormQuotesUptoRow : OpenClaim := { program := "ytdjgknfmehkigaadoor", sum := "c16e5ad66a244a6083469c9af4f8008c9d27acae1cc3398dfbea7bbf5334e2c8", func := "given.example/pub-notarial/laws.FnFormQuotes", spec := "fnFormQuotes", unfollowed := true, recurses := true, named := ["given.example/pub-notarial/pub/squirrel.Question", "given.example/pub-notarial/pub/squirrel.Dollar", "given.example/pub-notarial/pub/squirrel.Colon", "given.example/pub-notarial/pub/squirrel.AtP"], apart := false, laid := [("given.example/pub-notarial/pub/squirrel.Question", laid_given_example_pub_notarial_pub_squirrel_Question), ("given.example/pub-notarial/pub/squirrel.Dollar", laid_given_example_pub_notarial_pub_squirrel_Dollar), ("given.example/pub-notarial/pub/squirrel.Colon", laid_given_example_pub_notarial_pub_squirrel_Colon), ("given.example/pub-notarial/pub/squirrel.AtP", laid_given_example_pub_notarial_pub_squirrel_AtP)], narrowed := true }
def FnFormQuotesUptoSaid : Prop := fnFormQuotesUptoRow.holds Tryd.pinned (OpenSpec.upto fnFormQuotesSpec)

/-- 'laws.FnDebugEach', WHERE WHAT IT READS IS OF BULK AT MOST 1048576: true; the input reads as it did. -/
def fnDebugEachUptoRow : OpenClaim := { program := "ytdjgknfmehkigaadoor", sum := "c16e5ad66a244a6083469c9af4f8008c9d27acae1cc3398dfbea7bbf5334e2c8", func := "given.example/pub-notarial/laws.FnDebugEach", spec := "fnDebugEach", unfollowed := true, recurses := true, named := ["bytes.ErrTooLarge", "internal/strconv.uint64pow10", "math/bits.deBruijn32tab", "math/bits.deBruijn64tab"], loops := true, apart := false, laid := [("math/bits.deBruijn32tab", laid_math_bits_deBruijn32tab), ("math/bits.deBruijn64tab", laid_math_bits_deBruijn64tab), ("internal/strconv.uint64pow10", laid_internal_strconv_uint64pow10), ("bytes.ErrTooLarge", laid_bytes_ErrTooLarge)], narrowed := true }
def FnDebugEachUptoSaid : Prop := fnDebugEachUptoRow.holds Tryd.pinned (OpenSpec.upto fnDebugEachSpec)

/-- 'laws.FnDebugMarks', WHERE WHAT IT READS IS OF BULK AT MOST 1048576: true; the input reads as it did. -/
def fnDebugMarksUptoRow : OpenClaim := { program := "ytdjgknfmehkigaadoor", sum := "c16e5ad66a244a6083469c9af4f8008c9d27acae1cc3398dfbea7bbf5334e2c8", func := "given.example/pub-notarial/laws.FnDebugMarks", spec := "fnDebugMarks", unfollowed := true, recurses := true, named := ["bytes.ErrTooLarge", "internal/strconv.uint64pow10", "math/bits.deBruijn32tab", "math/bits.deBruijn64tab"], apart := false, laid := [("math/bits.deBruijn32tab", laid_math_bits_deBruijn32tab), ("math/bits.deBruijn64tab", laid_math_bits_deBruijn64tab), ("internal/strconv.uint64pow10", laid_internal_strconv_uint64pow10), ("bytes.ErrTooLarge", laid_bytes_ErrTooLarge)], narrowed := true }
def FnDebugMarksUptoSaid : Prop := fnDebugMarksUptoRow.holds Tryd.pinned (OpenSpec.upto fnDebugMarksSpec)

end Rows
end Go.Proofs.YtdjgknfmehkigaaDoor
