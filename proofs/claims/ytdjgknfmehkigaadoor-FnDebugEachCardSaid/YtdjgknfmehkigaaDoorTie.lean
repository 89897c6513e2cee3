/-
  DERIVED. GIVEN WITH THE SEED: THE PROGRAM's TIES (one call each: nine closed facts by the kernel) AND EACH ROW's TIE, after the 31st guide's Derived/Test/Toyas{Tie, Card}.lean. No idea stands in it: it is a product of the set-up. Laid BY PROGRAM, IN A SANDBOX (cutbox-door.mjs). By AI agents, Wed Nov 11 2026. No macro, syntax, notation, axiom, sorry.
-/
import Derived.Test.YtdjgknfmehkigaaDoorRows
import Derived.LaidByTextLater
import Derived.SevenTiedAt
import Derived.LaidSub
import Derived.LaidOnce
namespace Go.Proofs.YtdjgknfmehkigaaDoor
open Go
set_option maxRecDepth 100000
theorem seatTie1 : Tryd.prog.laidByTextLater [("math/bits.deBruijn32tab", Rows.laid_math_bits_deBruijn32tab), ("math/bits.deBruijn64tab", Rows.laid_math_bits_deBruijn64tab), ("internal/strconv.uint64pow10", Rows.laid_internal_strconv_uint64pow10), ("bytes.ErrTooLarge", Rows.laid_bytes_ErrTooLarge), ("given.example/pub-notarial/pub/squirrel.Question", Rows.laid_given_example_pub_notarial_pub_squirrel_Question), ("given.example/pub-notarial/pub/squirrel.Dollar", Rows.laid_given_example_pub_notarial_pub_squirrel_Dollar), ("given.example/pub-notarial/pub/squirrel.Colon", Rows.laid_given_example_pub_notarial_pub_squirrel_Colon), ("given.example/pub-notarial/pub/squirrel.AtP", Rows.laid_given_example_pub_notarial_pub_squirrel_AtP)] [.data, .data, .data, .sentinel, .data, .data, .data, .data] true :=
  Program.laidByTextLater_by_one 63 8 65 (by kernel_rfl) (by kernel_rfl) (by kernel_rfl) (by kernel_rfl) (by kernel_rfl) (by kernel_rfl) (fun _ _ => by kernel_rfl)
theorem noOwnUnsafe : Tryd.pinned.checked.prog.headLifts.contains "ownunsafe" = false := by kernel_rfl
theorem tie : Tryd.prog.laidByTextLater [("math/bits.deBruijn32tab", Rows.laid_math_bits_deBruijn32tab), ("math/bits.deBruijn64tab", Rows.laid_math_bits_deBruijn64tab), ("internal/strconv.uint64pow10", Rows.laid_internal_strconv_uint64pow10)] [.data, .data, .data] true :=
  Program.laidByTextLater.sub seatTie1 ["math/bits.deBruijn32tab", "math/bits.deBruijn64tab", "internal/strconv.uint64pow10"] (by kernel_rfl) (by kernel_rfl)
theorem fnRebindEach_row_tie : Rows.fnRebindEachRow.laidByTextAt .later Tryd.pinned [.data, .data, .data] true :=
  OpenClaim.laidByTextAt_later rfl rfl tie noOwnUnsafe
theorem fnRebindOf_row_tie : Rows.fnRebindOfRow.laidByTextAt .later Tryd.pinned [.data, .data, .data] true :=
  OpenClaim.laidByTextAt_later rfl rfl tie noOwnUnsafe
theorem tie2 : Tryd.prog.laidByTextLater [("given.example/pub-notarial/pub/squirrel.Question", Rows.laid_given_example_pub_notarial_pub_squirrel_Question), ("given.example/pub-notarial/pub/squirrel.Dollar", Rows.laid_given_example_pub_notarial_pub_squirrel_Dollar), ("given.example/pub-notarial/pub/squirrel.Colon", Rows.laid_given_example_pub_notarial_pub_squirrel_Colon), ("given.example/pub-notarial/pub/squirrel.AtP", Rows.laid_given_example_pub_notarial_pub_squirrel_AtP)] [.data, .data, .data, .data] true :=
  Program.laidByTextLater.sub seatTie1 ["given.example/pub-notarial/pub/squirrel.Question", "given.example/pub-notarial/pub/squirrel.Dollar", "given.example/pub-notarial/pub/squirrel.Colon", "given.example/pub-notarial/pub/squirrel.AtP"] (by kernel_rfl) (by kernel_rfl)
theorem fnFormDone_row_tie : Rows.fnFormDoneRow.laidByTextAt .later Tryd.pinned [.data, .data, .data, .data] true :=
  OpenClaim.laidByTextAt_later rfl rfl tie2 noOwnUnsafe
theorem fnFormEach_row_tie : Rows.fnFormEachRow.laidByTextAt .later Tryd.pinned [.data, .data, .data, .data] true :=
  OpenClaim.laidByTextAt_later rfl rfl tie2 noOwnUnsafe
theorem fnFormQuotes_row_tie : Rows.fnFormQuotesRow.laidByTextAt .later Tryd.pinned [.data, .data, .data, .data] true :=
  OpenClaim.laidByTextAt_later rfl rfl tie2 noOwnUnsafe
theorem tie3 : Tryd.prog.laidByTextLater [("math/bits.deBruijn32tab", Rows.laid_math_bits_deBruijn32tab), ("math/bits.deBruijn64tab", Rows.laid_math_bits_deBruijn64tab), ("internal/strconv.uint64pow10", Rows.laid_internal_strconv_uint64pow10), ("bytes.ErrTooLarge", Rows.laid_bytes_ErrTooLarge)] [.data, .data, .data, .sentinel] true :=
  Program.laidByTextLater.sub seatTie1 ["math/bits.deBruijn32tab", "math/bits.deBruijn64tab", "internal/strconv.uint64pow10", "bytes.ErrTooLarge"] (by kernel_rfl) (by kernel_rfl)
theorem fnDebugEach_row_tie : Rows.fnDebugEachRow.laidByTextAt .later Tryd.pinned [.data, .data, .data, .sentinel] true :=
  OpenClaim.laidByTextAt_later rfl rfl tie3 noOwnUnsafe
theorem fnDebugMarks_row_tie : Rows.fnDebugMarksRow.laidByTextAt .later Tryd.pinned [.data, .data, .data, .sentinel] true :=
  OpenClaim.laidByTextAt_later rfl rfl tie3 noOwnUnsafe
theorem fnRebindEachUpto_row_tie : Rows.fnRebindEachUptoRow.laidByTextAt .later Tryd.pinned [.data, .data, .data] true :=
  OpenClaim.laidByTextAt_later rfl rfl tie noOwnUnsafe
theorem fnRebindOfUpto_row_tie : Rows.fnRebindOfUptoRow.laidByTextAt .later Tryd.pinned [.data, .data, .data] true :=
  OpenClaim.laidByTextAt_later rfl rfl tie noOwnUnsafe
theorem fnFormDoneUpto_row_tie : Rows.fnFormDoneUptoRow.laidByTextAt .later Tryd.pinned [.data, .data, .data, .data] true :=
  OpenClaim.laidByTextAt_later rfl rfl tie2 noOwnUnsafe
theorem fnFormEachUpto_row_tie : Rows.fnFormEachUptoRow.laidByTextAt .later Tryd.pinned [.data, .data, .data, .data] true :=
  OpenClaim.laidByTextAt_later rfl rfl tie2 noOwnUnsafe
theorem fnFormQuotesUpto_row_tie : Rows.fnFormQuotesUptoRow.laidByTextAt .later Tryd.pinned [.data, .data, .data, .data] true :=
  OpenClaim.laidByTextAt_later rfl rfl tie2 noOwnUnsafe
theorem fnDebugEachUpto_row_tie : Rows.fnDebugEachUptoRow.laidByTextAt .later Tryd.pinned [.data, .data, .data, .sentinel] true :=
  OpenClaim.laidByTextAt_later rfl rfl tie3 noOwnUnsafe
theorem fnDebugMarksUpto_row_tie : Rows.fnDebugMarksUptoRow.laidByTextAt .later Tryd.pinned [.data, .data, .data, .sentinel] true :=
  OpenClaim.laidByTextAt_later rfl rfl tie3 noOwnUnsafe
end Go.Proofs.YtdjgknfmehkigaaDoor
