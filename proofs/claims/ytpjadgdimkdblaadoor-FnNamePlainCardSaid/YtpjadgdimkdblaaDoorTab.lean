/- The table of the powers of ten, out of what a row lists. No walk. -/
import Derived.Test.YtpjadgdimkdblaaDoorProg
import Derived.Test.YtpjadgdimkdblaaDoorWords
import Derived.Lib.LaidTab
import Derived.Lib.ItoaNum
import Derived.Lib.AppendIntMem
import Derived.LaidSub
namespace Go.Proofs.YtpjadgdimkdblaaDoor
open Go.RowKit
set_option linter.unusedVariables false

def Pow10 (w : World) : Prop := Lib.TabIs Tryd.prog w "internal/strconv.uint64pow10" .u64 Lib.pow10Tab
theorem tab_of {l : List (String × DataW Unit)} {w : World} (he : l.filter (fun x => x.1 == "internal/strconv.uint64pow10") = [("internal/strconv.uint64pow10", Lib.tabData .u64 Lib.pow10Tab)]) (h : laidMetH Tryd.prog l w) : Pow10 w := by
  have h1 := h.filter (fun x => x.1 == "internal/strconv.uint64pow10")
  rw [he] at h1
  exact Lib.tabIs_of_head (g := 1) (t := 137) (e := 113) (n := 20) (by kernel_rfl) (by kernel_rfl) Tryd.underlying137 Tryd.underlying113 (by kernel_rfl) (by kernel_rfl) h1
theorem pow10_below {w w' : World} (h : Pow10 w) (hb : Below w.heap.size w w') : Pow10 w' := Lib.tabBelow_of_tabIs h w' hb
end Go.Proofs.YtpjadgdimkdblaaDoor
