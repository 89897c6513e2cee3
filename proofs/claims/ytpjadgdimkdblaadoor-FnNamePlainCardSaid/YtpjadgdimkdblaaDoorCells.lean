/- The cells of a value, and what comes back of one that is no list. No walk. -/
import Derived.Test.YtpjadgdimkdblaaDoorArgs
namespace Go.Proofs.YtpjadgdimkdblaaDoor
open Go.RowKit
set_option linter.unusedVariables false

/-- The value that comes back of what was handed on. -/
def VRec.back (x : VRec) : VRec := ⟨x.k, if x.k = 1 then x.n else 0, if x.k = 2 then x.t else ByteArray.empty, none, 0, 0⟩
theorem cells_new (w : World) (l : List Value) (T : TypeId) : ∀ j u, l[j]? = some u → (w.alloc (.cells l.toArray T)).cell? ((⟨w.heap.size, 0, none⟩ : Addr).add j) = some u := by
  intro j u hu
  have hadd : (⟨w.heap.size, 0, none⟩ : Addr).add j = ⟨w.heap.size, j, none⟩ := by unfold Addr.add; split <;> simp_all
  rw [hadd, cell_of_row _ _ _ _ _ _ (heap_alloc_new w _)]
  simpa using hu
theorem Tryd.infoValue : (Tryd.prog.info? 34).map (fun i => (i.zero, i.size, i.bytes)) = some (some (.agg #[.int .i64 0, .int .i64 0, .string ByteArray.empty, .slice none 0 0]), 4, 56) := by kernel_rfl
def VRec.cells (x : VRec) : List Value := [.int .i64 x.k, .int .i64 x.n, .string x.t, .slice x.A x.m x.c]
/-- The values that come back, as one row. -/
def backs (xs : List VRec) : List Value := (xs.map fun x => x.back.cells).flatten
end Go.Proofs.YtpjadgdimkdblaaDoor
