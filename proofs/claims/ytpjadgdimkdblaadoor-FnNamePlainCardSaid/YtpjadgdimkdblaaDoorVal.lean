/- What goOf answers of a value that is no list, and asSliceForIn of what it answered. Walks; every world. -/
import Derived.Test.YtpjadgdimkdblaaDoorProg
import Derived.Test.YtpjadgdimkdblaaDoorWords
namespace Go.Proofs.YtpjadgdimkdblaaDoor
open Go.RowKit
set_option linter.unusedVariables false

/-- A value that is no list, as goOf hands it on. -/
def ifaceOf (k n : Int) (t : ByteArray) : Value :=
  if k = 0 then .nilIface else if k = 1 then .iface 2 (.int .i64 n) else if k = 2 then .iface 9 (.string t) else .iface 4 (.bool (k == 3))
theorem ret_two {a b c d : Value} (h : a = b) (h2 : c = d) : Ending.returned (.tuple #[a, c]) = .returned (.tuple #[b, d]) := by rw [h, h2]

set_option maxHeartbeats 1000000 in
theorem goOf_flat (k n : Int) (t : ByteArray) (A : Option Addr) (m c : Nat) (deep : Int) (w : World) (h0 : 0 ≤ k) (h4 : k ≤ 4) :
    Calls Tryd.prog 44 #[.agg #[.int .i64 k, .int .i64 n, .string t, .slice A m c], .int .i64 deep] w fun e w' => e = .returned (.tuple #[ifaceOf k n t, .bool true]) ∧ Below w.heap.size w w' := by
  have h : k = 0 ∨ k = 1 ∨ k = 2 ∨ k = 3 ∨ k = 4 := by omega
  rcases h with rfl | rfl | rfl | rfl | rfl
  all_goals
    go_enter Tryd.func44, Tryd.ntmps44
    go_wp2_with fail
    go_ret2
    exact ⟨rfl, (Below.refl _ _).alloc (Nat.le_refl _) _⟩
end Go.Proofs.YtpjadgdimkdblaaDoor
