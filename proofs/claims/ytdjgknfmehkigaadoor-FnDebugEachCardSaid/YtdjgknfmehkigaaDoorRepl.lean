/- impl.Replaced of a form with a sign, at texts in which no two question marks stand side by side; sign9; full9. -/
import Derived.Test.YtdjgknfmehkigaaDoorRep
import Derived.Test.YtdjgknfmehkigaaDoorRbS
import Derived.BigQuiet
import Derived.Deep.QuietTactic
namespace Go.Proofs.YtdjgknfmehkigaaDoor
open Go.RowKit
set_option linter.unusedVariables false

/-- The sign of a form. -/
def FormSg (f : Int) (sg : ByteArray) : Prop := (f = 2 ∧ sg = ⟨#[36]⟩) ∨ (f = 3 ∧ sg = ⟨#[58]⟩) ∨ (f = 4 ∧ sg = ⟨#[64, 112]⟩)
theorem formOf_1 (w : World) : Calls Tryd.prog 29 #[.int .i64 1] w fun e w' => e = .returned (.tuple #[.iface 70 (.agg #[]), .bool true]) ∧ w = w' := by
  go_enter Tryd.func29, Tryd.ntmps29
  go_wp2_with fail
  go_ret2
  exact ⟨rfl, rfl⟩
theorem formOf_2 (w : World) : Calls Tryd.prog 29 #[.int .i64 2] w fun e w' => e = .returned (.tuple #[.iface 71 (.agg #[]), .bool true]) ∧ w = w' := by
  go_enter Tryd.func29, Tryd.ntmps29
  go_wp2_with fail
  go_ret2
  exact ⟨rfl, rfl⟩
theorem formOf_3 (w : World) : Calls Tryd.prog 29 #[.int .i64 3] w fun e w' => e = .returned (.tuple #[.iface 72 (.agg #[]), .bool true]) ∧ w = w' := by
  go_enter Tryd.func29, Tryd.ntmps29
  go_wp2_with fail
  go_ret2
  exact ⟨rfl, rfl⟩
theorem formOf_0 (w : World) : Calls Tryd.prog 29 #[.int .i64 0] w fun e w' => e = .returned (.tuple #[.iface 69 (.agg #[]), .bool true]) ∧ w = w' := by
  go_enter Tryd.func29, Tryd.ntmps29
  go_wp2_with fail
  go_ret2
  exact ⟨rfl, rfl⟩
theorem meth_dollar (w : World) : Sem.run Tryd.prog (method 233 70 (.agg #[]) "ReplacePlaceholders") w = .ok (81, .agg #[]) w := by kernel_rfl
theorem dollar_any (q : ByteArray) (w : World) (hq : q.size ≤ 100000) (hc : cntQ q.data.toList ≤ 99) (hsep : sepQ q.data.toList = true) :
    Calls Tryd.prog 81 #[.agg #[], .string q] w fun e w' => e = .returned (.tuple #[.string ⟨(rebL [36] q.data.toList 0).toArray⟩, .nilIface]) ∧ Below w.heap.size w w' := by
  go_enter Tryd.func81, Tryd.ntmps81
  go_wp2_with fail
  refine (repl_any q ⟨#[36]⟩ _ (by decide) hq hc hsep).mono ?_
  rintro e w1 ⟨rfl, hb⟩
  go_wp2_with fail
  go_ret2
  exact ⟨rfl, ((Below.refl w.heap.size w).alloc (Nat.le_refl _) _).trans (hb.mono (by simp))⟩
theorem meth_colon (w : World) : Sem.run Tryd.prog (method 233 71 (.agg #[]) "ReplacePlaceholders") w = .ok (86, .agg #[]) w := by kernel_rfl
theorem colon_any (q : ByteArray) (w : World) (hq : q.size ≤ 100000) (hc : cntQ q.data.toList ≤ 99) (hsep : sepQ q.data.toList = true) :
    Calls Tryd.prog 86 #[.agg #[], .string q] w fun e w' => e = .returned (.tuple #[.string ⟨(rebL [58] q.data.toList 0).toArray⟩, .nilIface]) ∧ Below w.heap.size w w' := by
  go_enter Tryd.func86, Tryd.ntmps86
  go_wp2_with fail
  refine (repl_any q ⟨#[58]⟩ _ (by decide) hq hc hsep).mono ?_
  rintro e w1 ⟨rfl, hb⟩
  go_wp2_with fail
  go_ret2
  exact ⟨rfl, ((Below.refl w.heap.size w).alloc (Nat.le_refl _) _).trans (hb.mono (by simp))⟩
theorem meth_atp (w : World) : Sem.run Tryd.prog (method 233 72 (.agg #[]) "ReplacePlaceholders") w = .ok (88, .agg #[]) w := by kernel_rfl
theorem atp_any (q : ByteArray) (w : World) (hq : q.size ≤ 100000) (hc : cntQ q.data.toList ≤ 99) (hsep : sepQ q.data.toList = true) :
    Calls Tryd.prog 88 #[.agg #[], .string q] w fun e w' => e = .returned (.tuple #[.string ⟨(rebL [64, 112] q.data.toList 0).toArray⟩, .nilIface]) ∧ Below w.heap.size w w' := by
  go_enter Tryd.func88, Tryd.ntmps88
  go_wp2_with fail
  refine (repl_any q ⟨#[64, 112]⟩ _ (by decide) hq hc hsep).mono ?_
  rintro e w1 ⟨rfl, hb⟩
  go_wp2_with fail
  go_ret2
  exact ⟨rfl, ((Below.refl w.heap.size w).alloc (Nat.le_refl _) _).trans (hb.mono (by simp))⟩
set_option maxRecDepth 100000 in
set_option maxHeartbeats 1000000 in
theorem rep_2 (q : ByteArray) (w : World) (hq : q.size ≤ 100000) (hc : cntQ q.data.toList ≤ 99) (hsep : sepQ q.data.toList = true) :
    Calls Tryd.prog 21 #[.int .i64 2, .string q] w fun e w' => e = .returned (.tuple #[.string ⟨(rebL [36] q.data.toList 0).toArray⟩, .bool true]) ∧ Below w.heap.size w w' := by
  have hmeth := meth_dollar
  go_enter Tryd.func21, Tryd.ntmps21
  go_wp2_with fail
  refine (formOf_1 w).mono ?_
  rintro e w1 ⟨rfl, rfl⟩
  go_wp2_with fail
  refine (dollar_any q w hq hc hsep).mono ?_
  rintro e w1 ⟨rfl, hb⟩
  have HB := Lib.hid hb
  clear hb
  go_wp2_with fail
  go_quiet (fail)
  go_wp2_with fail
  go_ret2
  exact ⟨rfl, HB.out.trans (below_drewN _ _ _)⟩
set_option maxRecDepth 100000 in
set_option maxHeartbeats 1000000 in
theorem rep_3 (q : ByteArray) (w : World) (hq : q.size ≤ 100000) (hc : cntQ q.data.toList ≤ 99) (hsep : sepQ q.data.toList = true) :
    Calls Tryd.prog 21 #[.int .i64 3, .string q] w fun e w' => e = .returned (.tuple #[.string ⟨(rebL [58] q.data.toList 0).toArray⟩, .bool true]) ∧ Below w.heap.size w w' := by
  have hmeth := meth_colon
  go_enter Tryd.func21, Tryd.ntmps21
  go_wp2_with fail
  refine (formOf_2 w).mono ?_
  rintro e w1 ⟨rfl, rfl⟩
  go_wp2_with fail
  refine (colon_any q w hq hc hsep).mono ?_
  rintro e w1 ⟨rfl, hb⟩
  have HB := Lib.hid hb
  clear hb
  go_wp2_with fail
  go_quiet (fail)
  go_wp2_with fail
  go_ret2
  exact ⟨rfl, HB.out.trans (below_drewN _ _ _)⟩
set_option maxRecDepth 100000 in
set_option maxHeartbeats 1000000 in
theorem rep_4 (q : ByteArray) (w : World) (hq : q.size ≤ 100000) (hc : cntQ q.data.toList ≤ 99) (hsep : sepQ q.data.toList = true) :
    Calls Tryd.prog 21 #[.int .i64 4, .string q] w fun e w' => e = .returned (.tuple #[.string ⟨(rebL [64, 112] q.data.toList 0).toArray⟩, .bool true]) ∧ Below w.heap.size w w' := by
  have hmeth := meth_atp
  go_enter Tryd.func21, Tryd.ntmps21
  go_wp2_with fail
  refine (formOf_3 w).mono ?_
  rintro e w1 ⟨rfl, rfl⟩
  go_wp2_with fail
  refine (atp_any q w hq hc hsep).mono ?_
  rintro e w1 ⟨rfl, hb⟩
  have HB := Lib.hid hb
  clear hb
  go_wp2_with fail
  go_quiet (fail)
  go_wp2_with fail
  go_ret2
  exact ⟨rfl, HB.out.trans (below_drewN _ _ _)⟩
/-- A text in which no two question marks stand side by side, in a form. -/
theorem rep_any (f : Int) (sg q : ByteArray) (w : World) (hf : FormSg f sg) (hq : q.size ≤ 100000) (hc : cntQ q.data.toList ≤ 99) (hsep : sepQ q.data.toList = true) :
    Calls Tryd.prog 21 #[.int .i64 f, .string q] w fun e w' => e = .returned (.tuple #[.string ⟨(rebL sg.data.toList q.data.toList 0).toArray⟩, .bool true]) ∧ Below w.heap.size w w' := by
  rcases hf with ⟨rfl, rfl⟩ | ⟨rfl, rfl⟩ | ⟨rfl, rfl⟩
  · exact rep_2 q w hq hc hsep
  · exact rep_3 q w hq hc hsep
  · exact rep_4 q w hq hc hsep
end Go.Proofs.YtdjgknfmehkigaaDoor
