/- What the walk of FnRebindEach uses: worlds grown, the shortest text. -/
import Derived.Test.YtdjgknfmehkigaaDoorRbS
import Derived.Deep.Cut
import Derived.OpenShut
namespace Go.Proofs.YtdjgknfmehkigaaDoor
open Go.RowKit
set_option linter.unusedVariables false

theorem b_refl (w : World) : Below w.heap.size w w := Below.refl _ _
theorem b_drew {w0 w : World} (h : Below w0.heap.size w0 w) : Below w0.heap.size w0 w.drew := h.drew
theorem b_alloc {w0 w : World} (h : Below w0.heap.size w0 w) (X : Obj) : Below w0.heap.size w0 (w.alloc X) := h.alloc h.size X
theorem b_next {w0 w w1 : World} (h : Below w0.heap.size w0 w) (hb : Below w.heap.size w w1) : Below w0.heap.size w0 w1 := h.trans (hb.mono h.size)
theorem b_last {w wB w4 : World} (h : Below w.heap.size w wB) (h4 : Below wB.heap.size wB w4) : Below w.heap.size w w4 := h.trans (h4.mono h.size)
theorem one_spec : (betS qf [⟨#[]⟩, ⟨#[]⟩] 2) = ⟨#[63]⟩ ∧ betS (sf ⟨#[36]⟩) [⟨#[]⟩, ⟨#[]⟩] 2 = ⟨#[36, 49]⟩ := by
  refine ⟨rfl, ?_⟩
  apply ext_list
  rw [bet_list _ _ 1 (by decide)]
  unfold sf
  rw [app_list]
  show _ ++ (([36] ++ Lib.decDigits 1) ++ _) = _
  rw [Lib.decDigits]
  rfl
theorem bare_two2 : ∀ i, i < 2 → bare1 (([⟨#[]⟩, ⟨#[]⟩] : List ByteArray).getD i ByteArray.empty) := by
  intro i hi
  have h : i = 0 ∨ i = 1 := by omega
  rcases h with rfl | rfl <;> exact ⟨by decide, fun j hj => absurd hj (by show ¬ j < 0; omega)⟩
theorem one_mark (w : World) : Calls Tryd.prog 12 #[.int .i64 2, .string ⟨#[63]⟩] w fun e w' => e = .returned (.string ⟨#[36, 49]⟩) ∧ Below w.heap.size w w' := by
  have h := rebound_bet [⟨#[]⟩, ⟨#[]⟩] 2 2 ⟨#[36]⟩ w (.inl ⟨rfl, rfl⟩) (by decide) bare_two2
  rw [one_spec.1, one_spec.2] at h
  exact h
end Go.Proofs.YtdjgknfmehkigaaDoor
