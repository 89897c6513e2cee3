/- append of a list of values to a row of the call's own, whether the list is nil or not. A law for the walk. -/
import Derived.Test.YtpjadgdimkdblaaDoorLists
import Derived.Laws.AppendOwnNone
import Derived.Maps.AppendAt
import Derived.Deep.RegionLaw
namespace Go.Proofs.YtpjadgdimkdblaaDoor
open Go.RowKit
set_option linter.unusedVariables false

theorem cellsL_app2 (xs ys : List VRec) : cellsL (xs ++ ys) = cellsL xs ++ cellsL ys := by unfold cellsL; rw [List.map_append, List.flatten_append]
theorem grown_refl2 (w : World) (row : Option Nat) : w.grownBy w row := ⟨rfl, rfl, rfl, Nat.le_refl _, fun _ _ _ => rfl⟩
theorem app_vals2 {w : World} {ops : Array Oper} {rest : List Oper} {o : Oper} {a : Act} {Q : Exit → Act → World → Prop} (hgd : o.guard = none) (s x : Operand)
    (ho : o.op = .call { callee := .builtin .append, args := #[s, x], argTypes := #[32, 32] })
    (base : Nat) (v : Value) (n : Nat) (olds : List VRec) (hs : a.eval s = v) (hown : w.ownsRow base 34 4 v n (cellsL olds)) (A : Option Addr) (m c : Nat) (hx : a.eval x = .slice A m c) (ys : List VRec) (hys : ys.length = m) (hA : A = none → c = 0) (hl : ListAt w A ys)
    (hnm : n + m ≤ 1000000) (hbase : base ≤ w.heap.size)
    (h : ∀ v' w', w'.ownsRow base 34 4 v' (n + m) (cellsL (olds ++ ys)) → w.grownBy w' v.ownBlock → (v'.ownBlock = v.ownBlock ∨ v'.ownBlock = some w.heap.size) → wpList Tryd.prog ops Q rest (a.put o.dst v') w') : wpList Tryd.prog ops Q (o :: rest) a w := by
  obtain ⟨i0, hi0, hz0, hz1, hz2⟩ := info_parts Tryd.infoValue
  rcases A with _ | ad
  · have hc := hA rfl
    have hy : ys = [] := by
      rcases hl with h | ⟨b, off, h, _⟩
      · exact h
      · cases h
    subst hy
    simp only [List.length_nil] at hys
    subst hys
    subst hc
    refine wpList_append_own_none hgd s x 32 ho base 34 i0 4 Tryd.underlying32 hi0 v n (cellsL olds) hs hown hx (h v w ?_ (grown_refl2 _ _) (.inl rfl))
    rw [List.append_nil]
    exact hown
  · have hc : ∀ j u, (cellsL ys)[j]? = some u → w.cell? (ad.add j) = some u := by
      rcases hl with h | ⟨b, off, h, _, hl⟩
      · subst h
        intro j u hu
        simp [cellsL] at hu
      · injection h with h
        subst h
        exact source_of hl
    refine wpList_append_own_at _ hgd s x 32 ho base 34 i0 _ 4 56 Tryd.underlying32 hi0 hz0 hz1 hz2 rfl (by decide) v n (cellsL olds) hs hown ad m c (cellsL ys) hx (by rw [cellsL_length, hys]) hc (cells_one _) (by unfold maxLen; omega) (by omega) hbase (fun v' w' h1 h2 _ h4 => h v' w' (by rw [cellsL_app2]; exact h1) h2 h4)
/-- The same as one step of a region that draws its order. -/
theorem step_app_vals {w : World} {ops : Array Oper} {o : Oper} {a : Act} {K : Act → World → Prop} {Q : Exit → Act → World → Prop} {E : Prop} (hgd : o.guard = none) (s x : Operand)
    (ho : o.op = .call { callee := .builtin .append, args := #[s, x], argTypes := #[32, 32] })
    (base : Nat) (v : Value) (n : Nat) (olds : List VRec) (hs : a.eval s = v) (A : Option Addr) (m c : Nat) (hx : a.eval x = .slice A m c) (ys : List VRec)
    (hown : w.ownsRow base 34 4 v n (cellsL olds)) (hys : ys.length = m) (hA : A = none → c = 0) (hl : ListAt w A ys) (hnm : n + m ≤ 1000000) (hbase : base ≤ w.heap.size)
    (h : ∀ v' w', w'.ownsRow base 34 4 v' (n + m) (cellsL (olds ++ ys)) → w.grownBy w' v.ownBlock → (v'.ownBlock = v.ownBlock ∨ v'.ownBlock = some w.heap.size) → K (a.put o.dst v') w') :
    if Region.wanted o (yielded ops a.tmps) = true then Oper.wp Tryd.prog o a w K Q else E := by
  have hw : Region.wanted o (yielded ops a.tmps) = true := by simp [Region.wanted, hgd]
  rw [if_pos hw]
  obtain ⟨i0, hi0, hz0, hz1, hz2⟩ := info_parts Tryd.infoValue
  rcases A with _ | ad
  · have hc := hA rfl
    have hy : ys = [] := by
      rcases hl with h | ⟨b, off, h, _⟩
      · exact h
      · cases h
    subst hy
    simp only [List.length_nil] at hys
    subst hys
    subst hc
    have hrun := run_append_owned_none (P := Tryd.prog) (w := w) base 32 o.type 34 i0 4 Tryd.underlying32 hi0 v n (cellsL olds) hown
    unfold Oper.wp
    simp [execOp, ho, resolve, invoke, builtin, hs, hx, hrun, Result.andThen]
    exact h v w (by rw [List.append_nil]; exact hown) (grown_refl2 _ _) (.inl rfl)
  · have hc : ∀ j u, (cellsL ys)[j]? = some u → w.cell? (ad.add j) = some u := by
      rcases hl with h | ⟨b, off, h, _, hl⟩
      · subst h
        intro j u hu
        simp [cellsL] at hu
      · injection h with h
        subst h
        exact source_of hl
    obtain ⟨v', w', hr, h2, h3, h4, h5⟩ := run_append_own_at (P := Tryd.prog) w base 32 o.type 34 i0 _ 4 56 Tryd.underlying32 hi0 hz0 hz1 hz2 rfl (by decide) v n (cellsL olds) hown ad m c (cellsL ys) (by rw [cellsL_length, hys]) hc (cells_one _) (by unfold maxLen; omega) (by omega) hbase
    unfold Oper.wp execOp
    simp only [ho, resolve, invoke, builtin, Sem.run_bind, Sem.run_pure, Result.andThen_ok, List.map_toArray, List.map_cons, List.map_nil, hs, hx, hr]
    exact h v' w' (by rw [cellsL_app2]; exact h2) h3 h5
end Go.Proofs.YtpjadgdimkdblaaDoor
