/- append of a list of values to a row of the call's own, whether the list is nil or not. A law for the walk. -/
import Derived.Test.YtdjgknfmehkigaaLists
import Derived.Laws.AppendOwnNone
import Derived.Maps.AppendAt
namespace Go.Proofs.Ytdjgknfmehkigaa
open Go.RowKit
set_option linter.unusedVariables false

theorem cellsL_app (xs ys : List VRec) : cellsL (xs ++ ys) = cellsL xs ++ cellsL ys := by unfold cellsL; rw [List.map_append, List.flatten_append]
theorem grown_refl (w : World) (row : Option Nat) : w.grownBy w row := ⟨rfl, rfl, rfl, Nat.le_refl _, fun _ _ _ => rfl⟩
theorem app_vals {w : World} {ops : Array Oper} {rest : List Oper} {o : Oper} {a : Act} {Q : Exit → Act → World → Prop} (hgd : o.guard = none) (s x : Operand)
    (ho : o.op = .call { callee := .builtin .append, args := #[s, x], argTypes := #[28, 28] })
    (base : Nat) (v : Value) (n : Nat) (olds : List VRec) (hs : a.eval s = v) (hown : w.ownsRow base 31 4 v n (cellsL olds)) (A : Option Addr) (m c : Nat) (hx : a.eval x = .slice A m c) (ys : List VRec) (hys : ys.length = m) (hA : A = none → c = 0) (hl : ListAt w A ys)
    (hnm : n + m ≤ 1000000) (hbase : base ≤ w.heap.size)
    (h : ∀ v' w', w'.ownsRow base 31 4 v' (n + m) (cellsL (olds ++ ys)) → w.grownBy w' v.ownBlock → wpList Try.prog ops Q rest (a.put o.dst v') w') : wpList Try.prog ops Q (o :: rest) a w := by
  obtain ⟨i0, hi0, hz0, hz1, hz2⟩ := info_parts Try.infoValue
  rcases A with _ | ad
  · have hc := hA rfl
    have hy : ys = [] := by
      rcases hl with h | ⟨b, off, h, _⟩
      · exact h
      · cases h
    subst hy
    simp only [List.length_nil] at hys
    subst hys
    subst hc
    refine wpList_append_own_none hgd s x 28 ho base 31 i0 4 Try.underlying28 hi0 v n (cellsL olds) hs hown hx (h v w ?_ (grown_refl _ _))
    rw [List.append_nil]
    exact hown
  · have hc : ∀ j u, (cellsL ys)[j]? = some u → w.cell? (ad.add j) = some u := by
      rcases hl with h | ⟨b, off, h, _, hl⟩
      · subst h
        intro j u hu
        simp [cellsL] at hu
      · injection h with h
        subst h
        exact source_of hl
    refine wpList_append_own_at _ hgd s x 28 ho base 31 i0 _ 4 56 Try.underlying28 hi0 hz0 hz1 hz2 rfl (by decide) v n (cellsL olds) hs hown ad m c (cellsL ys) hx (by rw [cellsL_length, hys]) hc (cells_one _) (by unfold maxLen; omega) (by omega) hbase (fun v' w' h1 h2 _ _ => h v' w' (by rw [cellsL_app]; exact h1) h2)
/-- A literal of one record, as a row. -/
theorem own_lit (w : World) (B : Nat) (xs : List VRec) (n : Nat) (hn : xs.length = n) (hB : B ≤ w.heap.size) (hm : n ≤ maxLen) : (w.alloc (.cells (cellsL xs).toArray 31)).ownsRow B 31 4 (.slice (some ⟨w.heap.size, 0, none⟩) n n) n (cellsL xs) := by
  subst hn
  exact ⟨by rw [cellsL_length], .inr ⟨w.heap.size, xs.length, (cellsL xs).toArray, rfl, hB, heap_alloc_new w _, Nat.le_refl _, hm, by simp [cellsL_length], by simp [List.take_of_length_le, cellsL_length]⟩⟩
/-- An argument that is no list. -/
def plain (x : VRec) : ARec := ⟨x, []⟩
theorem plain_ok {w : World} {x : VRec} (h : x.right) : (plain x).ok w := .inl h.1
theorem ex_marks : ∀ (xs : List VRec) (r : List UInt8) (gs : List ARec), (∀ x ∈ xs, ¬ x.k = 5) → ex (Lib.repeatL [32, 63] xs.length ++ r) (xs.map plain ++ gs) = (ex r gs).map fun p => (Lib.repeatL [32, 63] xs.length ++ p.1, xs ++ p.2)
  | [], r, gs, _ => by simp [Lib.repeatL]
  | x :: xs, r, gs, h => by
    have ih := ex_marks xs r gs (fun y hy => h y (by simp [hy]))
    have hx := h x (by simp)
    have e : Lib.repeatL [32, 63] (x :: xs).length ++ r = 32 :: 63 :: (Lib.repeatL [32, 63] xs.length ++ r) := by
      rw [List.length_cons]; simp [Lib.repeatL]
    rw [e, List.map_cons, List.cons_append, ex_none _ _ _ (by decide), ex_cons, ih]
    have m1 : more (plain x) = [] := by unfold more; rw [if_neg]; exact hx
    have m2 : vals (plain x) = [x] := by unfold vals; rw [if_neg]; rfl; exact hx
    rw [m1, m2, Option.map_map, Option.map_map]
    cases ex r gs with
    | none => rfl
    | some p => simp [Lib.repeatL]
end Go.Proofs.Ytdjgknfmehkigaa
