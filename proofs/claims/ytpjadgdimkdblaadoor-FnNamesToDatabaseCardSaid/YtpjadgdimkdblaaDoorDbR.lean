/- Laws for the last statement of FnNamesToDatabase: two appends behind a guard, in a region that draws its order. -/
import Derived.Test.YtpjadgdimkdblaaDoorDbV
namespace Go.Proofs.YtpjadgdimkdblaaDoor
open Go.RowKit
set_option linter.unusedVariables false

/-- append of a list of values to a row of the call's own, as one step of a region that draws. -/
theorem step_app_g {w : World} {ops : Array Oper} {o : Oper} {a : Act} {K : Act → World → Prop} {Q : Exit → Act → World → Prop} {E : Prop} (hw : Region.wanted o (yielded ops a.tmps) = true) (s x : Operand)
    (ho : o.op = .call { callee := .builtin .append, args := #[s, x], argTypes := #[32, 32] })
    (base : Nat) (v : Value) (n : Nat) (olds : List VRec) (hs : a.eval s = v) (A : Option Addr) (m c : Nat) (hx : a.eval x = .slice A m c) (ys : List VRec)
    (hown : w.ownsRow base 34 4 v n (cellsL olds)) (hys : ys.length = m) (hne : ys ≠ []) (hl : ListAt w A ys) (hnm : n + m ≤ 1000000) (hbase : base ≤ w.heap.size)
    (h : ∀ v' w', w'.ownsRow base 34 4 v' (n + m) (cellsL (olds ++ ys)) → w.grownBy w' v.ownBlock → K (a.put o.dst v') w') :
    if Region.wanted o (yielded ops a.tmps) = true then Oper.wp Tryd.prog o a w K Q else E := by
  rw [if_pos hw]
  obtain ⟨i0, hi0, hz0, hz1, hz2⟩ := info_parts Tryd.infoValue
  obtain ⟨b, off, rfl, hb, hl⟩ := hl.resolve_left hne
  have hc : ∀ j u, (cellsL ys)[j]? = some u → w.cell? ((⟨b, off, none⟩ : Addr).add j) = some u := source_of hl
  obtain ⟨v', w', hr, h2, h3, h4, h5⟩ := run_append_own_at (P := Tryd.prog) w base 32 o.type 34 i0 _ 4 56 Tryd.underlying32 hi0 hz0 hz1 hz2 rfl (by decide) v n (cellsL olds) hown ⟨b, off, none⟩ m c (cellsL ys) (by rw [cellsL_length, hys]) hc (cells_one _) (by unfold maxLen; omega) (by omega) hbase
  unfold Oper.wp execOp
  simp only [ho, resolve, invoke, builtin, Sem.run_bind, Sem.run_pure, Result.andThen_ok, List.map_toArray, List.map_cons, List.map_nil, hs, hx, hr]
  exact h v' w' (by unfold cellsL at h2 ⊢; rw [List.map_append, List.flatten_append]; exact h2) h3
/-- A literal of one record, as a row. -/
theorem own_one (w : World) (B : Nat) (x : VRec) (hB : B ≤ w.heap.size) : (w.alloc (.cells (cellsL [x]).toArray 34)).ownsRow B 34 4 (.slice (some ⟨w.heap.size, 0, none⟩) 1 1) 1 (cellsL [x]) :=
  ⟨rfl, .inr ⟨w.heap.size, 1, (cellsL [x]).toArray, rfl, hB, heap_alloc_new w _, Nat.le_refl _, by decide, rfl, rfl⟩⟩
theorem own_one2 (w : World) (X : Obj) (B : Nat) (x : VRec) (hB : B ≤ w.heap.size) : ((w.alloc X).alloc (.cells (cellsL [x]).toArray 34)).ownsRow B 34 4 (.slice (some ⟨w.heap.size + 1, 0, none⟩) 1 1) 1 (cellsL [x]) := by
  have h := own_one (w.alloc X) B x (by simp; omega)
  rw [World.size_alloc] at h
  exact h
theorem lit_first {w w' : World} {x : VRec} {X : Obj} (hg : ((w.alloc (.cells (cellsL [x]).toArray 34)).alloc X).grownBy w' (some (w.heap.size + 1))) : ListAt w' (some ⟨w.heap.size, 0, none⟩) [x] := by
  refine listAt_below (w := w.alloc (.cells (cellsL [x]).toArray 34)) (listAt_lit w [x] _) ?_
  refine ((Below.refl _ _).alloc (Nat.le_refl _) X).grown hg (by simp) (fun g hg => ?_)
  injection hg with hg
  simp
  omega
theorem listAt_grown' {w w' : World} {b : Nat} {xs : List VRec} {row : Option Nat} (h : ListAt w (some ⟨b, 0, none⟩) xs) (hg : w.grownBy w' row) (hne : row ≠ some b) : ListAt w' (some ⟨b, 0, none⟩) xs := by
  rcases h with h | ⟨b', off, h1, h2, h3⟩
  · exact .inl h
  · injection h1 with h1
    injection h1 with e1 e2
    subst e1
    refine .inr ⟨b, off, by rw [← e2], Nat.lt_of_lt_of_le h2 hg.size, fun i hi => ?_⟩
    obtain ⟨k0, k1, k2, k3⟩ := h3 i hi
    exact ⟨hg.cell k0 (fun e => hne e.symm), hg.cell k1 (fun e => hne e.symm), hg.cell k2 (fun e => hne e.symm), hg.cell k3 (fun e => hne e.symm)⟩
theorem lit_second {w w' : World} {x : VRec} {X : Obj} (hg : ((w.alloc X).alloc (.cells (cellsL [x]).toArray 34)).grownBy w' (some w.heap.size)) : ListAt w' (some ⟨w.heap.size + 1, 0, none⟩) [x] := by
  have h := listAt_lit (w.alloc X) [x] 34
  rw [World.size_alloc] at h
  exact listAt_grown' h hg (fun e => by injection e with e; omega)
theorem mid_grown {w W w' : World} {B n : Nat} {v : Value} {us : List Value} (hW : Below B w W) (hown : W.ownsRow B 34 4 v n us) (hg : W.grownBy w' v.ownBlock) (hB : B ≤ w.heap.size) : Below B w w' :=
  hW.grown hg (Nat.le_trans hB hW.size) (fun g hg => (hown.lt g hg).1)
end Go.Proofs.YtpjadgdimkdblaaDoor
