/- What FnInLists builds, and what its loop carries. No walk. -/
import Derived.Test.YtdjgknfmehkigaaAppVals2
import Derived.Test.YtdjgknfmehkigaaOpenLists
namespace Go.Proofs.Ytdjgknfmehkigaa
open Go.RowKit
set_option linter.unusedVariables false

def LRec.arg (l : LRec) : ARec := lrec l.A l.n l.c l.xs
def sS (k : Nat) : ByteArray := rep ⟨#[]⟩ ⟨#[40, 63, 41]⟩ k
def wS (ls : List LRec) : Nat → ByteArray
  | 0 => ⟨#[]⟩
  | k + 1 => rep (wS ls k ++ ⟨#[40, 63]⟩) ⟨#[44, 32, 63]⟩ ((ls.getD k l0).n - 1) ++ ⟨#[41]⟩
def wL : List LRec → List UInt8
  | [] => []
  | l :: r => 40 :: 63 :: (Lib.repeatL [44, 32, 63] (l.n - 1) ++ 41 :: wL r)
def fl (ls : List LRec) (k : Nat) : List VRec := ((ls.take k).map LRec.xs).flatten
theorem wL_app (a b : List LRec) : wL (a ++ b) = wL a ++ wL b := by
  induction a with
  | nil => rfl
  | cons x a ih => rw [List.cons_append, wL, ih, wL]; simp
theorem take_one {ls : List LRec} {k : Nat} (h : k < ls.length) : ls.take (k + 1) = ls.take k ++ [ls.getD k l0] := by
  rw [List.take_add_one, List.getElem?_eq_getElem h, List.getD_eq_getElem?_getD, List.getElem?_eq_getElem h]
  rfl
theorem wS_list (ls : List LRec) : ∀ k, k ≤ ls.length → (wS ls k).data.toList = wL (ls.take k)
  | 0, _ => by rw [List.take_zero]; rfl
  | k + 1, h => by
    rw [take_one (by omega), wL_app, wS, app_list, rep_list, app_list, wS_list ls k (by omega), wL, wL]
    simp
theorem fl_succ {ls : List LRec} {k : Nat} (h : k < ls.length) : fl ls (k + 1) = fl ls k ++ (ls.getD k l0).xs := by
  unfold fl
  rw [take_one h, List.map_append, List.flatten_append]
  simp
theorem sS_list (k : Nat) : (sS k).data.toList = Lib.repeatL [40, 63, 41] k := by unfold sS; rw [rep_list]; rfl
theorem sS_size (k : Nat) : (sS k).size = 3 * k := by
  unfold sS
  rw [rep_size, show (ByteArray.mk #[40, 63, 41]).size = 3 from rfl, show (ByteArray.mk #[]).size = 0 from rfl]
  omega
theorem ex_lists : ∀ (ls : List LRec), (∀ l ∈ ls, l.xs.length = l.n) → ex (Lib.repeatL [40, 63, 41] ls.length) (ls.map LRec.arg) = some (wL ls, (ls.map LRec.xs).flatten)
  | [], _ => by simp [Lib.repeatL, ex, wL]
  | l :: ls, h => by
    have ih := ex_lists ls (fun x hx => h x (by simp [hx]))
    have e : Lib.repeatL [40, 63, 41] (l :: ls).length = 40 :: 63 :: 41 :: Lib.repeatL [40, 63, 41] ls.length := by rw [List.length_cons]; simp [Lib.repeatL]
    rw [e, List.map_cons, ex_none _ _ _ (by decide), ex_cons, ex_none _ _ _ (by decide), ih]
    have m1 : more l.arg = Lib.repeatL [44, 32, 63] (l.n - 1) := by unfold more; rw [if_pos (by rfl)]; show Lib.repeatL _ (l.xs.length - 1) = _; rw [h l (by simp)]
    have m2 : vals l.arg = l.xs := by unfold vals; rw [if_pos (by rfl)]; rfl
    rw [m1, m2]
    simp [wL]
theorem lists_spec (ls : List LRec) (h : ∀ l ∈ ls, l.xs.length = l.n ∧ 1 ≤ l.n) (hne : 1 ≤ ls.length) : inSpec (sS ls.length).data.toList (ls.map LRec.arg) = some (wL ls, (ls.map LRec.xs).flatten) := by
  have h1 : ∀ i, i < (ls.map LRec.arg).length → ¬ emptyL ((ls.map LRec.arg).getD i a0) := fun i hi he => by
    obtain ⟨l, hl, e⟩ := List.mem_map.1 (getD_mem hi)
    rw [← e] at he
    have h2 : l.xs = [] := he.2
    have := h l hl
    rw [h2] at this
    simp at this
    omega
  have h2 : (ls.map LRec.arg).any isL = true := by
    cases ls with
    | nil => simp at hne
    | cons l r => rfl
  rw [spec_lists h1 h2, sS_list]
  exact ex_lists ls (fun l hl => (h l hl).1)
theorem not5 {xs : List VRec} (h : ∀ i, i < xs.length → (xs.getD i z0).right) : ∀ x ∈ xs, x.right := by
  intro x hx
  obtain ⟨i, hi, rfl⟩ := List.getElem_of_mem hx
  have := h i hi
  rwa [List.getD_eq_getElem?_getD, List.getElem?_eq_getElem hi] at this
/-- What the loop carries. -/
def LsSo (ls : List LRec) (w : World) (k m : Nat) (v1 v2 : Value) (wr : World) : Prop :=
  wr.ownsRow w.heap.size 31 4 v1 k (cellsL ((ls.take k).map fun l => l.arg.x)) ∧ wr.ownsRow w.heap.size 31 4 v2 m (cellsL (fl ls k)) ∧ (fl ls k).length = m ∧
  (v1.ownBlock = none ∨ v1.ownBlock ≠ v2.ownBlock) ∧ Below w.heap.size w wr ∧ (∀ i, i < k → 1 ≤ (ls.getD i l0).n ∧ (ls.getD i l0).n ≤ 8 ∧ ∀ x ∈ (ls.getD i l0).xs, x.right)
theorem lsSo_start (ls : List LRec) (w : World) : LsSo ls w 0 0 (.slice none 0 0) (.slice none 0 0) w :=
  ⟨World.ownsRow_nil _ _ _ _, World.ownsRow_nil _ _ _ _, rfl, .inl rfl, Below.refl _ _, fun i h => by omega⟩
theorem sep_symm {v1 v2 : Value} (h : v1.ownBlock = none ∨ v1.ownBlock ≠ v2.ownBlock) : v2.ownBlock = none ∨ v2.ownBlock ≠ v1.ownBlock := by
  rcases h with h | h
  · rw [h]; exact none_or _
  · exact .inr (fun e => h e.symm)
theorem ls_mid {ls : List LRec} {w : World} {k m : Nat} {v1 v2 : Value} {wr w1 w2 : World} (h : LsSo ls w k m v1 v2 wr) (hb : Below wr.heap.size wr w1) (X : Obj) (hg1 : (w1.alloc X).grownBy w2 v1.ownBlock) : w2.ownsRow w.heap.size 31 4 v2 m (cellsL (fl ls k)) ∧ Below w.heap.size w w2 := by
  obtain ⟨h1, h2, _, h4, h5, _⟩ := h
  refine ⟨((h2.kept (grown_none hb) (none_or _)).alloc X).kept hg1 (sep_symm h4), ?_⟩
  have hs := h5.size
  have hs2 := hb.size
  exact ((h5.trans (hb.mono hs)).alloc (by omega) X).grown hg1 (by simp; omega) (fun g hg => (h1.lt g hg).1)
theorem ls_step {ls : List LRec} {w : World} {k m : Nat} {v1 v2 v3 v4 : Value} {wr w1 w2 w3 : World} (h : LsSo ls w k m v1 v2 wr) (hk : k < ls.length) (hb : Below wr.heap.size wr w1) (X : Obj) (hg1 : (w1.alloc X).grownBy w2 v1.ownBlock)
    (ho1 : w2.ownsRow w.heap.size 31 4 v3 (k + 1) (cellsL (((ls.take k).map fun l => l.arg.x) ++ [(ls.getD k l0).arg.x]))) (hat1 : v3.ownBlock = v1.ownBlock ∨ v3.ownBlock = some (w1.alloc X).heap.size)
    (ho2 : w3.ownsRow w.heap.size 31 4 v4 (m + (ls.getD k l0).n) (cellsL (fl ls k ++ (ls.getD k l0).xs))) (hg2 : w2.grownBy w3 v2.ownBlock) (hat2 : v4.ownBlock = v2.ownBlock ∨ v4.ownBlock = some w2.heap.size)
    (hl : (ls.getD k l0).xs.length = (ls.getD k l0).n) (hn1 : 1 ≤ (ls.getD k l0).n) (hn8 : (ls.getD k l0).n ≤ 8) (hr : ∀ x ∈ (ls.getD k l0).xs, x.right) :
    LsSo ls w (k + 1) (m + (ls.getD k l0).n) v3 v4 w3 := by
  obtain ⟨_, hbe⟩ := ls_mid h hb X hg1
  obtain ⟨h1, h2, h3, h4, h5, h6⟩ := h
  have hs := hb.size
  have hs1 := hg1.size
  have hlt1 := h1.lt
  have hlt2 := h2.lt
  have hlt3 := ho1.lt
  rw [World.size_alloc] at hs1 hat1
  have sep : v3.ownBlock = none ∨ v3.ownBlock ≠ v2.ownBlock := by
    rcases hat1 with e | e
    · rw [e]; exact h4
    · right
      rw [e]
      intro e2
      have := (hlt2 _ e2.symm).2
      omega
  refine ⟨?_, ?_, ?_, ?_, hbe.grown hg2 (by have := h5.size; omega) (fun g hg => (hlt2 g hg).1), ?_⟩
  · rw [take_one hk, List.map_append]
    exact ho1.kept hg2 sep
  · rw [fl_succ hk]; exact ho2
  · rw [fl_succ hk, List.length_append, h3, hl]
  · rcases hat2 with e | e
    · rw [e]; exact sep
    · right
      rw [e]
      intro e2
      have := (hlt3 _ e2).2
      omega
  · intro i hi
    by_cases e : i = k
    · subst e; exact ⟨hn1, hn8, hr⟩
    · exact h6 i (by omega)
theorem wS_next {ls : List LRec} {k m1 n1 : Nat} {A : Option Addr} {c : Nat} {xs : List VRec} (hl : ls.getD k l0 = ⟨A, n1, c, xs⟩) (hm : (n1 : Int) - 1 = m1) (hp : 0 < n1) : rep (wS ls k ++ ⟨#[40, 63]⟩) ⟨#[44, 32, 63]⟩ m1 ++ ⟨#[41]⟩ = wS ls (k + 1) := by
  have h : wS ls (k + 1) = rep (wS ls k ++ ⟨#[40, 63]⟩) ⟨#[44, 32, 63]⟩ ((ls.getD k l0).n - 1) ++ ⟨#[41]⟩ := rfl
  rw [h, hl]
  show _ = rep _ _ (n1 - 1) ++ _
  rw [show n1 - 1 = m1 from by omega]
theorem fl_all (ls : List LRec) : fl ls ls.length = (ls.map LRec.xs).flatten := by unfold fl; rw [List.take_length]
theorem args_all (ls : List LRec) : ((ls.take ls.length).map fun l => l.arg.x) = (ls.map LRec.arg).map ARec.x := by rw [List.take_length, List.map_map]; rfl
theorem lists_at {w : World} {A : Option Addr} {ls : List LRec} (h : LsAt w A ls) : ∀ i, i < ls.length → (ls.getD i l0).good w := by
  intro i hi
  rcases h with rfl | ⟨b, off, _, _, h⟩
  · simp at hi
  · exact (h i hi).2
theorem lists_ok {ls : List LRec} {w wr : World} {k m : Nat} {v1 v2 : Value} (h : LsSo ls w k m v1 v2 wr) (hk : k = ls.length) (hg : ∀ i, i < ls.length → (ls.getD i l0).good w) : ∀ a ∈ ls.map LRec.arg, a.ok wr := by
  intro a ha
  obtain ⟨l, hl, rfl⟩ := List.mem_map.1 ha
  obtain ⟨i, hi, rfl⟩ := List.getElem_of_mem hl
  have hgi := hg i hi
  obtain ⟨h1, h8, hr⟩ := h.2.2.2.2.2 i (by omega)
  rw [List.getD_eq_getElem?_getD, List.getElem?_eq_getElem hi] at hgi h1 h8 hr
  obtain ⟨g1, g2, g3, g4⟩ := hgi
  refine lrec_ok g3 (Nat.le_trans h8 (by decide)) (listAt_below g4 h.2.2.2.2.1) (fun j hj => ?_)
  refine (hr _ ?_).1
  rw [List.getD_eq_getElem?_getD, List.getElem?_eq_getElem hj]
  exact List.getElem_mem hj
theorem lists_small {ls : List LRec} {w wr : World} {k m : Nat} {v1 v2 : Value} (h : LsSo ls w k m v1 v2 wr) (hk : k = ls.length) (hg : ∀ i, i < ls.length → (ls.getD i l0).good w) : ∀ a ∈ ls.map LRec.arg, a.ys.length ≤ 1000000 := by
  intro a ha
  obtain ⟨l, hl, rfl⟩ := List.mem_map.1 ha
  obtain ⟨i, hi, rfl⟩ := List.getElem_of_mem hl
  have hgi := hg i hi
  obtain ⟨h1, h8, hr⟩ := h.2.2.2.2.2 i (by omega)
  rw [List.getD_eq_getElem?_getD, List.getElem?_eq_getElem hi] at hgi h1 h8 hr
  obtain ⟨g1, g2, g3, g4⟩ := hgi
  have g5 : ls[i].xs.length = ls[i].n := g3
  have h9 : ls[i].n ≤ 8 := h8
  show ls[i].xs.length ≤ 1000000
  omega
theorem lists_all {ls : List LRec} {w wr : World} {k m : Nat} {v1 v2 : Value} (h : LsSo ls w k m v1 v2 wr) (hk : k = ls.length) (hg : ∀ i, i < ls.length → (ls.getD i l0).good w) (h1 : 1 ≤ ls.length) : inSpec (sS ls.length).data.toList (ls.map LRec.arg) = some (wL ls, fl ls ls.length) ∧ (∀ x ∈ fl ls ls.length, x.right) := by
  have hall : ∀ l ∈ ls, l.xs.length = l.n ∧ 1 ≤ l.n ∧ ∀ x ∈ l.xs, x.right := by
    intro l hl
    obtain ⟨i, hi, rfl⟩ := List.getElem_of_mem hl
    have hgi := hg i hi
    obtain ⟨h1, h8, hr⟩ := h.2.2.2.2.2 i (by omega)
    rw [List.getD_eq_getElem?_getD, List.getElem?_eq_getElem hi] at hgi h1 h8 hr
    exact ⟨hgi.2.2.1, h1, hr⟩
  rw [fl_all]
  refine ⟨lists_spec ls (fun l hl => ⟨(hall l hl).1, (hall l hl).2.1⟩) h1, ?_⟩
  intro x hx
  obtain ⟨y, hy, hx⟩ := List.mem_flatten.1 hx
  obtain ⟨l, hl, rfl⟩ := List.mem_map.1 hy
  exact (hall l hl).2.2 x hx
theorem right_getD {xs : List VRec} {n : Nat} (hn : xs.length = n) (h : ∀ x ∈ xs, x.right) : ∀ i, i < n → (xs.getD i z0).right := by
  intro i hi
  have hi2 : i < xs.length := by omega
  refine h _ ?_
  rw [List.getD_eq_getElem?_getD, List.getElem?_eq_getElem hi2]
  exact List.getElem_mem hi2
theorem back_list2 (ls : List LRec) : (⟨(wL ls).toArray⟩ : ByteArray) = wS ls ls.length := by
  apply ext_list
  rw [wS_list ls ls.length (Nat.le_refl _), List.take_length]
end Go.Proofs.Ytdjgknfmehkigaa
