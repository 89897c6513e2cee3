/- Rows of arguments that a call has made, and the text of an insert with so many brackets: plain facts; NamedMany walked. -/
import Derived.Test.YtpjadgdimkdblaaDoorMany
import Derived.Test.YtpjadgdimkdblaaDoorLists
import Derived.Test.YtpjadgdimkdblaaDoorCnL
namespace Go.Proofs.YtpjadgdimkdblaaDoor
open Go.RowKit Go.Maps
set_option linter.unusedVariables false

theorem many_rows (q q1 q2 q3 : ByteArray) (ns : List (List UInt8)) (A : Option Addr) (K c : Nat) (rows : List RRow) (vss : List (List VRec)) (xs : List VRec) (w : World) (hxs : vss.flatten = xs) (ht : TextOk q) (hp : Pow10 w)
    (hcomp : cn (mkK 1) q.data.toList none [] [] = some (q1.data.toList, ns)) (hasc : asc q1) (hqs : q1.size ≤ 100000) (hK : rows.length = K) (h1 : 1 ≤ K) (h2 : K ≤ 100) (hN1 : 1 ≤ ns.length) (hN : ns.length ≤ 100) (hsh : ∀ i, i < ns.length → (ns.getD i []).length ≤ maxLen)
    (hr : RowsAt w A rows) (hs : RowsSay rows ns vss) (hfix : FixTo q1 K q2) (hreb : RebTo 1 q2 q3) :
    Calls Tryd.prog 29 #[.string q, .slice A K c] w (ManyOk q3 xs w) := by
  have HC := Lib.hid (manyOf_any 1 (.inl rfl) q q1 q2 q3 ns A K c rows vss xs w hxs ht hp hcomp hasc hqs hK h1 h2 hN1 hN hsh hr hs hfix hreb)
  clear hxs ht hp hcomp hasc hqs hK h1 h2 hN1 hN hsh hr hs hfix hreb
  go_enter Tryd.func29, Tryd.ntmps29
  go_wp2_with fail
  refine HC.out.mono ?_
  rintro e w3 ⟨x, rfl, ho, hb⟩
  have HB3 := Lib.hid hb
  have HO3 := Lib.hid ho
  clear ho hb
  go_wp2_with fail
  go_ret3
  exact ⟨x, rfl, HO3.out, HB3.out⟩
/- Rows of arguments. -/
def NRec.cells (g : NRec) : List Value := [.string g.s, .int .i64 g.a.x.k, .int .i64 g.a.x.n, .string g.a.x.t, .slice g.a.x.A g.a.x.m g.a.x.c]
def cellsN (gs : List NRec) : List Value := (gs.map NRec.cells).flatten
theorem cellsN_length (gs : List NRec) : (cellsN gs).length = gs.length * 5 := by
  unfold cellsN
  induction gs with
  | nil => rfl
  | cons x xs ih => rw [List.map_cons, List.flatten_cons, List.length_append, ih, List.length_cons]; simp [NRec.cells]; omega
theorem cellsN_get (gs : List NRec) : ∀ i, i < gs.length → ∀ r, r < 5 → (cellsN gs)[i * 5 + r]? = (gs.getD i n0).cells[r]? := by
  unfold cellsN
  induction gs with
  | nil => intro i hi; simp at hi
  | cons x xs ih =>
    intro i hi r hr
    rw [List.map_cons, List.flatten_cons]
    cases i with
    | zero => rw [List.getElem?_append_left (by simp [NRec.cells]; omega), Nat.zero_mul, Nat.zero_add]; rfl
    | succ i =>
      rw [List.getElem?_append_right (by simp [NRec.cells]; omega), show (i + 1) * 5 + r - x.cells.length = i * 5 + r from by simp [NRec.cells]; omega]
      exact ih i (by simpa using hi) r hr
theorem cellsN_app (xs ys : List NRec) : cellsN (xs ++ ys) = cellsN xs ++ cellsN ys := by unfold cellsN; rw [List.map_append, List.flatten_append]
theorem cellsN_one (gs : List NRec) : ∀ u ∈ cellsN gs, u.oneCell' = true := by
  intro u hu
  unfold cellsN at hu
  obtain ⟨l, hl, hu⟩ := List.mem_flatten.1 hu
  obtain ⟨x, _, rfl⟩ := List.mem_map.1 hl
  simp [NRec.cells] at hu
  rcases hu with rfl | rfl | rfl | rfl | rfl <;> rfl
/-- Different names that are not long, and values that are no lists. -/
structure GoodRow (gs : List NRec) : Prop where
  many : gs.length ≤ 1000000
  flat : ∀ j, j < gs.length → flatk (gs.getD j n0).a.x
  differ : ∀ i k, i < k → k < gs.length → (gs.getD i n0).s ≠ (gs.getD k n0).s
  short : ∀ i, i < gs.length → (gs.getD i n0).s.size ≤ maxLen
theorem names_own {w : World} {B : Nat} {r : RRow} (h : w.ownsRow B 39 5 r.val r.gs.length (cellsN r.gs)) (hg : GoodRow r.gs) : NamesOk w r.A r.gs := by
  have hc := fun g => h.cells (g := g)
  refine ⟨hg.many, ?_, fun i hi => .inl (hg.flat i hi), hg.differ, hg.short⟩
  rcases h.2 with ⟨hv, hnil⟩ | ⟨g, cap, cur, hv, _, hh, _⟩
  · have h0 := cellsN_length r.gs
    exact .inl (List.eq_nil_of_length_eq_zero (by omega))
  · unfold RRow.val at hv
    injection hv with e1 e2 e3
    refine .inr ⟨g, 0, e1, (Array.getElem?_eq_some_iff.1 hh).1, fun i hi => ?_⟩
    have k : ∀ q u, q < 5 → (r.gs.getD i n0).cells[q]? = some u → w.cell? ⟨g, 0 + i * 5 + q, none⟩ = some u := by
      intro q u hq hu
      have := hc g (by unfold RRow.val; rw [e1]; rfl) (i * 5 + q) u ((cellsN_get r.gs i hi q hq).trans hu)
      rw [addz] at this
      rw [show 0 + i * 5 + q = i * 5 + q from by omega]
      exact this
    exact ⟨k 0 _ (by omega) rfl, k 1 _ (by omega) rfl, k 2 _ (by omega) rfl, k 3 _ (by omega) rfl, k 4 _ (by omega) rfl⟩
/-- Rows that a call makes. -/
def RowsSo (B : Nat) (rs : List RRow) (k : Nat) (v : Value) (wr : World) : Prop :=
  rs.length = k ∧ wr.ownsRow B 40 1 v k (rs.map RRow.val) ∧ ∀ (i : Nat) (r : RRow), rs[i]? = some r → wr.ownsRow B 39 5 r.val r.gs.length (cellsN r.gs) ∧ (r.val.ownBlock = none ∨ r.val.ownBlock ≠ v.ownBlock)
theorem rowsSo_start (B : Nat) (w : World) : RowsSo B [] 0 (.slice none 0 0) w := ⟨rfl, World.ownsRow_nil _ _ _ _, fun i r h => by simp at h⟩
theorem rowsSo_grown {B : Nat} {rs : List RRow} {k : Nat} {v : Value} {w w' : World} (h : RowsSo B rs k v w) (hg : w.grownBy w' none) : RowsSo B rs k v w' :=
  ⟨h.1, h.2.1.kept hg (none_or _), fun i r hr => ⟨(h.2.2 i r hr).1.kept hg (none_or _), (h.2.2 i r hr).2⟩⟩
/-- One row more: the row is made, then a literal that holds it, then it is appended. -/
theorem rowsSo_step {B : Nat} {rs : List RRow} {k : Nat} {v v2 : Value} {r : RRow} {wr w1 w2 : World} {X : Obj} (h : RowsSo B rs k v wr) (h1 : wr.grownBy w1 none) (hr : w1.ownsRow B 39 5 r.val r.gs.length (cellsN r.gs)) (hnew : ∀ g, r.val.ownBlock = some g → wr.heap.size ≤ g)
    (hown : w2.ownsRow B 40 1 v2 (k + 1) (rs.map RRow.val ++ [r.val])) (hg : (w1.alloc X).grownBy w2 v.ownBlock) (hat : v2.ownBlock = v.ownBlock ∨ v2.ownBlock = some (w1.alloc X).heap.size) : RowsSo B (rs ++ [r]) (k + 1) v2 w2 := by
  obtain ⟨q1, q2, q3⟩ := h
  have hvlt := q2.lt
  have s1 := h1.size
  refine ⟨by simp [q1], by rw [List.map_append]; exact hown, fun i x hx => ?_⟩
  have hxx : (i < rs.length ∧ rs[i]? = some x) ∨ x = r := by
    rcases Nat.lt_or_ge i rs.length with hi | hi
    · rw [List.getElem?_append_left hi] at hx
      exact .inl ⟨hi, hx⟩
    · rw [List.getElem?_append_right hi] at hx
      have : i - rs.length = 0 := by
        rcases Nat.eq_zero_or_pos (i - rs.length) with e | e
        · exact e
        · rw [List.getElem?_eq_none (by simp; omega)] at hx; cases hx
      rw [this] at hx
      exact .inr (by simpa using hx.symm)
  have key : w1.ownsRow B 39 5 x.val x.gs.length (cellsN x.gs) ∧ (x.val.ownBlock = none ∨ x.val.ownBlock ≠ v.ownBlock) := by
    rcases hxx with ⟨hi, hx⟩ | rfl
    · obtain ⟨k1, k2⟩ := q3 i x hx
      exact ⟨k1.kept h1 (none_or _), k2⟩
    · refine ⟨hr, ?_⟩
      rcases hb : x.val.ownBlock with _ | g
      · exact .inl rfl
      · right
        intro e
        have a1 := hnew g hb
        have a2 := (hvlt g e.symm).2
        omega
  obtain ⟨k1, k2⟩ := key
  refine ⟨(k1.alloc X).kept hg k2, ?_⟩
  rcases hat with e | e
  · rw [e]; exact k2
  · rw [e]
    rcases hb : x.val.ownBlock with _ | g
    · exact .inl rfl
    · right
      intro hh
      have a1 := (k1.lt g hb).2
      have a2 : g = (w1.alloc X).heap.size := by simpa using hh
      simp only [World.size_alloc] at a2
      omega
theorem rows_at {B : Nat} {rs : List RRow} {k c : Nat} {A : Option Addr} {w : World} (h : RowsSo B rs k (.slice A k c) w) (hg : ∀ i, i < rs.length → GoodRow (rs.getD i r0).gs) : RowsAt w A rs := by
  obtain ⟨h1, h2, h3⟩ := h
  refine ⟨fun i hi => ?_, fun i hi => ?_, fun i hi => (hg i hi).flat⟩
  · rcases h2.2 with ⟨hv, hnil⟩ | ⟨g, cap, cur, hv, _, hh, _⟩
    · omega
    · injection hv with e1 e2 e3
      subst e1
      have hc := h2.cells (g := g) rfl i ((rs.getD i r0).val) (by rw [List.getElem?_map, List.getD_eq_getElem?_getD, List.getElem?_eq_getElem hi]; rfl)
      rw [addz] at hc
      exact ⟨g, 0, rfl, (Array.getElem?_eq_some_iff.1 hh).1, by rw [Nat.zero_add]; exact hc⟩
  · exact names_own (h3 i _ (by rw [List.getD_eq_getElem?_getD, List.getElem?_eq_getElem hi]; rfl)).1 (hg i hi)
/-- The arguments of a row: names with values. -/
def rowGs (names : List ByteArray) (vs : List VRec) : List NRec := (names.zip vs).map fun p => ⟨p.1, ⟨p.2, []⟩⟩
theorem rowGs_length {names : List ByteArray} {vs : List VRec} (h : vs.length = names.length) : (rowGs names vs).length = names.length := by
  unfold rowGs
  rw [List.length_map, List.length_zip]
  omega
theorem rowGs_get : ∀ (names : List ByteArray) (vs : List VRec) (j : Nat), j < names.length → vs.length = names.length → (rowGs names vs).getD j n0 = ⟨names.getD j ByteArray.empty, ⟨vs.getD j z0, []⟩⟩
  | [], _, _, h, _ => by simp at h
  | n :: names, [], _, _, h => by simp at h
  | n :: names, v :: vs, 0, _, _ => rfl
  | n :: names, v :: vs, j + 1, h, hl => by
    have ih := rowGs_get names vs j (by simpa using h) (by simpa using hl)
    simp only [rowGs, List.zip_cons_cons, List.map_cons, List.getD_cons_succ] at ih ⊢
    exact ih
def pairsR (names : List ByteArray) (vs : List VRec) : List (ByteArray × Value) := (names.zip vs).map fun p => (p.1, p.2.fl)
theorem row_data (A : Option Addr) (c : Nat) (names : List ByteArray) (vs : List VRec) : (⟨A, c, rowGs names vs⟩ : RRow).data = pairsR names vs := by
  unfold RRow.data RRow.fls pairs rowGs pairsR
  induction names.zip vs with
  | nil => rfl
  | cons p l ih =>
    simp only [List.map_cons, List.zip_cons_cons] at ih ⊢
    rw [ih]
theorem pairsR_mem : ∀ (names : List ByteArray) (vs : List VRec) (p : ByteArray × Value), p ∈ pairsR names vs → p.1 ∈ names
  | [], vs, p, h => by simp [pairsR] at h
  | n :: names, [], p, h => by simp [pairsR] at h
  | n :: names, v :: vs, p, h => by
    simp only [pairsR, List.zip_cons_cons, List.map_cons, List.mem_cons] at h
    rcases h with rfl | h
    · simp
    · exact List.mem_cons_of_mem _ (pairsR_mem names vs p h)
theorem look_row : ∀ (names : List ByteArray) (vs : List VRec), vs.length = names.length → names.Nodup → ∀ j, j < names.length → lookN (pairsR names vs) (names.getD j ByteArray.empty) = some (vs.getD j z0).fl
  | [], _, _, _, j, h => by simp at h
  | n :: names, [], h, _, _, _ => by simp at h
  | n :: names, v :: vs, hl, hd, j, hj => by
    have hd2 := List.nodup_cons.1 hd
    have e : pairsR (n :: names) (v :: vs) = (n, v.fl) :: pairsR names vs := rfl
    rw [e, lookN]
    rcases j with _ | j
    · rw [List.getD_cons_zero, List.getD_cons_zero, lookN_none _ _ fun p hp he => hd2.1 (by have h := pairsR_mem names vs p hp; rw [he] at h; exact h)]
      simp
    · rw [List.getD_cons_succ, List.getD_cons_succ, look_row names vs (by simpa using hl) hd2.2 j (by simpa using hj)]
theorem good_row {names : List ByteArray} {vs : List VRec} (hl : vs.length = names.length) (hd : names.Nodup) (hm : names.length ≤ 1000000) (hs : ∀ j, j < names.length → (names.getD j ByteArray.empty).size ≤ maxLen) (hf : ∀ j, j < vs.length → flatk (vs.getD j z0)) : GoodRow (rowGs names vs) := by
  have e := rowGs_length hl
  refine ⟨by rw [e]; exact hm, fun j hj => ?_, fun i k hik hk => ?_, fun j hj => ?_⟩
  · rw [rowGs_get names vs j (by omega) hl]
    exact hf j (by omega)
  · rw [rowGs_get names vs i (by omega) hl, rowGs_get names vs k (by omega) hl]
    intro he
    have h := List.nodup_iff_pairwise_ne.1 hd
    have h2 := List.pairwise_iff_getElem.1 h i k (by omega) (by omega) hik
    simp only [List.getD_eq_getElem?_getD, List.getElem?_eq_getElem (show i < names.length by omega), List.getElem?_eq_getElem (show k < names.length by omega)] at he
    exact h2 he
  · rw [rowGs_get names vs j (by omega) hl]
    exact hs j (by omega)
end Go.Proofs.YtpjadgdimkdblaaDoor
