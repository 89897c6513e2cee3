/- Lists of values and rows of the call's own: plain facts; EqualValues of a list and of what came back of it. -/
import Derived.Test.YtpjadgdimkdblaaDoorExpanded
import Derived.Test.YtpjadgdimkdblaaDoorSingle
import Derived.Test.YtpjadgdimkdblaaDoorEqual
import Derived.Test.YtpjadgdimkdblaaDoorWords
namespace Go.Proofs.YtpjadgdimkdblaaDoor
open Go.RowKit
set_option linter.unusedVariables false

theorem addz (g i : Nat) : (⟨g, 0, none⟩ : Addr).add i = ⟨g, i, none⟩ := by unfold Addr.add; split <;> simp_all
theorem addo (g o i : Nat) : (⟨g, o, none⟩ : Addr).add i = ⟨g, o + i, none⟩ := by unfold Addr.add; split <;> simp_all
def cellsL (xs : List VRec) : List Value := (xs.map VRec.cells).flatten
theorem cellsL_length (xs : List VRec) : (cellsL xs).length = xs.length * 4 := by
  unfold cellsL
  induction xs with
  | nil => rfl
  | cons x xs ih => rw [List.map_cons, List.flatten_cons, List.length_append, ih, List.length_cons]; simp [VRec.cells]; omega
theorem cellsL_get (xs : List VRec) : ∀ i, i < xs.length → ∀ r, r < 4 → (cellsL xs)[i * 4 + r]? = (xs.getD i z0).cells[r]? := by
  unfold cellsL
  induction xs with
  | nil => intro i hi; simp at hi
  | cons x xs ih =>
    intro i hi r hr
    rw [List.map_cons, List.flatten_cons]
    cases i with
    | zero => rw [List.getElem?_append_left (by simp [VRec.cells]; omega), Nat.zero_mul, Nat.zero_add]; rfl
    | succ i =>
      rw [List.getElem?_append_right (by simp [VRec.cells]; omega), show (i + 1) * 4 + r - x.cells.length = i * 4 + r from by simp [VRec.cells]; omega]
      exact ih i (by simpa using hi) r hr
theorem backs_cells (xs : List VRec) : backs xs = cellsL (xs.map VRec.back) := by
  unfold backs cellsL
  rw [List.map_map]
  rfl
theorem lies_own {w : World} {g : Nat} {xs : List VRec} (h : ∀ j u, (cellsL xs)[j]? = some u → w.cell? ((⟨g, 0, none⟩ : Addr).add j) = some u) (i : Nat) (hi : i < xs.length) : (xs.getD i z0).lies w g (0 + i * 4) := by
  have k : ∀ r u, r < 4 → (xs.getD i z0).cells[r]? = some u → w.cell? ⟨g, 0 + i * 4 + r, none⟩ = some u := by
    intro r u hr hu
    have := h (i * 4 + r) u ((cellsL_get xs i hi r hr).trans hu)
    rw [addz] at this
    rw [show 0 + i * 4 + r = i * 4 + r from by omega]
    exact this
  exact ⟨k 0 _ (by omega) rfl, k 1 _ (by omega) rfl, k 2 _ (by omega) rfl, k 3 _ (by omega) rfl⟩
theorem listAt_own {w : World} {B : Nat} {v : Value} {n : Nat} {xs : List VRec} (h : w.ownsRow B 34 4 v n (cellsL xs)) (hn : xs.length = n) : ∃ A c, v = .slice A n c ∧ ListAt w A xs := by
  have hc := fun g => h.cells (g := g)
  rcases h.2 with ⟨hv, hnil⟩ | ⟨g, cap, cur, hv, _, hh, _⟩
  · have h0 := cellsL_length xs
    have : xs = [] := List.eq_nil_of_length_eq_zero (by omega)
    subst this
    subst hn
    exact ⟨none, 0, hv, .inl rfl⟩
  · subst hv
    exact ⟨_, _, rfl, .inr ⟨g, 0, rfl, (Array.getElem?_eq_some_iff.1 hh).1, fun i hi => lies_own (hc g rfl) i hi⟩⟩
/-- The cells of a list, as a source of an append. -/
theorem source_of {w : World} {b off : Nat} {xs : List VRec} (h : ∀ i, i < xs.length → (xs.getD i z0).lies w b (off + i * 4)) : ∀ j u, (cellsL xs)[j]? = some u → w.cell? ((⟨b, off, none⟩ : Addr).add j) = some u := by
  intro j u hu
  have hj : j < xs.length * 4 := by rw [← cellsL_length]; exact (List.getElem?_eq_some_iff.1 hu).1
  have hi : j / 4 < xs.length := by omega
  have hr : j % 4 < 4 := by omega
  have hjj : j / 4 * 4 + j % 4 = j := by omega
  have hg := cellsL_get xs (j / 4) hi (j % 4) hr
  rw [hjj, hu] at hg
  obtain ⟨h0, h1, h2, h3⟩ := h _ hi
  rw [addo]
  have k : ∀ r, r = j % 4 → w.cell? ⟨b, off + j, none⟩ = some u := by
    intro r hr
    have e : off + j = off + j / 4 * 4 + j % 4 := by omega
    rw [e]
    have : j % 4 = 0 ∨ j % 4 = 1 ∨ j % 4 = 2 ∨ j % 4 = 3 := by omega
    rcases this with q | q | q | q <;> rw [q] at hg ⊢
    · rw [Nat.add_zero]; exact h0.trans hg.symm
    · exact h1.trans hg.symm
    · exact h2.trans hg.symm
    · exact h3.trans hg.symm
  exact k _ rfl
theorem cells_one (xs : List VRec) : ∀ u ∈ cellsL xs, u.oneCell' = true := by
  intro u hu
  unfold cellsL at hu
  obtain ⟨l, hl, hu⟩ := List.mem_flatten.1 hu
  obtain ⟨x, _, rfl⟩ := List.mem_map.1 hl
  simp [VRec.cells] at hu
  rcases hu with rfl | rfl | rfl | rfl <;> rfl
theorem back_like {x : VRec} (h : x.right) : x.back.like x := by
  obtain ⟨_, h2, h3, h4, _⟩ := h
  unfold VRec.back VRec.like
  refine ⟨rfl, ?_, ?_, rfl, h2⟩
  · show (if x.k = 1 then x.n else 0) = x.n
    rcases h3 with h | h
    · rw [h]; simp
    · rw [if_pos h]
  · show (if x.k = 2 then x.t else ByteArray.empty) = x.t
    rcases h4 with h | h
    · rw [h]; simp
    · rw [if_pos h]
theorem getD_map_back (xs : List VRec) (i : Nat) (h : i < xs.length) : (xs.map VRec.back).getD i z0 = (xs.getD i z0).back := by
  rw [List.getD_eq_getElem?_getD, List.getD_eq_getElem?_getD, List.getElem?_map, List.getElem?_eq_getElem h]
  rfl
/-- What came back of a list is the same as the list. -/
theorem equal_backs (B : Nat) (v : Value) (A : Option Addr) (n c : Nat) (xs : List VRec) (w : World) (hn : xs.length = n) (hm : n ≤ 1000000) (ho : w.ownsRow B 34 4 v n (backs xs)) (hx : ListAt w A xs) (hr : ∀ i, i < n → (xs.getD i z0).right) :
    Calls Tryd.prog 26 #[v, .slice A n c] w fun e w' => e = .returned (.bool true) ∧ Below w.heap.size w w' := by
  rw [backs_cells] at ho
  obtain ⟨A1, c1, rfl, hl⟩ := listAt_own ho (by rw [List.length_map]; exact hn)
  rcases Nat.eq_zero_or_pos n with rfl | hpos
  · refine (equalValues_nil A1 A c1 c w).mono ?_
    rintro e w' ⟨he, rfl⟩
    exact ⟨he, Below.refl _ _⟩
  · obtain ⟨b, off, rfl, hb, hxs⟩ := hx.resolve_left (fun e => by rw [e] at hn; simp at hn; omega)
    obtain ⟨b1, off1, rfl, hb1, hl1⟩ := hl.resolve_left (fun e => by have := List.map_eq_nil_iff.1 e; rw [this] at hn; simp at hn; omega)
    refine equalValues_flat b1 off1 b off n c1 c (xs.map VRec.back) xs w hm hb1 hb (fun i hi => hl1 i (by rw [List.length_map, hn]; exact hi)) (fun i hi => hxs i (by rw [hn]; exact hi)) (fun i hi => ?_)
    rw [getD_map_back xs i (by rw [hn]; exact hi)]
    exact back_like (hr i hi)
/-- A list of one record that a literal lays. -/
theorem listAt_lit (w : World) (xs : List VRec) (T : TypeId) : ListAt (w.alloc (.cells (cellsL xs).toArray T)) (some ⟨w.heap.size, 0, none⟩) xs :=
  .inr ⟨w.heap.size, 0, rfl, by simp, fun i hi => lies_own (cells_new w _ T) i hi⟩
theorem listAt_lit2 (w : World) (X : Obj) (xs : List VRec) (T : TypeId) : ListAt ((w.alloc X).alloc (.cells (cellsL xs).toArray T)) (some ⟨w.heap.size + 1, 0, none⟩) xs := by
  have h := listAt_lit (w.alloc X) xs T
  rw [World.size_alloc] at h
  exact h
theorem exp_some {q : ByteArray} {gs : List ARec} {w w' : World} {e : Ending} {t : List UInt8} {vs : List VRec} (h : inSpec q.data.toList gs = some (t, vs)) (hx : ExpOk q gs w e w') : ∃ v, e = .returned (.tuple #[.string ⟨t.toArray⟩, v, .bool true]) ∧ w'.ownsRow w.heap.size 34 4 v vs.length (backs vs) ∧ Below w.heap.size w w' := by unfold ExpOk at hx; rw [h] at hx; exact hx
theorem exp_none {q : ByteArray} {gs : List ARec} {w w' : World} {e : Ending} (h : inSpec q.data.toList gs = none) (hx : ExpOk q gs w e w') : e = .returned (.tuple #[.string ⟨#[]⟩, .slice none 0 0, .bool false]) ∧ Below w.heap.size w w' := by unfold ExpOk at hx; rw [h] at hx; exact hx
/-- A list as an argument. -/
def lrec (A : Option Addr) (n c : Nat) (xs : List VRec) : ARec := ⟨⟨5, 0, ByteArray.empty, A, n, c⟩, xs⟩
theorem lrec_ok {w : World} {A : Option Addr} {n c : Nat} {xs : List VRec} (hn : xs.length = n) (hm : n ≤ 1000000) (hx : ListAt w A xs) (hk : ∀ i, i < xs.length → flatk (xs.getD i z0)) : (lrec A n c xs).ok w :=
  .inr ⟨rfl, hn.symm, by show xs.length ≤ 1000000; omega, hx, hk⟩
theorem no63 {a : ByteArray} (h : bare1 a) : ∀ c ∈ a.data.toList, (c.toNat : Int) ≠ 63 := by
  intro c hc
  obtain ⟨i, hi, rfl⟩ := List.getElem_of_mem hc
  rw [size_list] at hi
  have := (okc_iff.1 (h.2 i hi)).2.2.1
  rw [bt_get a i hi] at this
  exact this
theorem repeat_list (x : ByteArray) (k : Nat) : (rep ByteArray.empty x k).data.toList = Lib.repeatL x.data.toList k := by
  induction k with
  | zero => rfl
  | succ k ih => rw [rep_one, ih]; rfl
theorem rep_list (acc x : ByteArray) (k : Nat) : (rep acc x k).data.toList = acc.data.toList ++ Lib.repeatL x.data.toList k := by rw [rep_front, repeat_list]
end Go.Proofs.YtpjadgdimkdblaaDoor
