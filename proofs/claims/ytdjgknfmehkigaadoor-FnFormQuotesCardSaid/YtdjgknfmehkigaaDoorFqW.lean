/- FnFormQuotes walked: it answers true whatever the numbers and the texts are, and only makes new memory. -/
import Derived.Test.YtdjgknfmehkigaaDoorFdW
namespace Go.Proofs.YtdjgknfmehkigaaDoor
open Go.RowKit
set_option linter.unusedVariables false

/-- The quotes ahead and behind, by their number. -/
def qa (k : Int) : ByteArray := if k = 0 then ⟨#[39]⟩ else if k = 1 then ⟨#[34]⟩ else if k = 2 then ⟨#[47, 42]⟩ else if k = 3 then ⟨#[45, 45]⟩ else ⟨#[96]⟩
def qb (k : Int) : ByteArray := if k = 0 then ⟨#[39]⟩ else if k = 1 then ⟨#[34]⟩ else if k = 2 then ⟨#[42, 47]⟩ else if k = 3 then ⟨#[]⟩ else ⟨#[96]⟩
theorem q5 {k : Int} (h0 : 0 ≤ k) (h5 : k < 5) : k = 0 ∨ k = 1 ∨ k = 2 ∨ k = 3 ∨ k = 4 := by omega
theorem qa_free {k : Int} (h0 : 0 ≤ k) (h5 : k < 5) : ∀ c ∈ (qa k).data.toList, (c.toNat : Int) ≠ 63 := by
  rcases q5 h0 h5 with rfl | rfl | rfl | rfl | rfl <;> decide
theorem qb_free {k : Int} (h0 : 0 ≤ k) (h5 : k < 5) : ∀ c ∈ (qb k).data.toList, (c.toNat : Int) ≠ 63 := by
  rcases q5 h0 h5 with rfl | rfl | rfl | rfl | rfl <;> decide
theorem qa_size {k : Int} (h0 : 0 ≤ k) (h5 : k < 5) : (qa k).size ≤ 2 := by
  rcases q5 h0 h5 with rfl | rfl | rfl | rfl | rfl <;> decide
theorem qb_size {k : Int} (h0 : 0 ≤ k) (h5 : k < 5) : (qb k).size ≤ 2 := by
  rcases q5 h0 h5 with rfl | rfl | rfl | rfl | rfl <;> decide
theorem qb_some {k : Int} (h0 : 0 ≤ k) (h5 : k < 5) (h3 : k ≠ 3) : (qb k).data.toList ≠ [] := by
  rcases q5 h0 h5 with rfl | rfl | rfl | rfl | rfl
  · decide
  · decide
  · decide
  · exact absurd rfl h3
  · decide
def qm : ByteArray := ⟨#[63]⟩
theorem free_two {a b : ByteArray} (ha : ∀ c ∈ a.data.toList, (c.toNat : Int) ≠ 63) (hb : ∀ c ∈ b.data.toList, (c.toNat : Int) ≠ 63) : ∀ c ∈ (a ++ b).data.toList, (c.toNat : Int) ≠ 63 := by
  intro c hc
  rw [app_list] at hc
  rcases List.mem_append.1 hc with h | h
  · exact ha c h
  · exact hb c h
theorem quote_list (x y : ByteArray) : (x ++ qm ++ y ++ qm).data.toList = x.data.toList ++ 63 :: (y.data.toList ++ [63]) := by
  rw [app_list, app_list, app_list]
  show x.data.toList ++ [63] ++ y.data.toList ++ [63] = _
  simp
theorem quote_spec (sg x y : ByteArray) (hx : ∀ c ∈ x.data.toList, (c.toNat : Int) ≠ 63) (hy : ∀ c ∈ y.data.toList, (c.toNat : Int) ≠ 63) :
    (⟨(rebL sg.data.toList (x ++ qm ++ y ++ qm).data.toList 0).toArray⟩ : ByteArray) = x ++ sg ++ ⟨#[49]⟩ ++ y ++ sg ++ ⟨#[50]⟩ := by
  apply ext_list
  show rebL _ _ _ = _
  have d1 : Lib.decDigits (0 + 1) = [49] := by rw [Lib.decDigits]; rfl
  have d2 : Lib.decDigits (0 + 1 + 1) = [50] := by rw [Lib.decDigits]; rfl
  rw [quote_list, rebL_skip _ _ hx, rebL_mark, d1, rebL_skip _ _ hy, rebL_mark, d2]
  simp only [app_list, rebL, List.append_assoc]
  rfl
theorem quote_cnt (x y : ByteArray) (hx : ∀ c ∈ x.data.toList, (c.toNat : Int) ≠ 63) (hy : ∀ c ∈ y.data.toList, (c.toNat : Int) ≠ 63) : cntQ (x ++ qm ++ y ++ qm).data.toList ≤ 99 := by
  rw [quote_list, cntQ_skip _ hx, cntQ_mark, cntQ_skip _ hy, cntQ_mark]
  simp [cntQ]
theorem quote_sep (x y : ByteArray) (hx : ∀ c ∈ x.data.toList, (c.toNat : Int) ≠ 63) (hy : ∀ c ∈ y.data.toList, (c.toNat : Int) ≠ 63) (hne : y.data.toList ≠ []) : sepQ (x ++ qm ++ y ++ qm).data.toList = true := by
  rw [quote_list, sepQ_skip _ hx, sepQ_mark hy (.inl hne)]
  rfl
theorem rep_quote (f : Int) (sg x y : ByteArray) (w : World) (hf : FormSg f sg) (hx : ∀ c ∈ x.data.toList, (c.toNat : Int) ≠ 63) (hy : ∀ c ∈ y.data.toList, (c.toNat : Int) ≠ 63) (hne : y.data.toList ≠ []) (hq : (x ++ qm ++ y ++ qm).size ≤ 100000) :
    Calls Tryd.prog 21 #[.int .i64 f, .string (x ++ qm ++ y ++ qm)] w fun e w' => e = .returned (.tuple #[.string (x ++ sg ++ ⟨#[49]⟩ ++ y ++ sg ++ ⟨#[50]⟩), .bool true]) ∧ Below w.heap.size w w' := by
  have h := rep_any f sg _ w hf hq (quote_cnt x y hx hy) (quote_sep x y hx hy hne)
  rw [quote_spec sg x y hx hy] at h
  exact h
theorem ba_assoc (a b c : ByteArray) : a ++ b ++ c = a ++ (b ++ c) := by
  apply ext_list
  simp only [app_list, List.append_assoc]
theorem rep_quotes (f : Int) (sg a b : ByteArray) (k : Int) (w : World) (hf : FormSg f sg) (h0 : 0 ≤ k) (h5 : k < 5) (ha : bare1 a) (hb : bare1 b) (hne : b.size ≠ 0 ∨ k ≠ 3) :
    Calls Tryd.prog 21 #[.int .i64 f, .string (a ++ qa k ++ ⟨#[63]⟩ ++ qb k ++ b ++ ⟨#[63]⟩)] w fun e w' => e = .returned (.tuple #[.string (a ++ qa k ++ sg ++ ⟨#[49]⟩ ++ qb k ++ b ++ sg ++ ⟨#[50]⟩), .bool true]) ∧ Below w.heap.size w w' := by
  have z1 := qa_size h0 h5
  have z2 := qb_size h0 h5
  have z3 := ha.1
  have z4 := hb.1
  have hz : (a ++ qa k ++ qm ++ (qb k ++ b) ++ qm).size ≤ 100000 := by
    have : qm.size = 1 := rfl
    simp only [ByteArray.size_append']
    omega
  have hl : (qb k ++ b).data.toList ≠ [] := by
    intro e
    rw [app_list, List.append_eq_nil_iff] at e
    rcases hne with h | h
    · exact h (by rw [← size_list, e.2]; rfl)
    · exact qb_some h0 h5 h e.1
  have h := rep_quote f sg (a ++ qa k) (qb k ++ b) w hf (free_two (free63 ha) (qa_free h0 h5)) (free_two (qb_free h0 h5) (free63 hb)) hl hz
  have e1 : a ++ qa k ++ qm ++ (qb k ++ b) ++ qm = a ++ qa k ++ ⟨#[63]⟩ ++ qb k ++ b ++ ⟨#[63]⟩ := by
    rw [← ba_assoc (a ++ qa k ++ qm) (qb k) b]
    rfl
  have e2 : a ++ qa k ++ sg ++ ⟨#[49]⟩ ++ (qb k ++ b) ++ sg ++ ⟨#[50]⟩ = a ++ qa k ++ sg ++ ⟨#[49]⟩ ++ qb k ++ b ++ sg ++ ⟨#[50]⟩ := by
    rw [← ba_assoc (a ++ qa k ++ sg ++ ⟨#[49]⟩) (qb k) b]
  rw [e1, e2] at h
  exact h
theorem two_at (w : World) (a b : ByteArray) (T : TypeId) : StrsAt (w.alloc (.cells #[.string a, .string b] T)) (some ⟨w.heap.size, 0, none⟩) [a, b] := by
  refine .inr ⟨w.heap.size, 0, rfl, by simp, fun i hi => ?_⟩
  have h : i = 0 ∨ i = 1 := by simp at hi; omega
  rcases h with rfl | rfl
  · exact (cell_of_row _ _ _ _ _ _ (heap_alloc_new w _)).trans rfl
  · exact (cell_of_row _ _ _ _ _ _ (heap_alloc_new w _)).trans rfl
theorem two_le {a b : ByteArray} {m : Nat} (ha : a.size ≤ m) (hb : b.size ≤ m) : ∀ i, i < 2 → (([a, b] : List ByteArray).getD i ByteArray.empty).size ≤ m := by
  intro i hi
  have h : i = 0 ∨ i = 1 := by omega
  rcases h with rfl | rfl
  · exact ha
  · exact hb
theorem two_bare {a b : ByteArray} (h : bareB [a, b] = true) : bare1 a ∧ bare1 b := by
  have h := (bareB_iff.1 h).1
  exact ⟨h 0 (by simp), h 1 (by simp)⟩
def QuOk (w1 : World) (a b sg u v : ByteArray) (e : Ending) (w' : World) : Prop :=
  e = .returned (.tuple #[.string (a ++ u ++ sg ++ ⟨#[49]⟩ ++ v ++ b ++ sg ++ ⟨#[50]⟩), .bool true]) ∧ Below w1.heap.size w1 w' ∧ w'.cell? ⟨w1.heap.size + 1, 0, none⟩ = some (.string u) ∧ w'.cell? ⟨w1.heap.size + 1, 1, none⟩ = some (.string v)
theorem box2_cell (w : World) (X : Obj) (T : TypeId) (u v : Value) : ((w.alloc X).alloc (.cells #[u, v] T)).cell? ⟨w.heap.size + 1, 0, none⟩ = some u ∧ ((w.alloc X).alloc (.cells #[u, v] T)).cell? ⟨w.heap.size + 1, 1, none⟩ = some v := by
  have h := heap_alloc_new (w.alloc X) (.cells #[u, v] T)
  rw [World.size_alloc] at h
  exact ⟨(cell_of_row _ _ _ _ _ _ h).trans rfl, (cell_of_row _ _ _ _ _ _ h).trans rfl⟩
theorem rep_quotesW (k f : Int) (sg a b u v : ByteArray) (w1 : World) (X : Obj) (T : TypeId) (hf : FormSg f sg) (h0 : 0 ≤ k) (h5 : k < 5) (ha : bare1 a) (hb : bare1 b) (hne : b.size ≠ 0 ∨ k ≠ 3) (hu : qa k = u) (hv : qb k = v) :
    Calls Tryd.prog 21 #[.int .i64 f, .string (a ++ u ++ ⟨#[63]⟩ ++ v ++ b ++ ⟨#[63]⟩)] ((w1.alloc X).alloc (.cells #[.string u, .string v] T)) (QuOk w1 a b sg u v) := by
  subst hu hv
  refine (rep_quotes f sg a b k _ hf h0 h5 ha hb hne).mono ?_
  rintro e w' ⟨rfl, h⟩
  obtain ⟨c0, c1⟩ := box2_cell w1 X T (.string (qa k)) (.string (qb k))
  exact ⟨rfl, nx (b2 w1 _ _) h, (h.cell (p := ⟨w1.heap.size + 1, 0, none⟩) (World.block_lt_of_cell? _ _ c0)).trans c0, (h.cell (p := ⟨w1.heap.size + 1, 1, none⟩) (World.block_lt_of_cell? _ _ c1)).trans c1⟩
set_option maxHeartbeats 8000000 in
set_option maxRecDepth 100000 in
theorem formQuotes_any (x y : Int) (a b : ByteArray) (w : World) (hx8 : (Lit.int .u8 x).wf = true) (hy8 : (Lit.int .u8 y).wf = true) (ha : a.size ≤ maxLen) (hb : b.size ≤ maxLen) :
    Calls Tryd.prog 7 #[.int .u8 x, .int .u8 y, .string a, .string b] w fun e w' => e = .returned (.bool true) ∧ Below w.heap.size w w' := by
  have hbd := Go.bounds_u8 hy8
  have HA := Lib.hid ha
  have HB := Lib.hid hb
  have ha2 := ha
  have hb2 := hb
  unfold maxLen at ha2 hb2
  clear ha hb
  by_cases hsa : (2147483647 : Int) < a.size
  · go_enter Tryd.func7, Tryd.ntmps7
    go_wp2_with fail
    go_ret
    exact ⟨rfl, Below.refl _ _⟩
  by_cases hsb : (2147483647 : Int) < b.size
  · go_enter Tryd.func7, Tryd.ntmps7
    go_wp2_with fail
    go_ret
    exact ⟨rfl, Below.refl _ _⟩
  go_enter Tryd.func7, Tryd.ntmps7
  go_wp2_with fail
  refine (bare_at _ 2 2 [a, b] _ rfl (by unfold maxLen; omega) (two_at w a b _) (two_le HA.out HB.out)).mono ?_
  rintro e w' ⟨rfl, rfl⟩
  have HW0 := Lib.hid ((Below.refl w.heap.size w).alloc (Nat.le_refl _) (.cells #[.string a, .string b] 9))
  generalize w.alloc (.cells #[.string a, .string b] 9) = w0 at HW0 ⊢
  cases hB : bareB [a, b] with
  | false =>
    go_wp2
    go_ret
    exact ⟨rfl, HW0.out⟩
  | true =>
  have HBB := Lib.hid (two_bare hB)
  clear hB
  have hk5 : 0 ≤ y % 5 ∧ y % 5 < 5 := by omega
  by_cases hz : b.size = 0 ∧ y % 5 = 3
  · have he := toList_empty hz.1
    have hk := hz.2
    clear hz
    go_wp2_with fail
    go_ret
    exact ⟨rfl, HW0.out⟩
  have HNE := Lib.hid (show b.size ≠ 0 ∨ y % 5 ≠ 3 by omega)
  have hQ : b.toList.isEmpty = true ∧ ¬ y % 5 = 3 ∨ b.toList.isEmpty = false := by
    by_cases h : b.size = 0
    · exact .inl ⟨toList_empty h, by omega⟩
    · exact .inr (toList_some h)
  clear hz
  have hbx := q5 hk5.1 hk5.2
  rcases hQ with ⟨hq, hq3⟩ | hq
  all_goals
    rcases hbx with hk | hk | hk | hk | hk
  case inl.inr.inr.inr.inl => exact absurd hk hq3
  all_goals
    go_wp2_with fail
    refine (sign_at x w0 hx8).mono ?_
    rintro e w1 ⟨f, sg, hfs, rfl, hb1⟩
    have HFS := Lib.hid hfs
    have hs10 := formSg_size hfs
    have HW1 := Lib.hid (nx HW0.out hb1)
    clear hb1 hfs
    go_wp2_with fail
    refine (rep_quotesW _ f sg a b _ _ w1 _ _ HFS.out hk5.1 hk5.2 HBB.out.1 HBB.out.2 HNE.out (by rw [hk]; rfl) (by rw [hk]; rfl)).mono ?_
    rintro e w2 ⟨rfl, hb2, c0, c1⟩
    have HW2 := Lib.hid (nx HW1.out hb2)
    clear hb2
    have hza := HBB.out.1.1
    have hzb := HBB.out.2.1
    go_wp2_with fail
    go_ret
    exact ⟨rfl, HW2.out⟩
end Go.Proofs.YtdjgknfmehkigaaDoor
