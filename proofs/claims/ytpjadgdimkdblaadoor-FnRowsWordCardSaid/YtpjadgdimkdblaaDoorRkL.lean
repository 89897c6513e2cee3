/- What FnRowsKind and FnRowsWord ask of rows9's rows; what a scan of the marks writes. No walk. -/
import Derived.Test.YtpjadgdimkdblaaDoorRwA
namespace Go.Proofs.YtpjadgdimkdblaaDoor
open Go.RowKit
set_option linter.unusedVariables false

theorem names_ok {ss : List ByteArray} {ls : List LRec} (h : RowsGood ss ls) : ∀ t ∈ ss, NameOk t := by
  intro t ht
  obtain ⟨i, hi, rfl⟩ := List.getElem_of_mem ht
  have := (h.names i hi).1
  rw [List.getD_eq_getElem?_getD, List.getElem?_eq_getElem hi] at this
  exact this
theorem names_differ {ss : List ByteArray} {ls : List LRec} (h : RowsGood ss ls) : ss.Nodup := by
  rw [List.nodup_iff_pairwise_ne, List.pairwise_iff_getElem]
  intro i j hi hj hij
  have := (h.names j hj).2 i hij
  simp only [List.getD_eq_getElem?_getD, List.getElem?_eq_getElem hi, List.getElem?_eq_getElem hj] at this
  exact this
theorem name_size {ss : List ByteArray} {ls : List LRec} (h : RowsGood ss ls) : ∀ i, i < ss.length → (ss.getD i ByteArray.empty).size ≤ 30 := fun i hi => (h.names i hi).1.2.2.2
theorem ls_get (ls : List LRec) (i : Nat) : (ls.map LRec.xs).getD i [] = (ls.getD i l0).xs := by
  rw [List.getD_eq_getElem?_getD, List.getD_eq_getElem?_getD, List.getElem?_map]
  cases ls[i]? <;> rfl
theorem fl_whole (ls : List LRec) : (ls.map LRec.xs).flatten = flR ls ls.length := by unfold flR; rw [List.take_length]
theorem all_right {ss : List ByteArray} {ls : List LRec} (h : RowsGood ss ls) : ∀ x ∈ (ls.map LRec.xs).flatten, x.right := by
  intro x hx
  obtain ⟨l, hl, hx⟩ := List.mem_flatten.1 hx
  obtain ⟨r, hr, rfl⟩ := List.mem_map.1 hl
  obtain ⟨i, hi, rfl⟩ := List.getElem_of_mem hr
  obtain ⟨j, hj, rfl⟩ := List.getElem_of_mem hx
  have hg := h.lists i hi
  rw [List.getD_eq_getElem?_getD, List.getElem?_eq_getElem hi] at hg
  have h1 := hg.1
  have := hg.2 j (by rw [← h1]; exact hj)
  rw [List.getD_eq_getElem?_getD] at this
  have e : (some ls[i]).getD l0 = ls[i] := rfl
  rw [e, List.getElem?_eq_getElem hj] at this
  exact this
theorem rows_len {ss : List ByteArray} {ls : List LRec} (h : RowsGood ss ls) : ∀ i, i < ls.length → (ls.getD i l0).xs.length = ss.length := fun i hi => (h.lists i hi).1
/-- The rows of rows9 serve NamedManyOf. -/
theorem kind_rows {ss : List ByteArray} {ls : List LRec} {rs : List RRow} {B : Nat} {a3 : Option Addr} {c3 : Nat} {w1 : World} (h : RowsGood ss ls) (hrs : RowsSo B rs ls.length (.slice a3 ls.length c3) w1) (hgs : ∀ i, i < ls.length → (rs.getD i r0).gs = rowGs ss (ls.getD i l0).xs) :
    RowsAt w1 a3 rs ∧ RowsSay rs (ss.map fun s => s.data.toList) (ls.map LRec.xs) ∧ rs.length = ls.length := by
  have hl := hrs.1
  have h1 : (ls.map LRec.xs).length = rs.length := by rw [List.length_map, hl]
  have h2 : ∀ i, i < rs.length → (rs.getD i r0).gs = rowGs ss ((ls.map LRec.xs).getD i []) := fun i hi => by
    rw [ls_get]
    exact hgs i (by omega)
  have h3 : ∀ i, i < rs.length → ((ls.map LRec.xs).getD i []).length = ss.length := fun i hi => by
    rw [ls_get]
    exact rows_len h i (by omega)
  have h4 : ∀ x ∈ (ls.map LRec.xs).flatten, flatk x := fun x hx => (all_right h x hx).1
  have h5 : (ls.map LRec.xs).flatten.length ≤ 10000 := by
    rw [fl_whole, flR_len (rows_len h) _ (Nat.le_refl _)]
    have : ls.length * ss.length ≤ 8 * 6 := Nat.mul_le_mul h.few2 h.few1
    omega
  have h6 := h.few1
  exact ⟨rows_at hrs (rows_good h1 h2 h3 (names_differ h) (by omega) (fun j hj => by have := name_size h j hj; unfold maxLen; omega) h4), rowsSay_of h1 h2 h3 (names_differ h) h4 h5, hl⟩
theorem flat_right {ss : List ByteArray} {ls : List LRec} (h : RowsGood ss ls) : ∀ i, i < (flR ls ls.length).length → ((flR ls ls.length).getD i z0).right := by
  intro i hi
  rw [← fl_whole] at hi ⊢
  exact all_right h _ (vget_mem hi)
/- The marks, scanned. -/
def KindSo (sg : List UInt8) (q : ByteArray) (i m : Nat) (u : ByteArray) : Prop :=
  u.data.toList ++ rebL sg (q.data.toList.drop i) m = rebL sg q.data.toList 0 ∧ m + cntQ (q.data.toList.drop i) ≤ 99 ∧ u.size ≤ 6 * i
theorem kind_start (sg : List UInt8) (q : ByteArray) (h : cntQ q.data.toList ≤ 99) : KindSo sg q 0 0 ⟨#[]⟩ := ⟨rfl, by simpa using h, Nat.le_refl _⟩
theorem kind_mark {sg : List UInt8} {sb ds q u : ByteArray} {i m : Nat} (h : KindSo sg q i m u) (hi : i < q.size) (h63 : ((q[i]'hi).toNat : Int) = 63) (hs : sb.data.toList = sg) (hl : sg.length ≤ 4) (hd : ds.data.toList = Lib.decDigits (m + 1)) : m + 1 < 100 ∧ KindSo sg q (i + 1) (m + 1) (u ++ (sb ++ ds)) := by
  obtain ⟨h1, h2, h3⟩ := h
  have e : q.data.toList.drop i = q[i] :: q.data.toList.drop (i + 1) := drop_at q i hi
  have e63 : q[i] = 63 := UInt8.toNat_inj.1 (by rw [show (63 : UInt8).toNat = 63 from rfl]; omega)
  rw [e, e63, rebL_mark] at h1
  rw [e, e63, cntQ_mark] at h2
  have hdl := dec2i (m + 1) (by omega)
  refine ⟨by omega, ?_, by omega, ?_⟩
  · rw [← h1, app_list, app_list, hs, hd]
    simp
  · rw [ByteArray.size_append', ByteArray.size_append', ← size_list sb, ← size_list ds, hs, hd]
    omega
theorem kind_plain {sg : List UInt8} {q u : ByteArray} {i m : Nat} (h : KindSo sg q i m u) (hi : i < q.size) (h63 : ¬ ((q[i]'hi).toNat : Int) = 63) : KindSo sg q (i + 1) m (u ++ q.extract i (i + 1)) := by
  obtain ⟨h1, h2, h3⟩ := h
  have e : q.data.toList.drop i = q[i] :: q.data.toList.drop (i + 1) := drop_at q i hi
  rw [e, rebL, if_neg h63] at h1
  rw [e, cntQ, if_neg h63] at h2
  have hone := one_byte q i hi
  refine ⟨?_, h2, ?_⟩
  · rw [← h1, app_list, hone]
    simp
  · have : (q.extract i (i + 1)).size = 1 := by rw [← size_list, hone]; rfl
    rw [ByteArray.size_append']
    omega
theorem kind_end {sg : List UInt8} {q u : ByteArray} {m : Nat} (h : KindSo sg q q.size m u) : u = ⟨(rebL sg q.data.toList 0).toArray⟩ := by
  have h1 := h.1
  rw [List.drop_of_length_le (by rw [size_list]; exact Nat.le_refl _)] at h1
  refine ext_list ?_
  show _ = rebL sg q.data.toList 0
  rw [← h1]
  simp [rebL]
theorem cntQ_app (a b : List UInt8) : cntQ (a ++ b) = cntQ a + cntQ b := by
  induction a with
  | nil => simp [cntQ]
  | cons c a ih =>
    rw [List.cons_append, cntQ, cntQ, ih]
    split <;> omega
theorem cntQ_rep (x : List UInt8) : ∀ k, cntQ (Lib.repeatL x k) = k * cntQ x
  | 0 => by simp [Lib.repeatL, cntQ]
  | k + 1 => by
    rw [show Lib.repeatL x (k + 1) = x ++ Lib.repeatL x k from rfl, cntQ_app, cntQ_rep x k, Nat.succ_mul]
    omega
theorem cntQ_marks (n : Nat) : cntQ (marksI n ++ [41]) = n := by
  rw [cntQ_app]
  have e : cntQ [41] = 0 := by decide
  rw [e]
  rcases n with _ | n
  · rfl
  · have e2 : cntQ [44, 32, 63] = 1 := by decide
    rw [marksI, cntQ_mark, cntQ_rep, e2]
    omega
theorem cntQ_head {n : Nat} (hn : n ≤ 6) {wd : List UInt8} (hw : ∀ c ∈ wd, plainC c) : cntQ (headI n wd) = 0 := by
  have h : ∀ c ∈ headI n wd, (c.toNat : Int) ≠ 63 := by
    intro c hc
    have h63 : c ≠ 63 := by
      rcases List.mem_append.1 hc with h | h
      · exact (iH_plain hn c h).2.2.1
      · rcases List.mem_cons.1 h with rfl | h
        · decide
        · exact (hw c h).2.2.1
    intro e
    exact h63 (UInt8.toNat_inj.1 (by rw [show (63 : UInt8).toNat = 63 from rfl]; omega))
  have := cntQ_skip (headI n wd) h []
  rw [List.append_nil] at this
  rw [this]
  rfl
theorem cntQ_want {n K : Nat} (hn : n ≤ 6) (hK : K ≤ 8) {wd : List UInt8} (hw : ∀ c ∈ wd, plainC c) : cntQ (wantI (headI n wd) (marksI n ++ [41]) K) ≤ 99 := by
  rcases K with _ | k
  · simp only [wantI]
    rw [cntQ_head hn hw]
    omega
  · have e1 : cntQ (40 :: (marksI n ++ [41])) = n := by rw [cntQ, if_neg (by decide), cntQ_marks]
    have e2 : cntQ (44 :: 40 :: (marksI n ++ [41])) = n := by rw [cntQ, if_neg (by decide), e1]
    simp only [wantI]
    rw [cntQ_app, cntQ_app, cntQ_head hn hw, cntQ_rep, e1, e2]
    have : k * n ≤ 7 * 6 := Nat.mul_le_mul (by omega) hn
    omega
theorem want_small {n K : Nat} (hn : n ≤ 6) (hK : K ≤ 8) {wd : List UInt8} (hwl : wd.length ≤ 50) {u : ByteArray} (h : u.data.toList = wantI (headI n wd) (marksI n ++ [41]) K) : u.size ≤ 400 := by
  have h1 := cols_len n (by omega)
  have h2 := marks_len n
  refine ins_small h hK ?_ ?_
  · simp [headI, iH]
    omega
  · simp
    omega
def valW : List UInt8 := [86, 65, 76, 85, 69, 83]
theorem valW_ok : WordOk valW := by
  refine ⟨rfl, fun t ht => ?_⟩
  have : t = 0 ∨ t = 1 ∨ t = 2 ∨ t = 3 ∨ t = 4 ∨ t = 5 := by omega
  rcases this with rfl | rfl | rfl | rfl | rfl | rfl <;> exact .inr rfl
end Go.Proofs.YtpjadgdimkdblaaDoor
