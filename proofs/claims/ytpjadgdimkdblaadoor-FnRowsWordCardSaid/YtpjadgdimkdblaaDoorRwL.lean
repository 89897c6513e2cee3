/- Texts of an insert: where its word and its brackets stand, and what fixBound makes of it. No walk. -/
import Derived.Test.YtpjadgdimkdblaaDoorRws
namespace Go.Proofs.YtpjadgdimkdblaaDoor
open Go.RowKit
set_option linter.unusedVariables false

theorem repeat_snoc (x : List UInt8) : ∀ k, Lib.repeatL x k ++ x = Lib.repeatL x (k + 1)
  | 0 => by simp [Lib.repeatL]
  | k + 1 => by
    have e1 : Lib.repeatL x (k + 1) ++ x = x ++ (Lib.repeatL x k ++ x) := by
      rw [show Lib.repeatL x (k + 1) = x ++ Lib.repeatL x k from rfl, List.append_assoc]
    rw [e1, repeat_snoc x k]
    rfl
theorem closL_pass (x : List UInt8) (hx : ∀ c ∈ x, (c.toNat : Int) ≠ 40 ∧ (c.toNat : Int) ≠ 41) (y : List UInt8) (i : Nat) (n : Int) :
    closL (x ++ y) i n = closL y (i + x.length) n := by
  induction x generalizing i with
  | nil => rfl
  | cons c x ih =>
    have hc := hx c (by simp)
    rw [List.cons_append, closL, if_neg hc.1, if_neg hc.2, ih (fun d hd => hx d (by simp [hd]))]
    congr 1
    simp only [List.length_cons]
    omega
theorem closL_lp (y : List UInt8) (i : Nat) (n : Int) : closL (40 :: y) i n = closL y (i + 1) (n + 1) := by rw [closL, if_pos (by decide)]
theorem closL_rp (y : List UInt8) (i : Nat) (n : Int) : closL (41 :: y) i n = if n - 1 = 0 then i else closL y (i + 1) (n - 1) := by rw [closL, if_neg (by decide), if_pos (by decide)]
theorem bt_list {q : ByteArray} {l : List UInt8} (h : q.data.toList = l) (i : Nat) : bt q i = ((l.getD i 0).toNat : Int) := by
  unfold bt
  rw [h]
theorem getD_left (a b : List UInt8) (i : Nat) (h : i < a.length) : (a ++ b).getD i 0 = a.getD i 0 := by
  rw [List.getD_eq_getElem?_getD, List.getElem?_append_left h, ← List.getD_eq_getElem?_getD]
theorem getD_right (a b : List UInt8) (i : Nat) : (a ++ b).getD (a.length + i) 0 = b.getD i 0 := by
  rw [List.getD_eq_getElem?_getD, List.getElem?_append_right (by omega), Nat.add_sub_cancel_left, ← List.getD_eq_getElem?_getD]
theorem getD_in (a : List UInt8) (i : Nat) (h : i < a.length) : a.getD i 0 ∈ a := by
  rw [List.getD_eq_getElem?_getD, List.getElem?_eq_getElem h]
  exact List.getElem_mem h
/-- The head of an insert: what stands ahead of the first closing bracket, the word with its white space. -/
def headL (h g1 wd g2 : List UInt8) : List UInt8 := h ++ 41 :: (g1 ++ (wd ++ g2))
theorem headL_len (h g1 wd g2 : List UInt8) : (headL h g1 wd g2).length = h.length + 1 + g1.length + wd.length + g2.length := by
  simp [headL]
  omega
structure WordOk (wd : List UInt8) : Prop where
  len : wd.length = 6
  same : ∀ t, t < 6 → isC ((wd.getD t 0).toNat : Int) (((⟨#[118, 97, 108, 117, 101, 115]⟩ : ByteArray).data.toList.getD t 0).toNat : Int)
theorem valAt_of {q : ByteArray} {h g1 wd g2 r : List UInt8} (hq : q.data.toList = headL h g1 wd g2 ++ 40 :: r) (hh : ∀ c ∈ h, c ≠ 41) (hg1 : ∀ c ∈ g1, isW (c.toNat : Int)) (hw : WordOk wd) (hg2 : ∀ c ∈ g2, isW (c.toNat : Int)) :
    ValAt q h.length (h.length + 1 + g1.length) (headL h g1 wd g2).length := by
  have hl := headL_len h g1 wd g2
  have h6 := hw.len
  have e1 : headL h g1 wd g2 ++ 40 :: r = h ++ (41 :: (g1 ++ (wd ++ (g2 ++ 40 :: r)))) := by simp [headL]
  have e2 : headL h g1 wd g2 ++ 40 :: r = (h ++ [41]) ++ (g1 ++ (wd ++ (g2 ++ 40 :: r))) := by simp [headL]
  have e3 : headL h g1 wd g2 ++ 40 :: r = (h ++ 41 :: g1) ++ (wd ++ (g2 ++ 40 :: r)) := by simp [headL]
  have e4 : headL h g1 wd g2 ++ 40 :: r = (h ++ 41 :: (g1 ++ wd)) ++ (g2 ++ 40 :: r) := by simp [headL]
  have l2 : (h ++ [41]).length = h.length + 1 := by simp
  have l3 : (h ++ 41 :: g1).length = h.length + 1 + g1.length := by simp; omega
  have l4 : (h ++ 41 :: (g1 ++ wd)).length = h.length + 1 + g1.length + 6 := by simp [h6]; omega
  refine ⟨by omega, by omega, ?_, fun l hl2 => ?_, ?_, fun l h1 h2 => ?_, fun t ht => ?_, fun l h1 h2 => ?_, ?_⟩
  · rw [← size_list, hq, List.length_append, List.length_cons]
    omega
  · rw [bt_list hq, e1, getD_left _ _ _ hl2]
    have := hh _ (getD_in h l hl2)
    intro e
    exact this (UInt8.toNat_inj.1 (by rw [show (41 : UInt8).toNat = 41 from rfl]; omega))
  · rw [bt_list hq, e1]
    have := getD_right h (41 :: (g1 ++ (wd ++ (g2 ++ 40 :: r)))) 0
    rw [Nat.add_zero] at this
    rw [this]
    rfl
  · obtain ⟨i, rfl⟩ : ∃ i, l = (h ++ [41]).length + i := ⟨l - (h.length + 1), by omega⟩
    rw [bt_list hq, e2, getD_right, getD_left _ _ _ (by omega)]
    exact hg1 _ (getD_in _ _ (by omega))
  · rw [bt_list hq, e3, ← l3, getD_right, getD_left _ _ _ (by omega)]
    exact hw.same t ht
  · obtain ⟨i, rfl⟩ : ∃ i, l = (h ++ 41 :: (g1 ++ wd)).length + i := ⟨l - (h.length + 1 + g1.length + 6), by omega⟩
    rw [bt_list hq, e4, getD_right, getD_left _ _ _ (by omega)]
    exact hg2 _ (getD_in _ _ (by omega))
  · rw [bt_list hq]
    have := getD_right (headL h g1 wd g2) (40 :: r) 0
    rw [Nat.add_zero] at this
    rw [this]
    rfl
theorem fix_parts (P G R : List UInt8) (k : Nat) : fixL (P ++ (G ++ R)) P.length (P.length + G.length) k ++ (P ++ (G ++ R)).drop (P.length + G.length) = P ++ G ++ Lib.repeatL (44 :: G) k ++ R := by
  have h1 : (P ++ (G ++ R)).take (P.length + G.length) = P ++ G := by
    rw [← List.append_assoc, show P.length + G.length = (P ++ G).length from by simp, List.take_left]
  have h2 : (P ++ (G ++ R)).drop (P.length + G.length) = R := by
    rw [← List.append_assoc, show P.length + G.length = (P ++ G).length from by simp, List.drop_left]
  unfold fixL
  rw [h1, h2, List.drop_left]
/-- The text for so many rows. -/
theorem fixTo_of {q1 q2 : ByteArray} {h g1 wd g2 G R : List UInt8} {K : Nat} (hK : 1 ≤ K) (hq : q1.data.toList = headL h g1 wd g2 ++ (40 :: G ++ R)) (hh : ∀ c ∈ h, c ≠ 41) (hg1 : ∀ c ∈ g1, isW (c.toNat : Int)) (hw : WordOk wd) (hg2 : ∀ c ∈ g2, isW (c.toNat : Int))
    (hc : closL (40 :: G ++ R) 0 0 = G.length) (hG : G ≠ []) (hq2 : q2.data.toList = headL h g1 wd g2 ++ (40 :: G) ++ Lib.repeatL (44 :: 40 :: G) (K - 1) ++ R) : FixTo q1 K q2 := by
  rcases Nat.lt_or_ge 1 K with h1 | h1
  · have hv := valAt_of (r := G ++ R) (by rw [hq]; rfl) hh hg1 hw hg2
    have hl : q1.size = (headL h g1 wd g2).length + (G.length + 1) + R.length := by
      rw [← size_list, hq]
      simp
      omega
    have hG1 : 1 ≤ G.length := by
      rcases G with _ | ⟨a, G⟩
      · exact absurd rfl hG
      · simp
    refine .inr ⟨K - 2, _, _, _, G.length, (headL h g1 wd g2).length + (40 :: G).length, by omega, hv, ?_, by omega, by simp; omega, by simp; omega, ?_⟩
    · unfold closing
      rw [cut_list, hq, List.drop_left, List.take_of_length_le (by simp; omega)]
      exact hc
    · refine ext_list ?_
      rw [hq2, hq, show (K - 1) = K - 2 + 1 from by omega]
      exact (fix_parts (headL h g1 wd g2) (40 :: G) R (K - 2 + 1)).symm
  · obtain rfl : K = 1 := by omega
    refine .inl ⟨rfl, ext_list ?_⟩
    rw [hq2, hq]
    simp [Lib.repeatL]
theorem row_data' {r : RRow} {names : List ByteArray} {vs : List VRec} (h : r.gs = rowGs names vs) : r.data = pairsR names vs := by
  obtain ⟨A, c, gs⟩ := r
  simp only at h
  subst h
  exact row_data A c names vs
theorem name_back (names : List ByteArray) (j : Nat) : (⟨((names.map fun s => s.data.toList).getD j []).toArray⟩ : ByteArray) = names.getD j ByteArray.empty := by
  rw [List.getD_eq_getElem?_getD, List.getD_eq_getElem?_getD, List.getElem?_map]
  cases names[j]? <;> rfl
theorem getD_flat_mem {vss : List (List VRec)} {P : VRec → Prop} (h : ∀ x ∈ vss.flatten, P x) : ∀ i, i < vss.flatten.length → P (vss.flatten.getD i z0) := by
  intro i hi
  refine h _ ?_
  rw [List.getD_eq_getElem?_getD, List.getElem?_eq_getElem hi]
  exact List.getElem_mem hi
theorem rowsSay_of {rs : List RRow} {names : List ByteArray} {vss : List (List VRec)} (hl : vss.length = rs.length) (hgs : ∀ i, i < rs.length → (rs.getD i r0).gs = rowGs names (vss.getD i [])) (hlen : ∀ i, i < rs.length → (vss.getD i []).length = names.length) (hd : names.Nodup) (hf : ∀ x ∈ vss.flatten, flatk x) (few : vss.flatten.length ≤ 10000) :
    RowsSay rs (names.map fun s => s.data.toList) vss := by
  refine ⟨hl, fun i hi => by rw [hlen i hi, List.length_map], fun i hi j hj => ?_, getD_flat_mem hf, few⟩
  rw [List.length_map] at hj
  rw [row_data' (hgs i hi), name_back]
  exact look_row names _ (hlen i hi) hd j hj
theorem vget_mem {vs : List VRec} {j : Nat} (h : j < vs.length) : vs.getD j z0 ∈ vs := by
  rw [List.getD_eq_getElem?_getD, List.getElem?_eq_getElem h]
  exact List.getElem_mem h
theorem rows_good {rs : List RRow} {names : List ByteArray} {vss : List (List VRec)} (hl : vss.length = rs.length) (hgs : ∀ i, i < rs.length → (rs.getD i r0).gs = rowGs names (vss.getD i [])) (hlen : ∀ i, i < rs.length → (vss.getD i []).length = names.length) (hd : names.Nodup) (hm : names.length ≤ 1000000) (hs : ∀ j, j < names.length → (names.getD j ByteArray.empty).size ≤ maxLen) (hf : ∀ x ∈ vss.flatten, flatk x) : ∀ i, i < rs.length → GoodRow (rs.getD i r0).gs := by
  intro i hi
  rw [hgs i hi]
  refine good_row (hlen i hi) hd hm hs (fun j hj => hf _ ?_)
  refine List.mem_flatten.2 ⟨vss.getD i [], ?_, ?_⟩
  · rw [List.getD_eq_getElem?_getD, List.getElem?_eq_getElem (by rw [hl]; exact hi)]
    exact List.getElem_mem _
  · exact vget_mem hj
/- Rows in memory. -/
theorem Tryd.infoArgs : (Tryd.prog.info? 40).map (fun i => (i.zero, i.size, i.bytes)) = some (some (.slice none 0 0), 1, 24) := by kernel_rfl
theorem own_row (w : World) (B : Nat) (gs : List NRec) (n : Nat) (hn : gs.length = n) (hB : B ≤ w.heap.size) (hm : n ≤ maxLen) : (w.alloc (.cells (cellsN gs).toArray 39)).ownsRow B 39 5 (.slice (some ⟨w.heap.size, 0, none⟩) n n) n (cellsN gs) := by
  subst hn
  exact ⟨by rw [cellsN_length], .inr ⟨w.heap.size, gs.length, (cellsN gs).toArray, rfl, hB, heap_alloc_new w _, Nat.le_refl _, hm, by simp [cellsN_length], by simp [List.take_of_length_le, cellsN_length]⟩⟩
theorem cell_one_new2 (w : World) (X : Obj) (v : Value) (T : TypeId) : ∀ j u, [v][j]? = some u → ((w.alloc X).alloc (.cells #[v] T)).cell? ((⟨w.heap.size + 1, 0, none⟩ : Addr).add j) = some u := by
  have h := cells_new (w.alloc X) [v] T
  rw [World.size_alloc] at h
  exact h
end Go.Proofs.YtpjadgdimkdblaaDoor
