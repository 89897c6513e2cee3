/- A text for people: its question marks are arguments in apostrophes, two in a row are one. No walk. -/
import Derived.Test.YtdjgknfmehkigaaDoorRep
import Derived.Test.YtdjgknfmehkigaaDoorText
namespace Go.Proofs.YtdjgknfmehkigaaDoor
open Go.RowKit
set_option linter.unusedVariables false

def no63l (l : List UInt8) : Prop := ∀ c ∈ l, (c.toNat : Int) ≠ 63
/-- What a text with arguments is for people. -/
inductive Dbg : List UInt8 → List ByteArray → List UInt8 → Prop
  | fin (s : List UInt8) (h : no63l s) : Dbg s [] s
  | esc (pre s : List UInt8) (bs : List ByteArray) (o : List UInt8) (h : no63l pre) (hs : Dbg s bs o) : Dbg (pre ++ 63 :: 63 :: s) bs (pre ++ 63 :: o)
  | arg (pre s : List UInt8) (a : ByteArray) (bs : List ByteArray) (o : List UInt8) (h : no63l pre) (hh : s.head? ≠ some 63) (hs : Dbg s bs o) : Dbg (pre ++ 63 :: s) (a :: bs) (pre ++ 39 :: (a.data.toList ++ 39 :: o))
theorem dbg_cases {t : List UInt8} {bs : List ByteArray} {o : List UInt8} (h : Dbg t bs o) :
    (no63l t ∧ bs = [] ∧ o = t) ∨ (∃ pre s o', no63l pre ∧ t = pre ++ 63 :: 63 :: s ∧ o = pre ++ 63 :: o' ∧ Dbg s bs o') ∨
    (∃ pre s a bs' o', no63l pre ∧ s.head? ≠ some 63 ∧ t = pre ++ 63 :: s ∧ bs = a :: bs' ∧ o = pre ++ 39 :: (a.data.toList ++ 39 :: o') ∧ Dbg s bs' o') := by
  cases h with
  | fin _ h => exact .inl ⟨h, rfl, rfl⟩
  | esc pre s _ o h hs => exact .inr (.inl ⟨pre, s, o, h, rfl, rfl, hs⟩)
  | arg pre s a bs o h hh hs => exact .inr (.inr ⟨pre, s, a, bs, o, h, hh, rfl, rfl, rfl, hs⟩)
theorem idxQ_no : ∀ (l : List UInt8) (i : Nat), no63l l → idxQ l i = -1
  | [], _, _ => rfl
  | c :: l, i, h => by
    rw [idxQ, if_neg (h c (by simp))]
    exact idxQ_no l (i + 1) (fun d hd => h d (by simp [hd]))
theorem idxQ_at : ∀ (pre s : List UInt8) (i : Nat), no63l pre → idxQ (pre ++ 63 :: s) i = ((i + pre.length : Nat) : Int)
  | [], s, i, _ => by
    rw [List.nil_append, idxQ, if_pos (by decide)]
    simp
  | c :: pre, s, i, h => by
    rw [List.cons_append, idxQ, if_neg (h c (by simp)), idxQ_at pre s (i + 1) (fun d hd => h d (by simp [hd])), List.length_cons]
    congr 1
    omega
/-- What the loop carries. -/
def DbSo (xs : List VRec) (out : List UInt8) (w : World) (s : ByteArray) (m : Nat) (L : List UInt8) (wr : World) : Prop :=
  Lib.IsBuffer 85 5 w.heap.size w.heap.size (Lib.byteCells L) wr ∧ Below w.heap.size w wr ∧ ∃ o, L ++ o = out ∧ Dbg s.data.toList ((xs.drop m).map shownB) o
theorem drop_none {xs : List VRec} {m n : Nat} (hn : xs.length = n) (hm : m ≤ n) (h : (xs.drop m).map shownB = []) : m = n := by
  have := congrArg List.length h
  simp at this
  omega
theorem drop_some {xs : List VRec} {m n : Nat} {a : ByteArray} {bs : List ByteArray} (hn : xs.length = n) (h : (xs.drop m).map shownB = a :: bs) : m < n ∧ a = shownB (xs.getD m z0) ∧ bs = (xs.drop (m + 1)).map shownB := by
  have hlt : m < xs.length := by
    rcases Nat.lt_or_ge m xs.length with h1 | h1
    · exact h1
    · rw [List.drop_of_length_le h1] at h; cases h
  rw [List.drop_eq_getElem_cons hlt, List.map_cons, List.cons.injEq] at h
  refine ⟨by omega, ?_, h.2.symm⟩
  rw [← h.1, List.getD_eq_getElem?_getD, List.getElem?_eq_getElem hlt]
  rfl
theorem cut_at {s : ByteArray} {pre t : List UInt8} (h : s.data.toList = pre ++ t) : (s.extract 0 pre.length).data.toList = pre ∧ (s.extract pre.length s.size).data.toList = t ∧ s.size = pre.length + t.length := by
  refine ⟨?_, ?_, ?_⟩
  · rw [rb_front, h, List.take_left']; rfl
  · rw [rb_cut, h, List.drop_left']; rfl
  · rw [← size_list, h, List.length_append]
theorem cut_two {s : ByteArray} {pre t : List UInt8} (h : s.data.toList = pre ++ t) : (s.extract pre.length (pre.length + 2)).toList = t.take 2 := by
  rw [Go.ByteArray.toList_eq, cut_list, h, List.drop_left' rfl]
  congr 1
  omega
end Go.Proofs.YtdjgknfmehkigaaDoor
