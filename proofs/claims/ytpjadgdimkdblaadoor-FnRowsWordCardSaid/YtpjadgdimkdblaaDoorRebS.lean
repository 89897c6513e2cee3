/- Question marks of a text replaced by a sign and their number: what Rebind answers. No walk. -/
import Derived.Test.YtpjadgdimkdblaaDoorWords
import Derived.Lib.ItoaNum
import Derived.Lib.UnsafeStr
namespace Go.Proofs.YtpjadgdimkdblaaDoor
open Go.RowKit
set_option linter.unusedVariables false

theorem idxQ_none : ∀ (l : List UInt8) (i : Nat), idxQ l i = -1 → ∀ c ∈ l, (c.toNat : Int) ≠ 63
  | [], _, _ => by simp
  | c :: l, i, h => by
    unfold idxQ at h
    split at h
    · omega
    · intro d hd
      rcases List.mem_cons.1 hd with rfl | hd
      · assumption
      · exact idxQ_none l _ h d hd
theorem idxQ_ge : ∀ (l : List UInt8) (i : Nat), idxQ l i = -1 ∨ (i : Int) ≤ idxQ l i
  | [], _ => by simp [idxQ]
  | c :: l, i => by
    unfold idxQ
    split
    · right; omega
    · rcases idxQ_ge l (i + 1) with h | h
      · exact .inl h
      · right; omega
theorem idxQ_some : ∀ (l : List UInt8) (i k : Nat), idxQ l i = ((i + k : Nat) : Int) → k < l.length ∧ l = l.take k ++ 63 :: l.drop (k + 1) ∧ ∀ c ∈ l.take k, (c.toNat : Int) ≠ 63
  | [], i, k, h => by simp [idxQ] at h; omega
  | c :: l, i, k, h => by
    unfold idxQ at h
    split at h
    · rename_i hc
      have : k = 0 := by omega
      subst this
      refine ⟨by simp, ?_, by simp⟩
      have : c = 63 := UInt8.toNat_inj.1 (by rw [show (63 : UInt8).toNat = 63 from rfl]; omega)
      simp [this]
    · rename_i hc
      have hge := idxQ_ge l (i + 1)
      rcases k with _ | k
      · omega
      · have := idxQ_some l (i + 1) k (by rw [h]; omega)
        refine ⟨by simp; omega, by rw [List.take_succ_cons, List.drop_succ_cons, List.cons_append]; exact congrArg (c :: ·) this.2.1, ?_⟩
        intro d hd
        rw [List.take_succ_cons] at hd
        rcases List.mem_cons.1 hd with rfl | hd
        · exact hc
        · exact this.2.2 d hd

/-- Each question mark a sign with its number. -/
def rebL (sg : List UInt8) : List UInt8 → Nat → List UInt8
  | [], _ => []
  | c :: l, j => if (c.toNat : Int) = 63 then sg ++ (Lib.decDigits (j + 1) ++ rebL sg l (j + 1)) else c :: rebL sg l j
def cntQ : List UInt8 → Nat
  | [] => 0
  | c :: l => if (c.toNat : Int) = 63 then cntQ l + 1 else cntQ l
theorem rebL_skip (sg : List UInt8) (a : List UInt8) (h : ∀ c ∈ a, (c.toNat : Int) ≠ 63) (l : List UInt8) (j : Nat) : rebL sg (a ++ l) j = a ++ rebL sg l j := by
  induction a with
  | nil => rfl
  | cons c a ih => rw [List.cons_append, rebL, if_neg (h c (by simp)), ih (fun d hd => h d (by simp [hd])), List.cons_append]
theorem cntQ_skip (a : List UInt8) (h : ∀ c ∈ a, (c.toNat : Int) ≠ 63) (l : List UInt8) : cntQ (a ++ l) = cntQ l := by
  induction a with
  | nil => rfl
  | cons c a ih => rw [List.cons_append, cntQ, if_neg (h c (by simp)), ih (fun d hd => h d (by simp [hd]))]
theorem rebL_mark (sg : List UInt8) (l : List UInt8) (j : Nat) : rebL sg (63 :: l) j = sg ++ (Lib.decDigits (j + 1) ++ rebL sg l (j + 1)) := by rw [rebL, if_pos (by decide)]
theorem cntQ_mark (l : List UInt8) : cntQ (63 :: l) = cntQ l + 1 := by rw [cntQ, if_pos (by decide)]
/-- What the loop of Rebind carries. -/
def RbSo (q : ByteArray) (sg : List UInt8) (w : World) (s : ByteArray) (j : Nat) (L : List UInt8) (v : Value) (wr : World) : Prop :=
  wr.ownsRow w.heap.size 5 1 v L.length (Lib.byteCells L) ∧ Below w.heap.size w wr ∧ L ++ rebL sg s.data.toList j = rebL sg q.data.toList 0 ∧ j + cntQ s.data.toList ≤ 99 ∧ L.length + 7 * s.size ≤ 7 * q.size
theorem rb_none {q : ByteArray} {sg : List UInt8} {w : World} {s : ByteArray} {j : Nat} {L : List UInt8} {v : Value} {wr : World} (h : RbSo q sg w s j L v wr) (hi : idxQ s.data.toList 0 = -1) : L ++ s.data.toList = rebL sg q.data.toList 0 := by
  have h3 := h.2.2.1
  have := rebL_skip sg s.data.toList (idxQ_none _ 0 hi) [] j
  rw [List.append_nil] at this
  rw [this] at h3
  rw [← h3]
  simp [rebL]
theorem rb_cut (s : ByteArray) (i : Nat) : (s.extract i s.size).data.toList = s.data.toList.drop i := by
  rw [cut_list, List.take_of_length_le (by rw [List.length_drop, size_list]; omega)]
theorem rb_front (s : ByteArray) (i : Nat) : (s.extract 0 i).data.toList = s.data.toList.take i := by
  rw [cut_list, List.drop_zero, Nat.sub_zero]
theorem rb_step {q : ByteArray} {sg : List UInt8} {w : World} {s : ByteArray} {j k : Nat} {L : List UInt8} {v v2 : Value} {wr w2 : World} (h : RbSo q sg w s j L v wr) (hi : idxQ s.data.toList 0 = (k : Int)) (hs : sg.length ≤ 4) (hd : (Lib.decDigits (j + 1)).length ≤ 2)
    (ho : w2.ownsRow w.heap.size 5 1 v2 (L ++ s.data.toList.take k ++ sg ++ Lib.decDigits (j + 1)).length (Lib.byteCells (L ++ s.data.toList.take k ++ sg ++ Lib.decDigits (j + 1)))) (hb : Below w.heap.size w w2) :
    RbSo q sg w (s.extract (k + 1) s.size) (j + 1) (L ++ s.data.toList.take k ++ sg ++ Lib.decDigits (j + 1)) v2 w2 := by
  obtain ⟨_, _, h3, h4, h5⟩ := h
  obtain ⟨hk, he, hno⟩ := idxQ_some s.data.toList 0 k (by simpa using hi)
  rw [size_list] at hk
  refine ⟨ho, hb, ?_, ?_, ?_⟩
  · rw [← h3, rb_cut]
    conv => rhs; rw [he, rebL_skip sg _ hno, rebL_mark]
    simp only [List.append_assoc]
  · rw [rb_cut]
    rw [he, cntQ_skip _ hno, cntQ_mark] at h4
    omega
  · have hsz : (s.extract (k + 1) s.size).size = s.size - (k + 1) := by rw [← size_list, rb_cut, List.length_drop, size_list]
    have htk : (s.data.toList.take k).length ≤ k := by rw [List.length_take]; omega
    simp only [List.length_append, hsz]
    omega
theorem rb_small {q : ByteArray} {sg : List UInt8} {w : World} {s : ByteArray} {j k : Nat} {L : List UInt8} {v : Value} {wr : World} (h : RbSo q sg w s j L v wr) (hi : idxQ s.data.toList 0 = (k : Int)) : j + 1 < 100 ∧ k < s.size := by
  obtain ⟨_, _, h3, h4, h5⟩ := h
  obtain ⟨hk, he, hno⟩ := idxQ_some s.data.toList 0 k (by simpa using hi)
  rw [size_list] at hk
  rw [he, cntQ_skip _ hno, cntQ_mark] at h4
  omega
end Go.Proofs.YtpjadgdimkdblaaDoor
