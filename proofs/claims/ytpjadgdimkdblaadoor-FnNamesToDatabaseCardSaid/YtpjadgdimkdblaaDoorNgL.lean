/- A name that stands so many times: how the text is compiled. No walk. -/
import Derived.Test.YtpjadgdimkdblaaDoorCnL
import Derived.Test.YtpjadgdimkdblaaDoorCmp
namespace Go.Proofs.YtpjadgdimkdblaaDoor
open Go.RowKit
set_option linter.unusedVariables false

def manyT (nm : List UInt8) : Nat → List UInt8
  | 0 => []
  | k + 1 => 58 :: (nm ++ 32 :: manyT nm k)
def marksT : Nat → List UInt8
  | 0 => []
  | k + 1 => 63 :: 32 :: marksT k
theorem many_cn {nm : ByteArray} (h : NameOk nm) : ∀ (k : Nat) (L : List UInt8) (ns : List (List UInt8)), cn (mkK 1) (manyT nm.data.toList k) none L ns = some (L ++ marksT k, ns ++ List.replicate k nm.data.toList)
  | 0, L, ns => by simp [manyT, marksT, cn]
  | k + 1, L, ns => by
    rw [manyT, cn_mid h 32 _ _ _ (by decide) (by decide) (by decide), many_cn h k]
    simp [marksT, mkK, List.replicate_succ]
theorem many_snoc (nm : List UInt8) : ∀ k, manyT nm k ++ (58 :: (nm ++ [32])) = manyT nm (k + 1)
  | 0 => by simp [manyT]
  | k + 1 => by
    rw [manyT, manyT, ← many_snoc nm k]
    simp
theorem marks_snoc : ∀ k, marksT k ++ [63, 32] = marksT (k + 1)
  | 0 => by simp [marksT]
  | k + 1 => by
    rw [marksT, marksT, ← marks_snoc k]
    simp
theorem many_len (nm : List UInt8) : ∀ k, (manyT nm k).length = k * (nm.length + 2)
  | 0 => by simp [manyT]
  | k + 1 => by
    simp only [manyT, List.length_cons, List.length_append, many_len nm k, Nat.succ_mul]
    omega
theorem marks_len : ∀ k, (marksT k).length = k * 2
  | 0 => rfl
  | k + 1 => by simp only [marksT, List.length_cons, marks_len k]; omega
theorem many_cnt {nm : ByteArray} (h : NameOk nm) : ∀ k, cnt58 (manyT nm.data.toList k) = k
  | 0 => rfl
  | k + 1 => by
    have e : manyT nm.data.toList (k + 1) = [58] ++ (nm.data.toList ++ ([32] ++ manyT nm.data.toList k)) := rfl
    rw [e, cnt_app, cnt_app, cnt_app, cnt_free (no58_name h), many_cnt h k]
    show 1 + (0 + (0 + k)) = k + 1
    omega
theorem many_asc {nm : ByteArray} (h : NameOk nm) : ∀ k, ∀ c ∈ manyT nm.data.toList k, c.toNat < 128
  | 0, c, hc => by simp [manyT] at hc
  | k + 1, c, hc => by
    simp only [manyT, List.mem_cons, List.mem_append] at hc
    rcases hc with rfl | hc | rfl | hc
    · decide
    · exact asc_name h c hc
    · decide
    · exact many_asc h k c hc
theorem many_ok {nm : ByteArray} (h : NameOk nm) {k : Nat} (hk : k ≤ 30) {q : ByteArray} (hq : q.data.toList = manyT nm.data.toList k) : TextOk q := by
  have h30 := h.2.2.2
  refine ⟨?_, ?_, ?_⟩
  · rw [← size_list, hq, many_len, size_list]
    have : k * (nm.size + 2) ≤ 30 * (nm.size + 2) := Nat.mul_le_mul_right _ hk
    omega
  · rw [hq, many_cnt h]; omega
  · intro c hc
    rw [hq] at hc
    exact many_asc h k c hc
end Go.Proofs.YtpjadgdimkdblaaDoor
