/- The text of FnRowsNested: how it is compiled, and what stands for so many rows. No walk. -/
import Derived.Test.YtpjadgdimkdblaaDoorRwL
namespace Go.Proofs.YtpjadgdimkdblaaDoor
open Go.RowKit
set_option linter.unusedVariables false

def nH : List UInt8 := [73, 78, 83, 69, 82, 84, 32, 73, 78, 84, 79, 32, 116, 32, 40, 97]
def nW : List UInt8 := [86, 65, 76, 85, 69, 83]
def nHead : List UInt8 := [73, 78, 83, 69, 82, 84, 32, 73, 78, 84, 79, 32, 116, 32, 40, 97, 41, 32, 86, 65, 76, 85, 69, 83, 32]
theorem nHead_eq : nHead = headL nH [32] nW [32] := rfl
theorem nW_ok : WordOk nW := by
  refine ⟨rfl, fun t ht => ?_⟩
  have : t = 0 ∨ t = 1 ∨ t = 2 ∨ t = 3 ∨ t = 4 ∨ t = 5 := by omega
  rcases this with rfl | rfl | rfl | rfl | rfl | rfl <;> exact .inr rfl
def opensL (d : Nat) : List UInt8 := Lib.repeatL [102, 40] d
def endsL (d : Nat) : List UInt8 := Lib.repeatL [41] d
/-- A row's marks behind its opening bracket. -/
def rowN (d : Nat) : List UInt8 := opensL d ++ 63 :: (endsL d ++ [44, 32, 49, 41])
def textN (d : Nat) (nm : List UInt8) : List UInt8 := (nHead ++ 40 :: opensL d) ++ 58 :: (nm ++ (endsL d ++ [44, 32, 49, 41, 32, 120]))
def boundN (d : Nat) : List UInt8 := nHead ++ (40 :: rowN d ++ [32, 120])
def wantN (d : Nat) : Nat → List UInt8
  | 0 => nHead
  | k + 1 => nHead ++ (40 :: rowN d) ++ Lib.repeatL (44 :: 40 :: rowN d) k
theorem wantN_one (d : Nat) : wantN d 1 = wantN d 0 ++ 40 :: rowN d := by simp [wantN, Lib.repeatL]
theorem wantN_snoc (d k : Nat) : wantN d (k + 2) = wantN d (k + 1) ++ 44 :: 40 :: rowN d := by
  simp only [wantN]
  rw [← repeat_snoc]
  simp
theorem rep_mem (x : List UInt8) : ∀ k, ∀ c ∈ Lib.repeatL x k, c ∈ x
  | 0, c, h => by simp [Lib.repeatL] at h
  | k + 1, c, h => by
    rw [show Lib.repeatL x (k + 1) = x ++ Lib.repeatL x k from rfl] at h
    rcases List.mem_append.1 h with h | h
    · exact h
    · exact rep_mem x k c h
theorem opens_len (d : Nat) : (opensL d).length = 2 * d := by
  unfold opensL
  rw [repeat_len]
  simp
  omega
theorem ends_len (d : Nat) : (endsL d).length = d := by
  unfold endsL
  rw [repeat_len]
  simp
theorem rowN_len (d : Nat) : (rowN d).length = 3 * d + 5 := by
  simp [rowN, opens_len, ends_len]
  omega
theorem wantN_len (d : Nat) : ∀ k, (wantN d k).length ≤ 25 + k * (3 * d + 7)
  | 0 => by simp [wantN, nHead]
  | k + 1 => by
    have e : (k + 1) * (3 * d + 7) = k * (3 * d + 7) + (3 * d + 7) := Nat.succ_mul _ _
    simp only [wantN, List.length_append, repeat_len, List.length_cons, rowN_len]
    rw [e, show 3 * d + 5 + 1 + 1 = 3 * d + 7 from by omega]
    simp only [nHead, List.length_cons, List.length_nil]
    omega
theorem textN_len (d : Nat) (nm : List UInt8) : (textN d nm).length = 33 + 3 * d + nm.length := by
  simp [textN, nHead, opens_len, ends_len]
  omega
theorem no58_opens (d : Nat) : no58 (nHead ++ 40 :: opensL d) := by
  intro c hc
  rcases List.mem_append.1 hc with h | h
  · exact (show ∀ c ∈ nHead, c ≠ 58 by unfold nHead; decide) c h
  · rcases List.mem_cons.1 h with rfl | h
    · decide
    · have := rep_mem _ _ _ h
      simp at this
      rcases this with rfl | rfl <;> decide
theorem no58_ends (d : Nat) : no58 (endsL d ++ [44, 32, 49, 41, 32, 120]) := by
  intro c hc
  rcases List.mem_append.1 hc with h | h
  · have := rep_mem _ _ _ h
    simp at this
    subst this
    decide
  · exact (show ∀ c ∈ ([44, 32, 49, 41, 32, 120] : List UInt8), c ≠ 58 by decide) c h
theorem n_cn {nm : ByteArray} (h : NameOk nm) (d : Nat) : cn (mkK 1) (textN d nm.data.toList) none [] [] = some (boundN d, [nm.data.toList]) := by
  unfold textN
  rw [cn_text _ _ _ _ (no58_opens d)]
  rcases d with _ | d
  · rw [show endsL 0 ++ [44, 32, 49, 41, 32, 120] = 44 :: [32, 49, 41, 32, 120] from rfl, cn_mid h 44 _ _ _ (by decide) (by decide) (by decide), cn_free _ _ _ (by unfold no58; decide)]
    simp [boundN, rowN, mkK, endsL, Lib.repeatL]
  · have e : endsL (d + 1) ++ [44, 32, 49, 41, 32, 120] = 41 :: (endsL d ++ [44, 32, 49, 41, 32, 120]) := rfl
    rw [e, cn_mid h 41 _ _ _ (by decide) (by decide) (by decide), cn_free _ _ _ (no58_ends d)]
    have e2 : endsL (d + 1) = 41 :: endsL d := rfl
    simp [boundN, rowN, mkK, e2]
theorem asc_open (d : Nat) : ∀ c ∈ nHead ++ 40 :: opensL d, c.toNat < 128 := by
  intro c hc
  rcases List.mem_append.1 hc with h | h
  · exact (show ∀ c ∈ nHead, c.toNat < 128 by unfold nHead; decide) c h
  · rcases List.mem_cons.1 h with rfl | h
    · decide
    · have := rep_mem _ _ _ h
      simp at this
      rcases this with rfl | rfl <;> decide
theorem asc_ends (d : Nat) : ∀ c ∈ endsL d, c.toNat < 128 := by
  intro c hc
  have := rep_mem _ _ _ hc
  simp at this
  subst this
  decide
theorem n_ok {nm : ByteArray} (h : NameOk nm) {d : Nat} (hd : d ≤ 6) {q : ByteArray} (hq : q.data.toList = textN d nm.data.toList) : TextOk q := by
  have h30 := h.2.2.2
  refine ⟨?_, ?_, ?_⟩
  · rw [← size_list, hq, textN_len, size_list]
    omega
  · have e : textN d nm.data.toList = (nHead ++ 40 :: opensL d) ++ ([58] ++ (nm.data.toList ++ (endsL d ++ [44, 32, 49, 41, 32, 120]))) := by simp [textN]
    rw [hq, e, cnt_app (nHead ++ 40 :: opensL d), cnt_app [58], cnt_app nm.data.toList, cnt_free (no58_opens d), cnt_free (no58_name h), cnt_free (no58_ends d)]
    decide
  · intro c hc
    rw [hq] at hc
    rcases List.mem_append.1 hc with hc | hc
    · exact asc_open d c hc
    · rcases List.mem_cons.1 hc with rfl | hc
      · decide
      · rcases List.mem_append.1 hc with hc | hc
        · exact asc_name h c hc
        · rcases List.mem_append.1 hc with hc | hc
          · exact asc_ends d c hc
          · exact (show ∀ c ∈ ([44, 32, 49, 41, 32, 120] : List UInt8), c.toNat < 128 by decide) c hc
theorem closL_opens : ∀ (d : Nat) (y : List UInt8) (i : Nat) (n : Int), closL (opensL d ++ y) i n = closL y (i + 2 * d) (n + d)
  | 0, y, i, n => by simp [opensL, Lib.repeatL]
  | d + 1, y, i, n => by
    have e : opensL (d + 1) ++ y = [102] ++ (40 :: (opensL d ++ y)) := rfl
    rw [e, closL_pass [102] (by decide), closL_lp, closL_opens d]
    congr 1
    · simp; omega
    · omega
theorem closL_ends : ∀ (d : Nat) (y : List UInt8) (i : Nat), closL (endsL d ++ y) i (d + 1 : Nat) = closL y (i + d) 1
  | 0, y, i => by simp [endsL, Lib.repeatL]
  | d + 1, y, i => by
    have e : endsL (d + 1) ++ y = 41 :: (endsL d ++ y) := rfl
    rw [e, closL_rp, if_neg (by omega), show ((d + 1 + 1 : Nat) : Int) - 1 = ((d + 1 : Nat) : Int) from by omega, closL_ends d]
    congr 1
    omega
theorem n_close (d : Nat) (R : List UInt8) : closL (40 :: rowN d ++ R) 0 0 = (rowN d).length := by
  have e : 40 :: rowN d ++ R = 40 :: (opensL d ++ ([63] ++ (endsL d ++ ([44, 32, 49] ++ 41 :: R)))) := by simp [rowN]
  rw [e, closL_lp, closL_opens, closL_pass [63] (by decide), show (0 : Int) + 1 + d = ((d + 1 : Nat) : Int) from by omega, closL_ends, closL_pass [44, 32, 49] (by decide), closL_rp, if_pos (by decide), rowN_len]
  simp
  omega
theorem n_fix {q1 q2 : ByteArray} {d K : Nat} (hK : 1 ≤ K) (h1 : q1.data.toList = boundN d) (h2 : q2.data.toList = wantN d K ++ [32, 120]) : FixTo q1 K q2 := by
  refine fixTo_of (h := nH) (g1 := [32]) (wd := nW) (g2 := [32]) (G := rowN d) (R := [32, 120]) hK h1 (by unfold nH; decide) (by intro c hc; simp at hc; subst hc; exact .inl rfl) nW_ok (by intro c hc; simp at hc; subst hc; exact .inl rfl) (n_close d _) ?_ ?_
  · intro e
    have := rowN_len d
    rw [e] at this
    simp at this
  · rw [h2]
    obtain ⟨k, rfl⟩ : ∃ k, K = k + 1 := ⟨K - 1, by omega⟩
    rw [← nHead_eq]
    rfl
theorem n_asc {q1 : ByteArray} {d : Nat} (h1 : q1.data.toList = boundN d) : asc q1 := by
  intro c hc
  rw [h1] at hc
  have e : boundN d = (nHead ++ 40 :: opensL d) ++ 63 :: (endsL d ++ [44, 32, 49, 41, 32, 120]) := by simp [boundN, rowN]
  rw [e] at hc
  rcases List.mem_append.1 hc with hc | hc
  · exact asc_open d c hc
  · rcases List.mem_cons.1 hc with rfl | hc
    · decide
    · rcases List.mem_append.1 hc with hc | hc
      · exact asc_ends d c hc
      · exact (show ∀ c ∈ ([44, 32, 49, 41, 32, 120] : List UInt8), c.toNat < 128 by decide) c hc
end Go.Proofs.YtpjadgdimkdblaaDoor
