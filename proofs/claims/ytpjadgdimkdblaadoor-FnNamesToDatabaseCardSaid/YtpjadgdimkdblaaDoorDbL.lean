/- The text of FnNamesToDatabase: how it is compiled, how its list is spread, and how it is bound. No walk. -/
import Derived.Test.YtpjadgdimkdblaaDoorNgV
namespace Go.Proofs.YtpjadgdimkdblaaDoor
open Go.RowKit
set_option linter.unusedVariables false

def dA : List UInt8 := [97, 32, 61, 32]
def dB : List UInt8 := [65, 78, 68, 32, 98, 32, 73, 78, 32, 40]
def dC : List UInt8 := [32, 65, 78, 68, 32, 99, 32, 61, 32]
def textD (one two : List UInt8) : List UInt8 := dA ++ 58 :: (one ++ 32 :: (dB ++ 58 :: (two ++ 41 :: (dC ++ 58 :: one))))
/-- The text with so many question marks more in its bracket. -/
def markD (m : Nat) : List UInt8 := dA ++ 63 :: 32 :: (dB ++ 63 :: (Lib.repeatL [44, 32, 63] m ++ 41 :: (dC ++ [63])))
theorem d_cn {one two : ByteArray} (h1 : NameOk one) (h2 : NameOk two) : cn (mkK 1) (textD one.data.toList two.data.toList) none [] [] = some (markD 0, [one.data.toList, two.data.toList, one.data.toList]) := by
  unfold textD
  rw [cn_text dA _ _ _ (by unfold no58 dA; decide), cn_mid h1 32 _ _ _ (by decide) (by decide) (by decide), cn_text dB _ _ _ (by unfold no58 dB; decide), cn_mid h2 41 _ _ _ (by decide) (by decide) (by decide), cn_text dC _ _ _ (by unfold no58 dC; decide), cn_fin h1]
  simp [markD, mkK, Lib.repeatL]
theorem d_len (one two : List UInt8) : (textD one two).length = 28 + 2 * one.length + two.length := by
  simp [textD, dA, dB, dC]
  omega
theorem d_ok {one two q : ByteArray} (h1 : NameOk one) (h2 : NameOk two) (hq : q.data.toList = textD one.data.toList two.data.toList) : TextOk q := by
  have a1 := h1.2.2.2
  have a2 := h2.2.2.2
  refine ⟨?_, ?_, ?_⟩
  · rw [← size_list, hq, d_len, size_list, size_list]
    omega
  · have e : textD one.data.toList two.data.toList = dA ++ ([58] ++ (one.data.toList ++ ([32] ++ (dB ++ ([58] ++ (two.data.toList ++ ([41] ++ (dC ++ ([58] ++ one.data.toList))))))))) := by simp [textD]
    rw [hq, e]
    simp only [cnt_app, cnt_free (no58_name h1), cnt_free (no58_name h2)]
    decide
  · intro c hc
    rw [hq] at hc
    simp only [textD, List.mem_append, List.mem_cons] at hc
    rcases hc with hc | rfl | hc | rfl | hc | rfl | hc | rfl | hc | rfl | hc
    · revert c; unfold dA; decide
    · decide
    · exact asc_name h1 c hc
    · decide
    · revert c; unfold dB; decide
    · decide
    · exact asc_name h2 c hc
    · decide
    · revert c; unfold dC; decide
    · decide
    · exact asc_name h1 c hc
/-- Spread. -/
theorem d_spec (r1 r2 r3 : ARec) (h1 : ¬ r1.x.k = 5) (h2 : r2.x.k = 5) (h3 : ¬ r3.x.k = 5) (hne : r2.ys ≠ []) :
    inSpec (markD 0) [r1, r2, r3] = some (markD (r2.ys.length - 1), r1.x :: (r2.ys ++ [r3.x])) := by
  rw [spec_lists (fun i hi => by
    have : i = 0 ∨ i = 1 ∨ i = 2 := by simp at hi; omega
    rcases this with rfl | rfl | rfl
    · exact fun h => h1 h.1
    · exact fun h => hne h.2
    · exact fun h => h3 h.1) (by simp [isL, h2])]
  have m1 : more r1 = [] := by unfold more; rw [if_neg h1]
  have m2 : more r2 = Lib.repeatL [44, 32, 63] (r2.ys.length - 1) := by unfold more; rw [if_pos h2]
  have m3 : more r3 = [] := by unfold more; rw [if_neg h3]
  have v1 : vals r1 = [r1.x] := by unfold vals; rw [if_neg h1]
  have v2 : vals r2 = r2.ys := by unfold vals; rw [if_pos h2]
  have v3 : vals r3 = [r3.x] := by unfold vals; rw [if_neg h3]
  unfold markD
  rw [ex_skip dA (by unfold dA; decide), ex_cons, ex_none 32 _ _ (by decide), ex_skip dB (by unfold dB; decide), ex_cons, show Lib.repeatL ([44, 32, 63] : List UInt8) 0 = [] from rfl, List.nil_append, ex_none 41 _ _ (by decide), ex_skip dC (by unfold dC; decide), ex_cons]
  simp [ex, m1, m2, m3, v1, v2, v3]
/-- The numbers of a list, behind the first. -/
def numD : Nat → Nat → List UInt8
  | _, 0 => []
  | j, m + 1 => 44 :: 32 :: 36 :: (Lib.decDigits (j + 1) ++ numD (j + 1) m)
theorem numD_snoc : ∀ (j m : Nat), numD j (m + 1) = numD j m ++ 44 :: 32 :: 36 :: Lib.decDigits (j + m + 1)
  | j, 0 => by simp [numD]
  | j, m + 1 => by
    rw [numD, numD_snoc (j + 1) m, numD, show j + 1 + m + 1 = j + (m + 1) + 1 from by omega]
    simp
theorem reb_num : ∀ (m j : Nat) (r : List UInt8), rebL [36] (Lib.repeatL [44, 32, 63] m ++ r) j = numD j m ++ rebL [36] r (j + m)
  | 0, j, r => by simp [Lib.repeatL, numD]
  | m + 1, j, r => by
    have e : Lib.repeatL ([44, 32, 63] : List UInt8) (m + 1) ++ r = [44, 32] ++ 63 :: (Lib.repeatL [44, 32, 63] m ++ r) := by simp [Lib.repeatL]
    rw [e, rebL_skip [36] [44, 32] (by decide), rebL_mark, reb_num m (j + 1) r, numD, show j + 1 + m = j + (m + 1) from by omega]
    simp
/-- The text as it begins, up to so many numbers of the list. -/
def headD : List UInt8 := [97, 32, 61, 32, 36, 49, 32, 65, 78, 68, 32, 98, 32, 73, 78, 32, 40]
def wantD : Nat → List UInt8
  | 0 => headD
  | m + 1 => headD ++ 36 :: (Lib.decDigits 2 ++ numD 2 m)
theorem wantD_one : wantD 1 = wantD 0 ++ 36 :: Lib.decDigits 2 := by simp [wantD, numD]
theorem wantD_snoc (m : Nat) : wantD (m + 2) = wantD (m + 1) ++ 44 :: 32 :: 36 :: Lib.decDigits (m + 3) := by
  simp only [wantD]
  rw [numD_snoc, show 2 + m + 1 = m + 3 from by omega]
  simp
theorem dec2 (i : Nat) (hi : i < 100) : (Lib.decDigits i).length ≤ 2 := by
  rw [Lib.decDigits]
  split
  · simp
  · rw [Lib.decDigits, dif_pos (by omega)]
    simp
theorem wantD_len : ∀ k, k ≤ 90 → (wantD k).length ≤ 17 + 5 * k
  | 0, _ => by decide
  | 1, _ => by
    have h2 := dec2 2 (by omega)
    rw [wantD_one, List.length_append]
    simp only [wantD, headD, List.length_cons, List.length_nil]
    omega
  | m + 2, h => by
    have := wantD_len (m + 1) (by omega)
    have h2 := dec2 (m + 3) (by omega)
    rw [wantD_snoc, List.length_append]
    simp only [List.length_cons]
    omega
def endD : List UInt8 := [41, 32, 65, 78, 68, 32, 99, 32, 61, 32, 36]
theorem d_reb (m : Nat) : rebL [36] (markD m) 0 = wantD (m + 1) ++ endD ++ Lib.decDigits (m + 3) := by
  unfold markD
  rw [rebL_skip [36] dA (by unfold dA; decide), show (63 : UInt8) :: 32 :: (dB ++ 63 :: (Lib.repeatL [44, 32, 63] m ++ 41 :: (dC ++ [63]))) = 63 :: ((32 :: dB) ++ 63 :: (Lib.repeatL [44, 32, 63] m ++ ((41 :: dC) ++ [63]))) from rfl]
  rw [rebL_mark, rebL_skip [36] (32 :: dB) (by unfold dB; decide), rebL_mark, reb_num, rebL_skip [36] (41 :: dC) (by unfold dC; decide), rebL_mark]
  rw [show 0 + 1 + 1 + m + 1 = m + 3 from by omega, show Lib.decDigits (0 + 1) = [49] from by rw [Lib.decDigits]; rfl]
  simp [rebL, wantD, headD, endD, dA, dB, dC]
theorem rep3_cnt : ∀ (m : Nat) (r : List UInt8), cntQ (Lib.repeatL [44, 32, 63] m ++ r) = m + cntQ r
  | 0, r => by simp [Lib.repeatL]
  | m + 1, r => by
    have e : Lib.repeatL ([44, 32, 63] : List UInt8) (m + 1) ++ r = [44, 32] ++ 63 :: (Lib.repeatL [44, 32, 63] m ++ r) := by simp [Lib.repeatL]
    rw [e, cntQ_skip [44, 32] (by decide), cntQ_mark, rep3_cnt m r]
    omega
theorem d_cnt (m : Nat) : cntQ (markD m) = m + 3 := by
  unfold markD
  rw [cntQ_skip dA (by unfold dA; decide), show (63 : UInt8) :: 32 :: (dB ++ 63 :: (Lib.repeatL [44, 32, 63] m ++ 41 :: (dC ++ [63]))) = 63 :: ((32 :: dB) ++ 63 :: (Lib.repeatL [44, 32, 63] m ++ ((41 :: dC) ++ [63]))) from rfl, cntQ_mark, cntQ_skip (32 :: dB) (by unfold dB; decide), cntQ_mark, rep3_cnt, cntQ_skip (41 :: dC) (by unfold dC; decide), cntQ_mark]
  simp [cntQ]
theorem rep3_len : ∀ m, (Lib.repeatL ([44, 32, 63] : List UInt8) m).length = 3 * m
  | 0 => rfl
  | m + 1 => by
    rw [show Lib.repeatL ([44, 32, 63] : List UInt8) (m + 1) = [44, 32, 63] ++ Lib.repeatL [44, 32, 63] m from rfl, List.length_append, rep3_len m]
    simp
    omega
theorem d_mlen (m : Nat) : (markD m).length = 28 + 3 * m := by
  simp [markD, dA, dB, dC, rep3_len]
  omega
/-- What comes back of what came back. -/
theorem back_back (x : VRec) : x.back.back = x.back := by
  unfold VRec.back
  congr 1
  · split <;> simp_all
  · split <;> simp_all
theorem backs_back (xs : List VRec) : backs (xs.map VRec.back) = backs xs := by
  unfold backs
  rw [List.map_map]
  congr 1
  apply List.map_congr_left
  intro x _
  show x.back.back.cells = x.back.cells
  rw [back_back]
end Go.Proofs.YtpjadgdimkdblaaDoor
