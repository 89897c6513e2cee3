/- The plain law of FnClosingDeep: where the closing bracket stands in a text that is built of brackets within brackets. No program. -/
import Derived.Test.YtdjgknfmehkigaaClose
namespace Go.Proofs.Ytdjgknfmehkigaa
open Go.RowKit
set_option linter.unusedVariables false

def lp : ByteArray := ⟨#[40]⟩
def rp : ByteArray := ⟨#[41]⟩
theorem lp_list : lp.data.toList = [40] := rfl
theorem rp_list : rp.data.toList = [41] := rfl
/-- A list without brackets is passed over. -/
theorem closL_pass (x : List UInt8) (hx : ∀ c ∈ x, (c.toNat : Int) ≠ 40 ∧ (c.toNat : Int) ≠ 41) (y : List UInt8) (i : Nat) (n : Int) :
    closL (x ++ y) i n = closL y (i + x.length) n := by
  induction x generalizing i with
  | nil => rfl
  | cons c x ih =>
    have hc := hx c (by simp)
    rw [List.cons_append, closL, if_neg hc.1, if_neg hc.2, ih (fun d hd => hx d (by simp [hd]))]
    congr 1
    simp only [List.length_cons]
    omega
theorem nobr_list {s : ByteArray} (h : ∀ i, i < s.size → bt s i ≠ 40 ∧ bt s i ≠ 41) : ∀ c ∈ s.data.toList, (c.toNat : Int) ≠ 40 ∧ (c.toNat : Int) ≠ 41 := by
  intro c hc
  obtain ⟨i, hi, rfl⟩ := List.getElem_of_mem hc
  have := h i (by simpa using hi)
  unfold bt at this
  rwa [List.getD_eq_getElem?_getD, List.getElem?_eq_getElem hi] at this
theorem closL_lp (y : List UInt8) (i : Nat) (n : Int) : closL (40 :: y) i n = closL y (i + 1) (n + 1) := by rw [closL, if_pos (by decide)]
theorem closL_rp (y : List UInt8) (i : Nat) (n : Int) : closL (41 :: y) i n = if n - 1 = 0 then i else closL y (i + 1) (n - 1) := by rw [closL, if_neg (by decide), if_pos (by decide)]

/-- Texts that open brackets. -/
theorem closL_open (a : ByteArray) (ha : ∀ i, i < a.size → bt a i ≠ 40 ∧ bt a i ≠ 41) (k : Nat) (y : List UInt8) :
    closL ((rep lp (a ++ lp) k).data.toList ++ y) 0 0 = closL y (1 + k * (a.size + 1)) (1 + k) := by
  induction k generalizing y with
  | zero => rw [rep, lp_list, List.singleton_append, closL_lp]; simp
  | succ k ih =>
    rw [rep, app_list, List.append_assoc, ih, app_list, lp_list, List.append_assoc, closL_pass _ (nobr_list ha), List.singleton_append, closL_lp, size_list]
    rw [show 1 + k * (a.size + 1) + a.size + 1 = 1 + (k + 1) * (a.size + 1) from by rw [Nat.succ_mul]; omega, show (1 + (k : Int)) + 1 = 1 + ((k + 1 : Nat) : Int) from by omega]
/-- Texts that close them: the last one that counts. -/
theorem closL_shut (a : ByteArray) (ha : ∀ i, i < a.size → bt a i ≠ 40 ∧ bt a i ≠ 41) (y : List UInt8) (d : Nat) : ∀ (i : Nat),
    closL ((rep ByteArray.empty (rp ++ a) (d + 1)).data.toList ++ y) i (d + 1 : Nat) = i + d * (a.size + 1) := by
  induction d with
  | zero => intro i; rw [rep_one, app_list, rp_list, List.append_assoc, List.append_assoc, List.singleton_append, closL_rp, if_pos (by decide)]; omega
  | succ d ih =>
    intro i
    rw [rep_one, app_list, rp_list, List.append_assoc, List.append_assoc, List.singleton_append, closL_rp, if_neg (by omega), closL_pass _ (nobr_list ha), size_list,
      show ((d + 1 + 1 : Nat) : Int) - 1 = ((d + 1 : Nat) : Int) from by omega, ih, Nat.succ_mul]
    omega
/-- The text of the statement. -/
def deepText (a b : ByteArray) (d : Nat) : ByteArray := rep (rep lp (a ++ lp) d ++ b) (rp ++ a) (d + 1)
theorem deep_size (a b : ByteArray) (d : Nat) : (deepText a b d).size = 1 + d * (a.size + 1) + b.size + (d + 1) * (a.size + 1) := by
  unfold deepText
  rw [rep_size, ByteArray.size_append', rep_size, ByteArray.size_append', ByteArray.size_append']
  have h1 : lp.size = 1 := rfl
  have h2 : rp.size = 1 := rfl
  rw [h1, h2, Nat.add_comm 1 a.size]
theorem deep_closing (a b : ByteArray) (d : Nat) (ha : ∀ i, i < a.size → bt a i ≠ 40 ∧ bt a i ≠ 41) (hb : ∀ i, i < b.size → bt b i ≠ 40 ∧ bt b i ≠ 41) :
    (closing (deepText a b d ++ rp) : Int) = (deepText a b d).size - a.size - 1 := by
  have h : closing (deepText a b d ++ rp) = 1 + d * (a.size + 1) + b.size + d * (a.size + 1) := by
    unfold closing
    rw [app_list]
    unfold deepText
    rw [rep_front, app_list, List.append_assoc, List.append_assoc, closL_open a ha, closL_pass _ (nobr_list hb), size_list, show (1 + (d : Int)) = ((d + 1 : Nat) : Int) from by omega, closL_shut a ha]
  rw [h, deep_size, Nat.succ_mul]
  omega
theorem asc_lp : asc lp := by intro c hc; rw [lp_list] at hc; simp at hc; subst hc; decide
theorem asc_rp : asc rp := by intro c hc; rw [rp_list] at hc; simp at hc; subst hc; decide
theorem asc_deep {a b : ByteArray} (ha : asc a) (hb : asc b) (d : Nat) : asc (deepText a b d ++ rp) :=
  asc_app (asc_rep (asc_app (asc_rep asc_lp (asc_app ha asc_lp) d) hb) (asc_app asc_rp ha) (d + 1)) asc_rp
theorem two_closing : closing (lp ++ rp) = 1 := by decide
end Go.Proofs.Ytdjgknfmehkigaa
