/- Words for texts as lists of bytes, without any program. -/
import Derived.WalkKit
import Derived.WalkSpells
import Derived.WalkLawsBesides
import Derived.Lib.Hide
namespace Go.Proofs.YtpjadgdimkdblaaDoor
open Go.RowKit
set_option linter.unusedVariables false

theorem drop_at (s : ByteArray) (i : Nat) (h : i < s.size) : s.data.toList.drop i = s[i] :: s.data.toList.drop (i + 1) := by
  rw [List.drop_eq_getElem_cons (by simpa using h)]
  rfl
theorem drop_end (s : ByteArray) (i : Nat) (h : ¬ i < s.size) : s.data.toList.drop i = [] := by
  have : s.data.toList.length = s.size := by simp
  exact List.drop_of_length_le (by omega)
theorem ret_bool {a b : Bool} (h : a = b) : Ending.returned (.bool a) = .returned (.bool b) := by rw [h]
theorem ret_int64 {a b : Int} (h : a = b) : Ending.returned (.int .i64 a) = .returned (.int .i64 b) := by rw [h]
theorem app_list (a b : ByteArray) : (a ++ b).data.toList = a.data.toList ++ b.data.toList := by simp [ByteArray.data_append]
theorem size_list (s : ByteArray) : s.data.toList.length = s.size := by simp
theorem ext_list {a b : ByteArray} (h : a.data.toList = b.data.toList) : a = b := by
  apply ByteArray.ext
  exact Array.toList_inj.1 h
theorem cut_list (s : ByteArray) (i j : Nat) : (s.extract i j).data.toList = (s.data.toList.drop i).take (j - i) := by
  rw [ByteArray.data_extract, Array.toList_extract]
theorem one_byte (s : ByteArray) (i : Nat) (h : i < s.size) : (s.extract i (i + 1)).data.toList = [s[i]] := by
  rw [cut_list, drop_at s i h]
  simp

/-- A text of ASCII. -/
def asc (s : ByteArray) : Prop := ∀ c ∈ s.data.toList, c.toNat < 128
theorem asc_get {s : ByteArray} (h : asc s) (i : Nat) (hi : i < s.size) : (s[i]'hi).toNat < 128 := h _ (by
  have h' : i < s.data.toList.length := by simpa using hi
  exact List.getElem_mem h')
theorem asc_app {a b : ByteArray} (ha : asc a) (hb : asc b) : asc (a ++ b) := by
  intro c hc
  rw [app_list, List.mem_append] at hc
  rcases hc with h | h
  · exact ha c h
  · exact hb c h

/-- The place of the first question mark from place i on, or -1. -/
def idxQ : List UInt8 → Nat → Int
  | [], _ => -1
  | c :: l, i => if (c.toNat : Int) = 63 then i else idxQ l (i + 1)

/-- x, k times behind acc. -/
def rep (acc x : ByteArray) : Nat → ByteArray
  | 0 => acc
  | k + 1 => rep acc x k ++ x
theorem rep_size (acc x : ByteArray) (k : Nat) : (rep acc x k).size = acc.size + k * x.size := by
  induction k with
  | zero => simp [rep]
  | succ k ih => rw [rep, ByteArray.size_append', ih, Nat.succ_mul]; omega
theorem rep_front (acc x : ByteArray) (k : Nat) : (rep acc x k).data.toList = acc.data.toList ++ (rep ByteArray.empty x k).data.toList := by
  induction k with
  | zero => simp [rep]
  | succ k ih => rw [rep, app_list, ih, rep, app_list, List.append_assoc]
theorem rep_one (x : ByteArray) (k : Nat) : (rep ByteArray.empty x (k + 1)).data.toList = x.data.toList ++ (rep ByteArray.empty x k).data.toList := by
  induction k with
  | zero => simp [rep]
  | succ k ih =>
    have h : ∀ j, (rep ByteArray.empty x (j + 1)).data.toList = (rep ByteArray.empty x j).data.toList ++ x.data.toList := fun j => by rw [rep, app_list]
    rw [h (k + 1)]
    conv => lhs; rw [ih]
    rw [h k, List.append_assoc]
theorem asc_rep {acc x : ByteArray} (ha : asc acc) (hx : asc x) (k : Nat) : asc (rep acc x k) := by
  induction k with
  | zero => exact ha
  | succ k ih => exact asc_app ih hx
end Go.Proofs.YtpjadgdimkdblaaDoor
