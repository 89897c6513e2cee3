/- FnPlaceholdersSum walked: it answers true for every two numbers, and only makes new memory. -/
import Derived.Test.YtdjgknfmehkigaaWords
import Derived.Test.YtdjgknfmehkigaaShelf
namespace Go.Proofs.Ytdjgknfmehkigaa
open Go.RowKit
set_option linter.unusedVariables false

/-- Question marks with commas between. -/
def marksL (n : Nat) : List UInt8 := (Lib.repeatL [44, 63] n).drop 1
def marks (n : Nat) : ByteArray := ⟨(marksL n).toArray⟩
theorem marks_list (n : Nat) : (marks n).data.toList = marksL n := by simp [marks]
theorem repeat_add (l : List UInt8) (m n : Nat) : Lib.repeatL l (m + n) = Lib.repeatL l m ++ Lib.repeatL l n := by
  induction m with
  | zero => simp [Lib.repeatL]
  | succ m ih => rw [Nat.succ_add, Lib.repeatL, ih, Lib.repeatL, List.append_assoc]
theorem marks_add (m n : Nat) (hm : 1 ≤ m) (hn : 1 ≤ n) : marks (m + n) = marks m ++ ⟨#[44]⟩ ++ marks n := by
  apply ext_list
  rw [app_list, app_list, marks_list, marks_list, marks_list]
  unfold marksL
  obtain ⟨n, rfl⟩ : ∃ k, n = k + 1 := ⟨n - 1, by omega⟩
  obtain ⟨m, rfl⟩ : ∃ k, m = k + 1 := ⟨m - 1, by omega⟩
  rw [repeat_add]
  simp [Lib.repeatL]
theorem marks_size (n : Nat) (hn : 1 ≤ n) : (marks n).size = 2 * n - 1 := by
  rw [← size_list, marks_list]
  unfold marksL
  rw [List.length_drop, Lib.repeatL_length]
  simp
  omega
theorem marks_cut (n : Nat) (hn : 1 ≤ n) : (ByteArray.mk (Lib.repeatL [44, 63] n).toArray).extract 1 (ByteArray.mk (Lib.repeatL [44, 63] n).toArray).size = marks n := by
  apply ext_list
  rw [cut_list, marks_list]
  unfold marksL
  have : (Lib.repeatL [44, 63] n).length = n * 2 := Lib.repeatL_length _ _
  rw [List.take_of_length_le (by simp [ByteArray.size])]
theorem ret_string {a b : ByteArray} (h : a = b) : Ending.returned (.string a) = .returned (.string b) := by rw [h]

set_option maxHeartbeats 1000000 in
theorem placeholders_any (n : Nat) (w : World) (h1 : 1 ≤ n) (h2 : n ≤ 1000000) :
    Calls Try.prog 11 #[.int .i64 n] w fun e w' => e = .returned (.string (marks n)) ∧ Below w.heap.size w w' := by
  have hl : (Lib.repeatL [44, 63] n).length = n * 2 := Lib.repeatL_length _ _
  have hsz : (ByteArray.mk (Lib.repeatL [44, 63] n).toArray).size = n * 2 := by simp [ByteArray.size, hl]
  have HM := Lib.hid (marks_cut n h1)
  clear hl
  go_enter Try.func11, Try.ntmps11
  go_wp2_with (first | (go_at_call 23; refine (Try.strings_Repeat ⟨#[44, 63]⟩ n _ (by omega) (by simp [ByteArray.size]; omega)).mono ?_; rintro e w' ⟨rfl, hb⟩) | go_in)
  go_ret
  have hm := HM.out
  rw [hsz] at hm
  exact ⟨ret_string hm, hb⟩
theorem bel_next {w w1 w2 : World} (h1 : Below w.heap.size w w1) (h2 : Below w1.heap.size w1 w2) : Below w.heap.size w w2 := h1.trans (h2.mono h1.size)

set_option maxHeartbeats 2000000 in
theorem placeholdersSum_yes (m n : Nat) (w : World) (hm1 : 1 ≤ m) (hn1 : 1 ≤ n) (hm2 : m ≤ 100) (hn2 : n ≤ 100) :
    Calls Try.prog 4 #[.int .u8 m, .int .u8 n] w fun e w' => e = .returned (.bool true) ∧ Below w.heap.size w w' := by
  go_enter Try.func4, Try.ntmps4
  go_wp2_with fail
  refine (placeholders_any (m + n) _ (by omega) (by omega)).mono ?_
  rintro e w1 ⟨rfl, hb1⟩
  go_wp2_with fail
  refine (placeholders_any m _ (by omega) (by omega)).mono ?_
  rintro e w2 ⟨rfl, hb2⟩
  have hs1 := marks_size m hm1
  have hs2 := marks_size n hn1
  have hs3 := marks_size (m + n) (by omega)
  have hz1 : (marks m).size ≤ 200 := by omega
  have hz2 : (marks n).size ≤ 200 := by omega
  have HS := Lib.hid hs3
  clear hs1 hs2 hs3
  go_wp2_with fail
  refine (placeholders_any n _ (by omega) (by omega)).mono ?_
  rintro e w3 ⟨rfl, hb3⟩
  have he : ((marks (m + n)).toList == (marks m ++ ⟨#[44]⟩ ++ marks n).toList) = true := by rw [marks_add m n hm1 hn1, beq_self_eq_true]
  have hl : (((marks (m + n)).size : Int) == 2 * ((m : Int) + n) - 1) = true := by rw [HS.out, beq_iff_eq]; omega
  go_wp2
  go_ret
  exact ⟨rfl, bel_next (bel_next hb1 hb2) hb3⟩
set_option maxHeartbeats 2000000 in
theorem placeholdersSum_any (m n : Int) (w : World) (hm : (Lit.int .u8 m).wf = true) (hn : (Lit.int .u8 n).wf = true) :
    Calls Try.prog 4 #[.int .u8 m, .int .u8 n] w fun e w' => e = .returned (.bool true) ∧ Below w.heap.size w w' := by
  clear hm hn
  by_cases h1 : m < 1
  · go_enter Try.func4, Try.ntmps4
    go_wp2_with fail
    go_ret
    exact ⟨rfl, Below.refl _ _⟩
  by_cases h2 : n < 1
  · go_enter Try.func4, Try.ntmps4
    go_wp2_with fail
    go_ret
    exact ⟨rfl, Below.refl _ _⟩
  by_cases h3 : 100 < m
  · go_enter Try.func4, Try.ntmps4
    go_wp2_with fail
    go_ret
    exact ⟨rfl, Below.refl _ _⟩
  by_cases h4 : 100 < n
  · go_enter Try.func4, Try.ntmps4
    go_wp2_with fail
    go_ret
    exact ⟨rfl, Below.refl _ _⟩
  obtain ⟨a, rfl⟩ : ∃ a : Nat, m = a := ⟨m.toNat, by omega⟩
  obtain ⟨b, rfl⟩ : ∃ b : Nat, n = b := ⟨n.toNat, by omega⟩
  exact placeholdersSum_yes a b w (by omega) (by omega) (by omega) (by omega)
end Go.Proofs.Ytdjgknfmehkigaa
