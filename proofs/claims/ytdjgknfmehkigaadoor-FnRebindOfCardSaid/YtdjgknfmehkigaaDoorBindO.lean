/- BindOf of the published drivers, and what Rebound makes of texts with question marks between for each of them. Walks. -/
import Derived.Test.YtdjgknfmehkigaaDoorRbS
import Derived.Test.YtdjgknfmehkigaaDoorBetO
namespace Go.Proofs.YtdjgknfmehkigaaDoor
open Go.RowKit
set_option linter.unusedVariables false

def drvs : List ByteArray := [⟨#[112, 111, 115, 116, 103, 114, 101, 115]⟩, ⟨#[112, 103, 120]⟩, ⟨#[99, 111, 99, 107, 114, 111, 97, 99, 104]⟩, ⟨#[109, 121, 115, 113, 108]⟩, ⟨#[115, 113, 108, 105, 116, 101, 51]⟩, ⟨#[115, 113, 108, 115, 101, 114, 118, 101, 114]⟩, ⟨#[111, 99, 105, 56]⟩, ⟨#[103, 111, 100, 114, 111, 114]⟩, ⟨#[110, 111, 98, 111, 100, 121]⟩]
def sgns : List ByteArray := [⟨#[36]⟩, ⟨#[36]⟩, ⟨#[36]⟩, ⟨#[]⟩, ⟨#[]⟩, ⟨#[64, 112]⟩, ⟨#[58, 97, 114, 103]⟩, ⟨#[58, 97, 114, 103]⟩, ⟨#[]⟩]
def knds : List Int := [2, 2, 2, 1, 1, 4, 3, 3, 0]
def drvN (m : Nat) : ByteArray := drvs.getD m ByteArray.empty
def sgnN (m : Nat) : ByteArray := sgns.getD m ByteArray.empty
def kndN (m : Nat) : Int := knds.getD m 0
theorem nine {m : Nat} (h : m < 9) : m = 0 ∨ m = 1 ∨ m = 2 ∨ m = 3 ∨ m = 4 ∨ m = 5 ∨ m = 6 ∨ m = 7 ∨ m = 8 := by omega
set_option maxHeartbeats 1000000 in
theorem bindT_0 (w : World) : Calls Tryd.prog 28 #[.string ⟨#[112, 111, 115, 116, 103, 114, 101, 115]⟩] w fun e w' => e = .returned (.int .i64 2) ∧ w = w' := by
  go_enter Tryd.func28, Tryd.ntmps28
  go_wp2_with fail
  go_ret
  exact ⟨rfl, rfl⟩
set_option maxHeartbeats 1000000 in
theorem bindT_1 (w : World) : Calls Tryd.prog 28 #[.string ⟨#[112, 103, 120]⟩] w fun e w' => e = .returned (.int .i64 2) ∧ w = w' := by
  go_enter Tryd.func28, Tryd.ntmps28
  go_wp2_with fail
  go_ret
  exact ⟨rfl, rfl⟩
set_option maxHeartbeats 1000000 in
theorem bindT_2 (w : World) : Calls Tryd.prog 28 #[.string ⟨#[99, 111, 99, 107, 114, 111, 97, 99, 104]⟩] w fun e w' => e = .returned (.int .i64 2) ∧ w = w' := by
  go_enter Tryd.func28, Tryd.ntmps28
  go_wp2_with fail
  go_ret
  exact ⟨rfl, rfl⟩
set_option maxHeartbeats 1000000 in
theorem bindT_3 (w : World) : Calls Tryd.prog 28 #[.string ⟨#[109, 121, 115, 113, 108]⟩] w fun e w' => e = .returned (.int .i64 1) ∧ w = w' := by
  go_enter Tryd.func28, Tryd.ntmps28
  go_wp2_with fail
  go_ret
  exact ⟨rfl, rfl⟩
set_option maxHeartbeats 1000000 in
theorem bindT_4 (w : World) : Calls Tryd.prog 28 #[.string ⟨#[115, 113, 108, 105, 116, 101, 51]⟩] w fun e w' => e = .returned (.int .i64 1) ∧ w = w' := by
  go_enter Tryd.func28, Tryd.ntmps28
  go_wp2_with fail
  go_ret
  exact ⟨rfl, rfl⟩
set_option maxHeartbeats 1000000 in
theorem bindT_5 (w : World) : Calls Tryd.prog 28 #[.string ⟨#[115, 113, 108, 115, 101, 114, 118, 101, 114]⟩] w fun e w' => e = .returned (.int .i64 4) ∧ w = w' := by
  go_enter Tryd.func28, Tryd.ntmps28
  go_wp2_with fail
  go_ret
  exact ⟨rfl, rfl⟩
set_option maxHeartbeats 1000000 in
theorem bindT_6 (w : World) : Calls Tryd.prog 28 #[.string ⟨#[111, 99, 105, 56]⟩] w fun e w' => e = .returned (.int .i64 3) ∧ w = w' := by
  go_enter Tryd.func28, Tryd.ntmps28
  go_wp2_with fail
  go_ret
  exact ⟨rfl, rfl⟩
set_option maxHeartbeats 1000000 in
theorem bindT_7 (w : World) : Calls Tryd.prog 28 #[.string ⟨#[103, 111, 100, 114, 111, 114]⟩] w fun e w' => e = .returned (.int .i64 3) ∧ w = w' := by
  go_enter Tryd.func28, Tryd.ntmps28
  go_wp2_with fail
  go_ret
  exact ⟨rfl, rfl⟩
set_option maxHeartbeats 1000000 in
theorem bindT_8 (w : World) : Calls Tryd.prog 28 #[.string ⟨#[110, 111, 98, 111, 100, 121]⟩] w fun e w' => e = .returned (.int .i64 0) ∧ w = w' := by
  go_enter Tryd.func28, Tryd.ntmps28
  go_wp2_with fail
  go_ret
  exact ⟨rfl, rfl⟩
theorem bindT_any (m : Nat) (hm : m < 9) (w : World) : Calls Tryd.prog 28 #[.string (drvN m)] w fun e w' => e = .returned (.int .i64 (kndN m)) ∧ w = w' := by
  rcases nine hm with rfl | rfl | rfl | rfl | rfl | rfl | rfl | rfl | rfl
  · exact bindT_0 w
  · exact bindT_1 w
  · exact bindT_2 w
  · exact bindT_3 w
  · exact bindT_4 w
  · exact bindT_5 w
  · exact bindT_6 w
  · exact bindT_7 w
  · exact bindT_8 w
theorem bindOf_any (m : Nat) (hm : m < 9) (w : World) : Calls Tryd.prog 17 #[.string (drvN m)] w fun e w' => e = .returned (.int .i64 (kndN m)) ∧ w = w' := by
  go_enter Tryd.func17, Tryd.ntmps17
  go_wp2_with fail
  refine (bindT_any m hm w).mono ?_
  rintro e w' ⟨rfl, rfl⟩
  go_wp2
  go_ret
  exact ⟨rfl, rfl⟩
theorem reb_stay (k : Int) (q : ByteArray) (w : World) (hk : k = 0 ∨ k = 1) : Calls Tryd.prog 27 #[.int .i64 k, .string q] w fun e w' => e = .returned (.string q) ∧ w = w' := by
  rcases hk with rfl | rfl
  all_goals
    go_enter Tryd.func27, Tryd.ntmps27
    go_wp2_with fail
    go_ret
    exact ⟨rfl, rfl⟩
theorem rebound_stay (k : Int) (q : ByteArray) (w : World) (hk : k = 0 ∨ k = 1) : Calls Tryd.prog 12 #[.int .i64 k, .string q] w fun e w' => e = .returned (.string q) ∧ Below w.heap.size w w' := by
  go_enter Tryd.func12, Tryd.ntmps12
  go_wp2_with fail
  refine (reb_stay k q w hk).mono ?_
  rintro e w' ⟨rfl, rfl⟩
  go_wp2
  go_ret
  exact ⟨rfl, Below.refl _ _⟩
theorem of_none {sg : ByteArray} (h : sg.size = 0) : of sg = qf := by
  funext i
  unfold of
  rw [if_pos h]
theorem of_some {sg : ByteArray} (h : sg.size ≠ 0) : of sg = sf sg := by
  funext i
  unfold of
  rw [if_neg h]
theorem rebound_of (m : Nat) (hm : m < 9) (ss : List ByteArray) (n : Nat) (w : World) (hn : n ≤ 20) (hb : ∀ i, i < n → bare1 (ss.getD i ByteArray.empty)) :
    Calls Tryd.prog 12 #[.int .i64 (kndN m), .string (betS qf ss n)] w fun e w' => e = .returned (.string (betS (of (sgnN m)) ss n)) ∧ Below w.heap.size w w' := by
  rcases nine hm with rfl | rfl | rfl | rfl | rfl | rfl | rfl | rfl | rfl
  · rw [of_some (by decide)]; exact rebound_bet ss n 2 _ w (.inl ⟨rfl, rfl⟩) hn hb
  · rw [of_some (by decide)]; exact rebound_bet ss n 2 _ w (.inl ⟨rfl, rfl⟩) hn hb
  · rw [of_some (by decide)]; exact rebound_bet ss n 2 _ w (.inl ⟨rfl, rfl⟩) hn hb
  · rw [of_none (by decide)]; exact rebound_stay 1 _ w (.inr rfl)
  · rw [of_none (by decide)]; exact rebound_stay 1 _ w (.inr rfl)
  · rw [of_some (by decide)]; exact rebound_bet ss n 4 _ w (.inr (.inr ⟨rfl, rfl⟩)) hn hb
  · rw [of_some (by decide)]; exact rebound_bet ss n 3 _ w (.inr (.inl ⟨rfl, rfl⟩)) hn hb
  · rw [of_some (by decide)]; exact rebound_bet ss n 3 _ w (.inr (.inl ⟨rfl, rfl⟩)) hn hb
  · rw [of_none (by decide)]; exact rebound_stay 0 _ w (.inl rfl)
theorem sgn_size (m : Nat) (hm : m < 9) : (sgnN m).size ≤ 10 := by
  rcases nine hm with rfl | rfl | rfl | rfl | rfl | rfl | rfl | rfl | rfl <;> decide
theorem drv_lst (m : Nat) (hm : m < 9) (h : m < ([.string ⟨#[112, 111, 115, 116, 103, 114, 101, 115]⟩, .string ⟨#[112, 103, 120]⟩, .string ⟨#[99, 111, 99, 107, 114, 111, 97, 99, 104]⟩, .string ⟨#[109, 121, 115, 113, 108]⟩, .string ⟨#[115, 113, 108, 105, 116, 101, 51]⟩, .string ⟨#[115, 113, 108, 115, 101, 114, 118, 101, 114]⟩, .string ⟨#[111, 99, 105, 56]⟩, .string ⟨#[103, 111, 100, 114, 111, 114]⟩, .string ⟨#[110, 111, 98, 111, 100, 121]⟩] : List Value).length) : ([.string ⟨#[112, 111, 115, 116, 103, 114, 101, 115]⟩, .string ⟨#[112, 103, 120]⟩, .string ⟨#[99, 111, 99, 107, 114, 111, 97, 99, 104]⟩, .string ⟨#[109, 121, 115, 113, 108]⟩, .string ⟨#[115, 113, 108, 105, 116, 101, 51]⟩, .string ⟨#[115, 113, 108, 115, 101, 114, 118, 101, 114]⟩, .string ⟨#[111, 99, 105, 56]⟩, .string ⟨#[103, 111, 100, 114, 111, 114]⟩, .string ⟨#[110, 111, 98, 111, 100, 121]⟩] : List Value)[m]'h = .string (drvN m) := by
  rcases nine hm with rfl | rfl | rfl | rfl | rfl | rfl | rfl | rfl | rfl <;> rfl
theorem of_boxes (w : World) (D : Obj) (m : Nat) (hm : m < 9) (T T2 T3 : TypeId) : Boxes ((((w.alloc D).alloc (.cells #[.string ⟨#[36]⟩, .string ⟨#[36]⟩, .string ⟨#[36]⟩, .string ⟨#[]⟩, .string ⟨#[]⟩, .string ⟨#[64, 112]⟩, .string ⟨#[58, 97, 114, 103]⟩, .string ⟨#[58, 97, 114, 103]⟩, .string ⟨#[]⟩] T)).alloc (.cells #[.slice (some ⟨w.heap.size + 1, 0, none⟩) 9 9] T2)).alloc (.cells #[.int .i64 m] T3)) (w.heap.size + 1 + 1) (w.heap.size + 1 + 1 + 1) (w.heap.size + 1) m (sgnN m) := by
  have h1 := heap_alloc_new (w.alloc D) (.cells #[.string ⟨#[36]⟩, .string ⟨#[36]⟩, .string ⟨#[36]⟩, .string ⟨#[]⟩, .string ⟨#[]⟩, .string ⟨#[64, 112]⟩, .string ⟨#[58, 97, 114, 103]⟩, .string ⟨#[58, 97, 114, 103]⟩, .string ⟨#[]⟩] T)
  have h2 := heap_alloc_new ((w.alloc D).alloc (.cells #[.string ⟨#[36]⟩, .string ⟨#[36]⟩, .string ⟨#[36]⟩, .string ⟨#[]⟩, .string ⟨#[]⟩, .string ⟨#[64, 112]⟩, .string ⟨#[58, 97, 114, 103]⟩, .string ⟨#[58, 97, 114, 103]⟩, .string ⟨#[]⟩] T)) (.cells #[.slice (some ⟨w.heap.size + 1, 0, none⟩) 9 9] T2)
  have h3 := heap_alloc_new (((w.alloc D).alloc (.cells #[.string ⟨#[36]⟩, .string ⟨#[36]⟩, .string ⟨#[36]⟩, .string ⟨#[]⟩, .string ⟨#[]⟩, .string ⟨#[64, 112]⟩, .string ⟨#[58, 97, 114, 103]⟩, .string ⟨#[58, 97, 114, 103]⟩, .string ⟨#[]⟩] T)).alloc (.cells #[.slice (some ⟨w.heap.size + 1, 0, none⟩) 9 9] T2)) (.cells #[.int .i64 m] T3)
  simp only [World.size_alloc] at h1 h2 h3
  have b : ∀ (w : World) (X : Obj), Below w.heap.size w (w.alloc X) := fun w X => (Below.refl _ w).alloc (Nat.le_refl _) X
  refine ⟨?_, ?_, ?_⟩
  · rw [(b _ _).cell (p := ⟨w.heap.size + 1 + 1, 0, none⟩) (by simp)]
    exact (cell_of_row _ _ _ _ _ _ h2).trans rfl
  · exact (cell_of_row _ _ _ _ _ _ h3).trans rfl
  · rw [(b _ _).cell (p := ⟨w.heap.size + 1, m, none⟩) (by simp), (b _ _).cell (p := ⟨w.heap.size + 1, m, none⟩) (by simp)]
    refine (cell_of_row _ _ _ _ _ _ h1).trans ?_
    rcases nine hm with rfl | rfl | rfl | rfl | rfl | rfl | rfl | rfl | rfl <;> rfl
end Go.Proofs.YtdjgknfmehkigaaDoor
