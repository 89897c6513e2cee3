/- zzText walked, of values that are no lists: how they are written for people. -/
import Derived.Test.YtdjgknfmehkigaaDoorTab
import Derived.Test.YtdjgknfmehkigaaDoorTa
import Derived.Test.YtdjgknfmehkigaaDoorCells
import Derived.Test.YtdjgknfmehkigaaDoorShelf
import Derived.Sort.Grow
namespace Go.Proofs.YtdjgknfmehkigaaDoor
open Go.RowKit
set_option linter.unusedVariables false

/-- How a value that is no list is written for people. -/
def shownB (x : VRec) : ByteArray := if x.k = 0 then ⟨#[60, 110, 105, 108, 62]⟩ else if x.k = 1 then ⟨(Lib.itoa x.n).toArray⟩ else if x.k = 2 then x.t else if x.k = 3 then ⟨#[116, 114, 117, 101]⟩ else ⟨#[102, 97, 108, 115, 101]⟩
theorem below_grow (w : World) (n : Nat) (os : Array Obj) : Below w.heap.size w (Sort.grow (w.drewN n) os) := by
  refine ⟨rfl, rfl, rfl, ?_, fun k hk => ?_⟩
  · show w.heap.size ≤ (w.heap ++ os).size
    simp
  · exact Sort.heap_grow_old (w.drewN n) os hk
set_option maxHeartbeats 2000000 in
theorem text_any (x : VRec) (w : World) (h0 : 0 ≤ x.k) (h4 : x.k ≤ 4) (hn : x.k = 1 → -9223372036854775808 ≤ x.n ∧ x.n ≤ 9223372036854775807) (ht : x.k = 1 → Pow10 w) :
    Calls Tryd.prog 41 #[x.fl] w fun e w' => e = .returned (.string (shownB x)) ∧ Below w.heap.size w w' := by
  obtain ⟨k, n, t, A, m, c⟩ := x
  simp only at h0 h4 hn ht
  have h : k = 0 ∨ k = 1 ∨ k = 2 ∨ k = 3 ∨ k = 4 := by omega
  have t1 := ta_is
  have t2 := ta_ii
  have t3 := ta_ss
  have t4 := ta_bs
  have t5 := ta_bi
  have t6 := ta_bb
  rcases h with rfl | rfl | rfl | rfl | rfl
  case inr.inl =>
    have HT := Lib.hid (ht rfl)
    obtain ⟨hn1, hn2⟩ := hn rfl
    unfold VRec.fl ifaceOf
    simp only []
    go_enter Tryd.func41, Tryd.ntmps41
    go_wp2_with fail
    refine (Tryd.strconv_FormatInt_10 n hn1 hn2 w HT.out).mono ?_
    rintro e w' ⟨rfl, k, os, rfl⟩
    have HB := Lib.hid (below_grow w k os)
    generalize Sort.grow (w.drewN k) os = w2 at HB ⊢
    go_wp2_with fail
    go_ret
    exact ⟨rfl, HB.out⟩
  all_goals
    clear hn ht
    unfold VRec.fl ifaceOf
    simp only []
    go_enter Tryd.func41, Tryd.ntmps41
    go_wp2_with fail
    go_ret
    exact ⟨rfl, Below.refl _ _⟩
end Go.Proofs.YtdjgknfmehkigaaDoor
