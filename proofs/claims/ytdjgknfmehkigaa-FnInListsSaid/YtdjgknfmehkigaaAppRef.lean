/- appendReflectSlice walked: the elements of a list behind a row of the call's own. -/
import Derived.Test.YtdjgknfmehkigaaArgs
namespace Go.Proofs.Ytdjgknfmehkigaa
open Go.RowKit
set_option linter.unusedVariables false

set_option maxHeartbeats 1000000 in
theorem appendRef (base n m g c : Nat) (L : Int) (v : Value) (us ys : List Value) (w : World) (hown : w.ownsRow base 20 1 v n us) (hys : ys.length = m) (hc : ∀ j u, ys[j]? = some u → w.cell? ((⟨g, 0, none⟩ : Addr).add j) = some u)
    (h1 : ∀ u ∈ ys, u.oneCell' = true) (hnm : n + m ≤ 100000000) (hb : base ≤ w.heap.size) :
    Calls Try.prog 31 #[v, .slice (some ⟨g, 0, none⟩) m c, .int .i64 L] w fun e w' => Hid (∃ v', e = .returned v' ∧ w'.ownsRow base 20 1 v' (n + m) (us ++ ys) ∧ w.grownBy w' v.ownBlock) := by
  obtain ⟨i0, hi0, hz0, hz1, hz2⟩ := info_parts Try.infoIface
  have HO := Lib.hid hown
  have HC := Lib.hid hc
  have H1 := Lib.hid h1
  have HY := Lib.hid hys
  clear hown hc h1 hys
  go_enter Try.func31, Try.ntmps31
  go_wp2_with (at_builtin; refine wpList_append_own_at _ rfl _ _ 41 rfl base 20 i0 .nilIface 1 16 Try.underlying41 hi0 hz0 hz1 hz2 rfl (by decide) _ n us rfl HO.out ⟨g, 0, none⟩ m c ys rfl (by rw [HY.out, Nat.mul_one]) HC.out H1.out (by unfold maxLen; omega) (by omega) hb ?_; intro v2 w2 hown2 hg2 _ hat2; refine Hid.out ?_)
  refine Lib.hid ?_
  have HP : Hid (w2.ownsRow base 20 1 v2 (n + m) (us ++ ys) ∧ w.grownBy w2 v.ownBlock) := Lib.hid ⟨hown2, hg2⟩
  clear hown2 hg2 hat2
  go_wp2
  go_ret
  exact Lib.hid ⟨v2, rfl, HP.out⟩
end Go.Proofs.Ytdjgknfmehkigaa
