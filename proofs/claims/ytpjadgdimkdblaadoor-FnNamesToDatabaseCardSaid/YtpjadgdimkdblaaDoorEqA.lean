/- EqualValue of what came back of an argument, lists among it, and the argument: true. Every world. -/
import Derived.Test.YtpjadgdimkdblaaDoorVals
import Derived.Test.YtpjadgdimkdblaaDoorRight
import Derived.Test.YtpjadgdimkdblaaDoorLists
namespace Go.Proofs.YtpjadgdimkdblaaDoor
open Go.RowKit
set_option linter.unusedVariables false

set_option maxHeartbeats 2000000 in
theorem equalValue_list (B : Nat) (A1 A2 : Option Addr) (m1 m2 c1 c2 : Nat) (ys : List VRec) (w : World) (hm : m2 = ys.length) (hm2 : ys.length ≤ 1000000) (ho : w.ownsRow B 34 4 (.slice A1 m1 c1) ys.length (backs ys)) (hx : ListAt w A2 ys) (hr : ∀ i, i < ys.length → (ys.getD i z0).right) :
    Calls Tryd.prog 20 #[.agg #[.int .i64 5, .int .i64 0, .string ByteArray.empty, .slice A1 m1 c1], .agg #[.int .i64 5, .int .i64 0, .string ByteArray.empty, .slice A2 m2 c2]] w fun e w' => e = .returned (.bool true) ∧ Below w.heap.size w w' := by
  have e3 : (ByteArray.empty.toList == ByteArray.empty.toList) = true := beq_self_eq_true _
  have HO := Lib.hid ho
  have HX := Lib.hid hx
  have HR := Lib.hid hr
  clear ho hx hr
  subst hm
  go_enter Tryd.func20, Tryd.ntmps20
  go_wp2_with (go_at_call 26; refine (equal_backs B _ A2 ys.length c2 ys _ rfl hm2 ((HO.out.alloc _).alloc _) (listAt_below HX.out (((Below.refl _ _).alloc (Nat.le_refl _) _).alloc (by simp) _)) HR.out).mono ?_; rintro e w' ⟨rfl, hb⟩)
  have HB := Lib.hid hb
  clear hb
  go_wp2_with fail
  go_ret
  exact ⟨rfl, (((Below.refl w.heap.size w).alloc (Nat.le_refl _) _).alloc (by simp) _).trans (HB.out.mono (by simp; omega))⟩
theorem equal_arec (B : Nat) (g : ARec) (r : VRec) (w : World) (hb : backOf B g r w) (hr : g.right) (hl : g.lain w) :
    Calls Tryd.prog 20 #[r.agg, g.x.agg] w fun e w' => e = .returned (.bool true) ∧ Below w.heap.size w w' := by
  obtain ⟨⟨k, n, t, A, m, c⟩, ys⟩ := g
  obtain ⟨rk, rn, rt, rA, rm, rc⟩ := r
  unfold backOf at hb
  by_cases h5 : k = 5
  · simp only [h5, if_true] at hb
    obtain ⟨h1, h2, h3, ho⟩ := hb
    subst h1 h2 h3 h5
    rcases hr with h | ⟨_, hn, ht, h20, hy⟩
    · have := h.1.2
      simp at this
    · simp only at hn ht
      subst hn ht
      exact equalValue_list B rA A rm m rc c ys w hl.1 (by simp only at h20; omega) ho hl.2.2 hy
  · simp only [h5, if_false] at hb
    rcases hr with h | h
    · have hlk := back_like h
      rw [← hb] at hlk
      obtain ⟨q1, q2, q3, q4, q5⟩ := hlk
      simp only at q1 q2 q3 q4 q5
      subst q1 q2 q3 q4 q5
      exact equalValue_flat _ _ _ _ _ _ _ _
    · exact absurd h.1 h5
end Go.Proofs.YtpjadgdimkdblaaDoor
