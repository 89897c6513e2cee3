/- What EqualValue and EqualValues answer of values that are no lists and agree: true. Walks; every world. -/
import Derived.Test.YtpjadgdimkdblaaDoorArgs
import Derived.Deep.RegionWith
namespace Go.Proofs.YtpjadgdimkdblaaDoor
open Go.RowKit
set_option linter.unusedVariables false

theorem equalValues_nil (A A2 : Option Addr) (c c2 : Nat) (w : World) :
    Calls Tryd.prog 26 #[.slice A 0 c, .slice A2 0 c2] w fun e w' => e = .returned (.bool true) ∧ w = w' := by
  go_enter Tryd.func26, Tryd.ntmps26
  go_wp2
  go_loop [5] (fun i => i = .int .i64 0) (fun _ => 0)
  case atStart => rfl
  case round =>
    subst hrel
    go_wp2
    go_ret
    exact ⟨rfl, rfl⟩
set_option maxHeartbeats 1000000 in
theorem equalValue_flat (k n : Int) (t : ByteArray) (A A2 : Option Addr) (c c2 : Nat) (w : World) :
    Calls Tryd.prog 20 #[.agg #[.int .i64 k, .int .i64 n, .string t, .slice A 0 c], .agg #[.int .i64 k, .int .i64 n, .string t, .slice A2 0 c2]] w fun e w' => e = .returned (.bool true) ∧ Below w.heap.size w w' := by
  have e1 : (k == k) = true := beq_self_eq_true _
  have e2 : (n == n) = true := beq_self_eq_true _
  have e3 : (t.toList == t.toList) = true := beq_self_eq_true _
  go_enter Tryd.func20, Tryd.ntmps20
  go_wp2_with (go_at_call 26; refine (equalValues_nil _ _ _ _ _).mono ?_; rintro e w' ⟨rfl, rfl⟩)
  go_ret
  exact ⟨rfl, ((Below.refl _ _).alloc (Nat.le_refl _) _).alloc (by simp) _⟩
/-- The same value, as it lies elsewhere. -/
def VRec.like (x y : VRec) : Prop := x.k = y.k ∧ x.n = y.n ∧ x.t = y.t ∧ x.m = 0 ∧ y.m = 0
set_option maxHeartbeats 2000000 in
set_option maxRecDepth 100000 in
theorem equalValues_flat (b off b2 off2 n c c2 : Nat) (xs ys : List VRec) (w : World) (hm : n ≤ 1000000) (hb : b < w.heap.size) (hb2 : b2 < w.heap.size)
    (hx : ∀ i, i < n → (xs.getD i z0).lies w b (off + i * 4)) (hy : ∀ i, i < n → (ys.getD i z0).lies w b2 (off2 + i * 4)) (hl : ∀ i, i < n → (xs.getD i z0).like (ys.getD i z0)) :
    Calls Tryd.prog 26 #[.slice (some ⟨b, off, none⟩) n c, .slice (some ⟨b2, off2, none⟩) n c2] w fun e w' => e = .returned (.bool true) ∧ Below w.heap.size w w' := by
  have HX := Lib.hid hx
  have HY := Lib.hid hy
  have HL := Lib.hid hl
  clear hx hy hl
  have hnn : ((n : Int) != n) = false := by simp
  go_enter Tryd.func26, Tryd.ntmps26
  go_wp2
  go_loopw [5] (fun i wr => ∃ k : Nat, k ≤ n ∧ i = .int .i64 k ∧ Below w.heap.size w wr) (fun i _ => n - (intOf i).toNat)
  case atStart => exact ⟨0, Nat.zero_le _, rfl, Below.refl _ _⟩
  case round =>
    obtain ⟨k, hk, rfl, hbel⟩ := hrel
    have HB := Lib.hid hbel
    have h0 : (0 : Int) ≤ k := by omega
    by_cases hlt : k < n
    · have hkn : (k : Int) < n := by omega
      obtain ⟨p0, p1, p2, p3⟩ := lies_below (HX.out k hlt) hbel hb
      obtain ⟨q0, q1, q2, q3⟩ := lies_below (HY.out k hlt) hbel hb2
      obtain ⟨l1, l2, l3, l4, l5⟩ := HL.out k hlt
      rw [← l1] at q0
      rw [← l2] at q1
      rw [← l3] at q2
      rw [l4] at p3
      rw [l5] at q3
      clear l1 l2 l3 l4 l5 hbel
      go_wp2_with fail
      go_region_with (go_at_call 20; refine (equalValue_flat _ _ _ _ _ _ _ _).mono ?_; rintro e w1 ⟨rfl, hb1⟩)
      all_goals
        have HB2 := Lib.hid (HB.out.drew.trans (hb1.mono HB.out.size))
        clear hb1
        go_wp2
        go_roundw
        case rel => exact ⟨k + 1, by omega, by go_num, HB2.out⟩
        case measure => simp [intOf]; omega
    · go_wp2
      go_ret
      exact ⟨rfl, HB.out⟩
end Go.Proofs.YtpjadgdimkdblaaDoor
