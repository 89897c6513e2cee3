/- flat, ArgumentRight and single9 walked, of whatever values. -/
import Derived.Test.YtpjadgdimkdblaaDoorArgs
namespace Go.Proofs.YtpjadgdimkdblaaDoor
open Go.RowKit
set_option linter.unusedVariables false

/-- As a value that is no list should be. -/
def VRec.right (x : VRec) : Prop := (0 ≤ x.k ∧ x.k ≤ 4) ∧ x.m = 0 ∧ (x.n = 0 ∨ x.k = 1) ∧ (x.t = ByteArray.empty ∨ x.k = 2) ∧ x.t.size ≤ 200
theorem size_zero {t : ByteArray} (h : t.size = 0) : t = ByteArray.empty := by
  obtain ⟨⟨l⟩⟩ := t
  have : l = [] := List.eq_nil_of_length_eq_zero h
  subst this
  rfl
theorem single_len (bs : ByteArray) : ∀ n i r, bs.size - i = n → (ByteArray.toList.loop bs i r).length = r.length + n := by
  intro n
  induction n with
  | zero =>
    intro i r h
    unfold ByteArray.toList.loop
    rw [if_neg (by omega)]
    simp
  | succ n ih =>
    intro i r h
    unfold ByteArray.toList.loop
    rw [if_pos (by omega), ih _ _ (by omega)]
    simp only [List.length_cons]
    omega
theorem toList_nil {t : ByteArray} (h : t.toList = []) : t = ByteArray.empty := by
  have h2 : t.toList.length = 0 := by rw [h]; rfl
  unfold ByteArray.toList at h2
  rw [single_len t t.size 0 [] (by omega)] at h2
  exact size_zero (by simpa using h2)
def FlatSo (x : VRec) (w : World) (e : Ending) (w' : World) : Prop := ∃ r : Bool, e = .returned (.bool r) ∧ (r = true → x.right) ∧ Below w.heap.size w w'
set_option maxHeartbeats 2000000 in
theorem flat_any (x : VRec) (w : World) :
    Calls Tryd.prog 36 #[x.agg] w (FlatSo x w) := by
  unfold VRec.agg
  go_enter Tryd.func36, Tryd.ntmps36
  go_wp2_with fail
  all_goals
    go_ret
    refine ⟨_, rfl, fun h => ?_, (Below.refl _ _).alloc (Nat.le_refl _) _⟩
    first
    | (exfalso; simp at h; done)
    | (have h200 : x.t.size ≤ 200 := by have := of_decide_eq_true h; omega
       refine ⟨⟨by assumption, by assumption⟩, by assumption, ?_, ?_, h200⟩
       · first | exact .inl (by assumption) | exact .inr (by assumption)
       · first | exact .inl (toList_nil (by assumption)) | exact .inr (by assumption))
theorem argumentRight_flat (x : VRec) (w : World) (h5 : (x.k != 5) = true) :
    Calls Tryd.prog 18 #[x.agg] w (FlatSo x w) := by
  unfold VRec.agg
  go_enter Tryd.func18, Tryd.ntmps18
  go_wp2_with fail
  refine (flat_any x _).mono ?_
  rintro e w' ⟨r, rfl, hr, hb⟩
  have HR := Lib.hid hr
  have HB := Lib.hid (((Below.refl w.heap.size w).alloc (Nat.le_refl _) _).trans (hb.mono (by simp)))
  clear hr hb
  go_wp2
  go_ret
  exact ⟨r, rfl, HR.out, HB.out⟩
def SingleSo (xs : List VRec) (w : World) (e : Ending) (w' : World) : Prop := ∃ r : Bool, e = .returned (.bool r) ∧ (r = true → xs.length ≤ 30 ∧ ∀ i, i < xs.length → (xs.getD i z0).right) ∧ Below w.heap.size w w'
def SingleIn (xs : List VRec) (w : World) (k : Nat) (wr : World) : Prop := Below w.heap.size w wr ∧ ∀ i, i < k → (xs.getD i z0).right
set_option maxHeartbeats 1000000 in
theorem single_any (A : Option Addr) (n c : Nat) (xs : List VRec) (w : World) (hn : xs.length = n) (hm : n ≤ 9223372036854775807) (hx : ListAt w A xs) :
    Calls Tryd.prog 28 #[.slice A n c] w (SingleSo xs w) := by
  have HX := Lib.hid hx
  have HN := Lib.hid hn
  clear hx hn
  go_enter Tryd.func28, Tryd.ntmps28
  go_wp2_with fail
  go_loopw [6] (fun i wr => ∃ k : Nat, k ≤ n ∧ i = .int .i64 k ∧ Hid (SingleIn xs w k wr)) (fun i _ => n - (intOf i).toNat)
  case atStart => exact ⟨0, Nat.zero_le _, rfl, Lib.hid ⟨Below.refl _ _, fun i h => by omega⟩⟩
  case round =>
    obtain ⟨k, hk, rfl, HS⟩ := hrel
    have h0 : (0 : Int) ≤ k := by omega
    by_cases hlt : k < n
    · have hkn : (k : Int) < n := by omega
      have hne : xs ≠ [] := fun e => by have := HN.out; rw [e] at this; simp at this; omega
      obtain ⟨b, off, rfl, hb, hl⟩ := HX.out.resolve_left hne
      have hl := lies_below (hl k (by rw [HN.out]; exact hlt)) HS.out.1 hb
      generalize hxx : xs.getD k z0 = x at hl
      have HXX := Lib.hid hxx
      obtain ⟨c0, c1, c2, c3⟩ := hl
      clear hb hxx hne
      have e1 : off + (k * 4 + 1) = off + k * 4 + 1 := by omega
      have e2 : off + (k * 4 + 2) = off + k * 4 + 2 := by omega
      have e3 : off + (k * 4 + 3) = off + k * 4 + 3 := by omega
      go_wp2_with fail
      · go_ret
        exact ⟨false, rfl, (fun h => by cases h), HS.out.1⟩
      · refine (argumentRight_flat x _ (by simpa using ‹¬x.k = 5›)).mono ?_
        rintro e w1 ⟨r, rfl, hr, hb1⟩
        have HR := Lib.hid hr
        have HB1 := Lib.hid (HS.out.1.trans (hb1.mono HS.out.1.size))
        clear hr hb1 c0 c1 c2 c3
        cases r with
        | false =>
          go_wp2
          go_ret
          exact ⟨false, rfl, (fun h => by cases h), HB1.out⟩
        | true =>
          go_wp2_with fail
          go_roundw
          case rel =>
            refine ⟨k + 1, by omega, by go_num, Lib.hid ⟨HB1.out, fun i hi => ?_⟩⟩
            by_cases e : i = k
            · subst e; rw [HXX.out]; exact HR.out (by trivial)
            · exact HS.out.2 i (by omega)
          case measure => simp [intOf]; omega
    · obtain rfl : k = n := by omega
      go_wp2
      go_ret
      exact ⟨_, rfl, fun h => ⟨by rw [HN.out]; have := of_decide_eq_true h; omega, fun i hi => HS.out.2 i (by rw [HN.out] at hi; exact hi)⟩, HS.out.1⟩
end Go.Proofs.YtpjadgdimkdblaaDoor
