/- ArgumentRight and ArgsRight walked, of whatever values and arguments. Every world. -/
import Derived.Test.YtpjadgdimkdblaaDoorMap
import Derived.Test.YtpjadgdimkdblaaDoorSingle
import Derived.BigQuiet
namespace Go.Proofs.YtpjadgdimkdblaaDoor
open Go.RowKit
set_option linter.unusedVariables false

/-- As an argument should be: a value that is no list, or a list of such. -/
def ARec.right (a : ARec) : Prop := a.x.right ∨ (a.x.k = 5 ∧ a.x.n = 0 ∧ a.x.t = ByteArray.empty ∧ a.ys.length ≤ 20 ∧ ∀ i, i < a.ys.length → (a.ys.getD i z0).right)
/-- Its list lies where it says. -/
def ARec.lain (w : World) (a : ARec) : Prop := a.x.m = a.ys.length ∧ a.ys.length ≤ maxLen ∧ ListAt w a.x.A a.ys
theorem lain_below {w w' : World} {a : ARec} (h : a.lain w) (hb : Below w.heap.size w w') : a.lain w' := ⟨h.1, h.2.1, listAt_below h.2.2 hb⟩
def RightSo (a : ARec) (w : World) (e : Ending) (w' : World) : Prop := ∃ r : Bool, e = .returned (.bool r) ∧ (r = true → a.right) ∧ Below w.heap.size w w'
theorem agg_eta (x : VRec) : x.agg = .agg #[.int .i64 x.k, .int .i64 x.n, .string x.t, .slice x.A x.m x.c] := rfl
set_option maxHeartbeats 2000000 in
set_option maxRecDepth 100000 in
theorem right_list (n : Int) (t : ByteArray) (A : Option Addr) (m c : Nat) (ys : List VRec) (w : World) (hn : ys.length = m) (hm : m ≤ maxLen) (hx : ListAt w A ys) :
    Calls Tryd.prog 18 #[.agg #[.int .i64 5, .int .i64 n, .string t, .slice A m c]] w (RightSo ⟨⟨5, n, t, A, m, c⟩, ys⟩ w) := by
  have HX := Lib.hid hx
  have HN := Lib.hid hn
  clear hx hn
  unfold maxLen at hm
  go_enter Tryd.func18, Tryd.ntmps18
  go_wp2_with fail
  · go_ret
    exact ⟨false, rfl, (fun h => by cases h), (Below.refl _ _).alloc (Nat.le_refl _) _⟩
  rotate_left
  · go_ret
    exact ⟨false, rfl, (fun h => by cases h), (Below.refl _ _).alloc (Nat.le_refl _) _⟩
  · go_ret
    exact ⟨false, rfl, (fun h => by cases h), (Below.refl _ _).alloc (Nat.le_refl _) _⟩
  go_loopw [3] (fun i wr => ∃ k : Nat, k ≤ m ∧ i = .int .i64 k ∧ Hid (Below w.heap.size w wr ∧ wr.cell? ⟨w.heap.size, 3, none⟩ = some (.slice A m c) ∧ w.heap.size < wr.heap.size ∧ ∀ i, i < k → (ys.getD i z0).right)) (fun i _ => m - (intOf i).toNat)
  case atStart => exact ⟨0, Nat.zero_le _, rfl, Lib.hid ⟨(Below.refl _ _).alloc (Nat.le_refl _) _, by simp [go_sem], by simp, fun i h => by omega⟩⟩
  case round =>
    obtain ⟨k, hk, rfl, HS⟩ := hrel
    have h0 : (0 : Int) ≤ k := by omega
    have hbx := HS.out.2.1
    by_cases hlt : k < m
    · have hkn : (k : Int) < m := by omega
      have hne : ys ≠ [] := fun e => by have := HN.out; rw [e] at this; simp at this; omega
      obtain ⟨b, off, rfl, hb, hl⟩ := HX.out.resolve_left hne
      have hl := lies_below (hl k (by rw [HN.out]; exact hlt)) HS.out.1 hb
      generalize hxx : ys.getD k z0 = x at hl
      have HXX := Lib.hid hxx
      obtain ⟨c0, c1, c2, c3⟩ := hl
      clear hb hxx hne
      have e1 : off + (k * 4 + 1) = off + k * 4 + 1 := by omega
      have e2 : off + (k * 4 + 2) = off + k * 4 + 2 := by omega
      have e3 : off + (k * 4 + 3) = off + k * 4 + 3 := by omega
      go_wp2_with fail
      · go_ret
        exact ⟨false, rfl, (fun h => by cases h), HS.out.1⟩
      · refine (flat_any x _).mono ?_
        rintro e w1 ⟨r, rfl, hr, hb1⟩
        have HR := Lib.hid hr
        have HB1 := Lib.hid (HS.out.1.trans (hb1.mono HS.out.1.size))
        have HC1 := Lib.hid ((hb1.cell (p := ⟨w.heap.size, 3, none⟩) HS.out.2.2.1).trans HS.out.2.1)
        have HS1 := Lib.hid (Nat.lt_of_lt_of_le HS.out.2.2.1 hb1.size)
        clear hr hb1 c0 c1 c2 c3 hbx
        cases r with
        | false =>
          go_wp2
          go_ret
          exact ⟨false, rfl, (fun h => by cases h), HB1.out⟩
        | true =>
          go_wp2_with fail
          go_roundw
          case rel =>
            refine ⟨k + 1, by omega, by go_num, Lib.hid ⟨HB1.out, HC1.out, HS1.out, fun i hi => ?_⟩⟩
            by_cases e : i = k
            · subst e; rw [HXX.out]; exact HR.out (by trivial)
            · exact HS.out.2.2.2 i (by omega)
          case measure => simp [intOf]; omega
    · obtain rfl : k = m := by omega
      go_wp2
      go_ret
      refine ⟨true, rfl, fun _ => .inr ⟨rfl, ?_, toList_nil ?_, ?_, ?_⟩, HS.out.1⟩
      · assumption
      · assumption
      · rw [HN.out]; omega
      · intro i hi
        exact HS.out.2.2.2 i (by rw [HN.out] at hi; exact hi)
theorem right_any (a : ARec) (w : World) (h : a.lain w) : Calls Tryd.prog 18 #[a.x.agg] w (RightSo a w) := by
  by_cases h5 : a.x.k = 5
  · have := right_list a.x.n a.x.t a.x.A a.x.m a.x.c a.ys w h.1.symm (h.1 ▸ h.2.1) h.2.2
    obtain ⟨⟨k, n, t, A, m, c⟩, ys⟩ := a
    simp only at h5
    subst h5
    exact this
  · refine (argumentRight_flat a.x w (by simpa using h5)).mono ?_
    rintro e w' ⟨r, rfl, hr, hb⟩
    exact ⟨r, rfl, fun h => .inl (hr h), hb⟩
/-- Arguments with names lie, whatever they are. -/
structure NamesLain (w : World) (A : Option Addr) (gs : List NRec) : Prop where
  lie : gs = [] ∨ ∃ b off, A = some ⟨b, off, none⟩ ∧ b < w.heap.size ∧ ∀ i, i < gs.length → (gs.getD i n0).lies w b (off + i * 5)
  lain : ∀ i, i < gs.length → (gs.getD i n0).a.lain w
  short : ∀ i, i < gs.length → (gs.getD i n0).s.size ≤ maxLen
def oneRight (gs : List NRec) (i : Nat) : Prop := (gs.getD i n0).a.right ∧ (gs.getD i n0).s.size ≤ 100 ∧ ∀ j, j < i → (gs.getD j n0).s ≠ (gs.getD i n0).s
def ArgsSo (gs : List NRec) (w : World) (e : Ending) (w' : World) : Prop := ∃ r : Bool, e = .returned (.bool r) ∧ (r = true → gs.length ≤ 20 ∧ ∀ i, i < gs.length → oneRight gs i) ∧ Below w.heap.size w w'
set_option maxHeartbeats 2000000 in
set_option maxRecDepth 100000 in
theorem args_right (A : Option Addr) (n c : Nat) (gs : List NRec) (w : World) (hn : gs.length = n) (hm : n ≤ maxLen) (hx : NamesLain w A gs) :
    Calls Tryd.prog 30 #[.slice A n c] w (ArgsSo gs w) := by
  have HX := Lib.hid hx
  have HN := Lib.hid hn
  clear hx hn
  unfold maxLen at hm
  go_enter Tryd.func30, Tryd.ntmps30
  go_wp2_with fail
  go_loopw [3] (fun i wr => ∃ k : Nat, k ≤ n ∧ i = .int .i64 k ∧ Hid (Below w.heap.size w wr ∧ ∀ i, i < k → oneRight gs i)) (fun i _ => n - (intOf i).toNat)
  case atStart => exact ⟨0, Nat.zero_le _, rfl, Lib.hid ⟨Below.refl _ _, fun i h => by omega⟩⟩
  case round =>
    obtain ⟨k, hk, rfl, HS⟩ := hrel
    have h0 : (0 : Int) ≤ k := by omega
    by_cases hlt : k < n
    · have hkn : (k : Int) < n := by omega
      have hne : gs ≠ [] := fun e => by have := HN.out; rw [e] at this; simp at this; omega
      obtain ⟨b, off, rfl, hb, hl⟩ := HX.out.lie.resolve_left hne
      have HL := Lib.hid (fun i (hi : i < n) => show (wr.cell? ⟨b, off + i * 5, none⟩ = some (.string (gs.getD i n0).s)) from (HS.out.1.cell (p := ⟨b, off + i * 5, none⟩) hb).trans (hl i (by rw [HN.out]; exact hi)).1)
      have HA := Lib.hid (lain_below (HX.out.lain k (by rw [HN.out]; exact hlt)) HS.out.1)
      obtain ⟨c0, c1, c2, c3, c4⟩ := hl k (by rw [HN.out]; exact hlt)
      have d0 := (HS.out.1.cell (p := ⟨b, off + k * 5, none⟩) hb).trans c0
      have d1 := (HS.out.1.cell (p := ⟨b, off + k * 5 + 1, none⟩) hb).trans c1
      have d2 := (HS.out.1.cell (p := ⟨b, off + k * 5 + 2, none⟩) hb).trans c2
      have d3 := (HS.out.1.cell (p := ⟨b, off + k * 5 + 3, none⟩) hb).trans c3
      have d4 := (HS.out.1.cell (p := ⟨b, off + k * 5 + 4, none⟩) hb).trans c4
      generalize hxx : gs.getD k n0 = x at d0 d1 d2 d3 d4 HA
      have HXX := Lib.hid hxx
      clear hl hxx hne c0 c1 c2 c3 c4
      have e1 : off + k * 5 + 1 + 1 = off + k * 5 + 2 := by omega
      have e2 : off + k * 5 + 1 + 2 = off + k * 5 + 3 := by omega
      have e3 : off + k * 5 + 1 + 3 = off + k * 5 + 4 := by omega
      go_wp2_with fail
      refine (right_any x.a _ HA.out).mono ?_
      rintro e w1 ⟨r, rfl, hr, hb1⟩
      have hbr : b < wr.heap.size := Nat.lt_of_lt_of_le hb HS.out.1.size
      have HR := Lib.hid hr
      have HB1 := Lib.hid (HS.out.1.trans (hb1.mono HS.out.1.size))
      have HL1 := Lib.hid (fun i (hi : i < n) => show (w1.cell? ⟨b, off + i * 5, none⟩ = some (.string (gs.getD i n0).s)) from (hb1.cell (p := ⟨b, off + i * 5, none⟩) hbr).trans (HL.out i hi))
      have hc0 := (hb1.cell (p := ⟨b, off + k * 5, none⟩) hbr).trans d0
      clear hr hb1 d0 d1 d2 d3 d4 HL e1 e2 e3
      cases r with
      | false =>
        go_wp2
        go_ret
        exact ⟨false, rfl, (fun h => by cases h), HB1.out⟩
      | true =>
        go_wp2_with fail
        · go_ret
          exact ⟨false, rfl, (fun h => by cases h), HB1.out⟩
        have hb1s : b < w1.heap.size := Nat.lt_of_lt_of_le hb HB1.out.size
        go_loopw [4] (fun i wi => ∃ j : Nat, j ≤ k ∧ i = .int .i64 j ∧ Hid (Below w1.heap.size w1 wi ∧ ∀ i, i < j → (gs.getD i n0).s ≠ x.s)) (fun i _ => k - (intOf i).toNat)
        case atStart => exact ⟨0, Nat.zero_le _, rfl, Lib.hid ⟨Below.refl _ _, fun i h => by omega⟩⟩
        case round =>
          obtain ⟨j, hj, rfl, HJ⟩ := hrel
          have h0j : (0 : Int) ≤ j := by omega
          by_cases hjk : j < k
          · have hjn : (j : Int) < n := by omega
            have hjk2 : (j : Int) < k := by omega
            have hcj := (HJ.out.1.cell (p := ⟨b, off + j * 5, none⟩) hb1s).trans (HL1.out j (by omega))
            have hck := (HJ.out.1.cell (p := ⟨b, off + k * 5, none⟩) hb1s).trans hc0
            generalize hyy : gs.getD j n0 = y at hcj
            have HYY := Lib.hid hyy
            clear hyy
            go_wp2_with fail
            go_quiet (fail)
            go_wp2_with fail
            · go_ret
              exact ⟨false, rfl, (fun h => by cases h), below_drewN (HB1.out.trans (HJ.out.1.mono HB1.out.size)) _⟩
            · go_roundw
              case rel =>
                refine ⟨j + 1, by omega, by go_num, Lib.hid ⟨below_drewN HJ.out.1 _, fun i hi => ?_⟩⟩
                by_cases e : i = j
                · subst e
                  rw [HYY.out]
                  exact fun he => absurd (show (y.s.toList == x.s.toList) = true by rw [he]; simp) (Bool.eq_false_iff.1 (by assumption))
                · exact HJ.out.2 i (by omega)
              case measure => simp [intOf]; omega
          · obtain rfl : j = k := by omega
            go_wp2_with fail
            go_roundw
            case rel =>
              refine ⟨j + 1, by omega, by go_num, Lib.hid ⟨HB1.out.trans (HJ.out.1.mono HB1.out.size), fun i hi => ?_⟩⟩
              by_cases e : i = j
              · subst e
                unfold oneRight
                rw [HXX.out]
                exact ⟨HR.out (by trivial), by omega, HJ.out.2⟩
              · exact HS.out.2 i (by omega)
            case measure => simp [intOf]; omega
    · obtain rfl : k = n := by omega
      go_wp2
      go_ret
      exact ⟨_, rfl, fun h => ⟨by rw [HN.out]; have := of_decide_eq_true h; omega, fun i hi => HS.out.2 i (by rw [HN.out] at hi; exact hi)⟩, HS.out.1⟩
end Go.Proofs.YtpjadgdimkdblaaDoor
