/- between9 with the arguments of FnDebugEach between, in apostrophes: FnDebugEach$1. -/
import Derived.Test.YtdjgknfmehkigaaDoorBet
import Derived.Test.YtdjgknfmehkigaaDoorFar
import Derived.Test.YtdjgknfmehkigaaDoorSingle
namespace Go.Proofs.YtdjgknfmehkigaaDoor
open Go.RowKit
set_option linter.unusedVariables false

/-- Values that are no lists, as they are written for people. -/
def Spoken (xs : List VRec) : Prop := ∀ i, i < xs.length → (xs.getD i z0).right ∧ (-9223372036854775808 ≤ (xs.getD i z0).n ∧ (xs.getD i z0).n ≤ 9223372036854775807)
/-- What stands between. -/
def qd (xs : List VRec) (i : Nat) : ByteArray := (⟨#[39]⟩ : ByteArray) ++ shownB (xs.getD (i - 1) z0) ++ (⟨#[39]⟩ : ByteArray)
theorem shown_size {x : VRec} (hr : x.right) (hn : -9223372036854775808 ≤ x.n ∧ x.n ≤ 9223372036854775807) : (shownB x).size ≤ 200 := by
  unfold shownB
  split
  · decide
  · split
    · have h := Lib.itoa_length_le x.n hn.1 hn.2
      have e : (ByteArray.mk (Lib.itoa x.n).toArray).size = (Lib.itoa x.n).length := by simp [ByteArray.size]
      omega
    · split
      · exact hr.2.2.2.2
      · split <;> decide
theorem qd_size {xs : List VRec} {k : Nat} (h : Spoken xs) (hk : k - 1 < xs.length) : (qd xs k).size ≤ 202 := by
  have h1 := shown_size (h (k - 1) hk).1 (h (k - 1) hk).2
  unfold qd
  rw [ByteArray.size_append', ByteArray.size_append']
  have : (ByteArray.mk #[39]).size = 1 := rfl
  omega
set_option maxHeartbeats 1000000 in
theorem sign_de (b : Nat) (A : Option Addr) (n c : Nat) (xs : List VRec) (k : Nat) (w : World) (hn : xs.length = n) (hk0 : 0 < k) (hk : k ≤ n) (hk1 : k < 1000) (hx : ListAt w A xs) (hp : Spoken xs) (hc : w.cell? ⟨b, 0, none⟩ = some (.slice A n c)) :
    Calls Tryd.prog 25 #[.int .i64 k, .pointer (some ⟨b, 0, none⟩)] w fun e w' => e = .returned (.string (qd xs k)) ∧ Below w.heap.size w w' := by
  obtain ⟨j, rfl⟩ : ∃ j, k = j + 1 := ⟨k - 1, by omega⟩
  have hj : j < xs.length := by omega
  have hne : xs ≠ [] := fun e => by rw [e] at hj; simp at hj
  obtain ⟨g, off, rfl, hg, hl⟩ := hx.resolve_left hne
  obtain ⟨d0, d1, d2, d3⟩ := hl j hj
  have HPX := Lib.hid (hp j hj)
  have HQ := Lib.hid (show qd xs (j + 1) = (⟨#[39]⟩ : ByteArray) ++ shownB (xs.getD j z0) ++ (⟨#[39]⟩ : ByteArray) from rfl)
  have hzs := shown_size (hp j hj).1 (hp j hj).2
  have hji : (j : Int) < n := by omega
  have hj0 : (0 : Int) ≤ j := by omega
  have e1 : off + (j * 4 + 1) = off + j * 4 + 1 := by omega
  have e2 : off + (j * 4 + 2) = off + j * 4 + 2 := by omega
  have e3 : off + (j * 4 + 3) = off + j * 4 + 3 := by omega
  have ej : ((j + 1 : Nat) : Int) = (j : Int) + 1 := by omega
  rw [ej]
  clear hx hp hne hl hn ej
  generalize xs.getD j z0 = x at d0 d1 d2 d3 HPX HQ hzs
  go_enter Tryd.func25, Tryd.ntmps25
  go_wp2_with fail
  refine (spoken_any x w HPX.out.1.1.1 HPX.out.1.1.2 HPX.out.2).mono ?_
  rintro e w2 ⟨rfl, hb2⟩
  have HB2 := Lib.hid hb2
  clear hb2
  go_wp2_with fail
  go_ret
  exact ⟨ret_string1 HQ.out.symm, HB2.out⟩
set_option maxHeartbeats 2000000 in
set_option maxRecDepth 100000 in
theorem between_de (A : Option Addr) (n c : Nat) (ss : List ByteArray) (b0 : Nat) (A1 : Option Addr) (n1 c1 : Nat) (xs : List VRec) (w : World) (hn : ss.length = n) (hm : n ≤ 20) (hx : StrsAt w A ss) (hz : ∀ i, i < n → (ss.getD i ByteArray.empty).size ≤ 100) (hn1 : xs.length = n1) (hnn : n ≤ n1 + 1) (hla : ListAt w A1 xs) (hpl : Spoken xs) (hbox : w.cell? ⟨b0, 0, none⟩ = some (.slice A1 n1 c1)) :
    Calls Tryd.prog 13 #[.slice A n c, .func (.func 25) #[] #[.pointer (some ⟨b0, 0, none⟩)]] w fun e w' => e = .returned (.string (betS (qd xs) ss n)) ∧ Below w.heap.size w w' := by
  have HX := Lib.hid hx
  have HN := Lib.hid hn
  have HZ := Lib.hid hz
  have HBX := Lib.hid hbox
  have HLA := Lib.hid hla
  have HPL := Lib.hid hpl
  have HN1 := Lib.hid hn1
  clear hx hn hz hbox hla hpl hn1
  go_enter Tryd.func13, Tryd.ntmps13
  go_wp2_with fail
  go_loopw [5, 9] (fun ov i wr => ∃ (k : Nat) (o : ByteArray), k ≤ n ∧ i = .int .i64 k ∧ ov = .string o ∧ o.size ≤ 400 * k ∧ Hid (o = betS (qd xs) ss k) ∧ Hid (Below w.heap.size w wr)) (fun _ i _ => n - (intOf i).toNat)
  case atStart => exact ⟨0, _, by omega, rfl, rfl, (by decide : (0 : Nat) ≤ 0), Lib.hid rfl, Lib.hid (Below.refl _ _)⟩
  case round =>
    obtain ⟨k, o, hk, rfl, rfl, hsz, HO, HB⟩ := hrel
    by_cases hlt : k < n
    · have hkn : (k : Int) < n := by omega
      have hne : ss ≠ [] := fun e => by have := HN.out; rw [e] at this; simp at this; omega
      obtain ⟨b, off, rfl, hb, hl⟩ := HX.out.resolve_left hne
      have hcell := (HB.out.cell (p := ⟨b, off + k, none⟩) hb).trans (hl k (by rw [HN.out]; exact hlt))
      have hbw : b < wr.heap.size := Nat.lt_of_lt_of_le hb HB.out.size
      have hzk := HZ.out k hlt
      have HB1 := Lib.hid (show k = 0 → betS (qd xs) ss (k + 1) = o ++ ss.getD k ByteArray.empty from fun e => by subst e; rw [HO.out]; rfl)
      have HBS := Lib.hid (show k ≠ 0 → betS (qd xs) ss (k + 1) = o ++ (qd xs) k ++ ss.getD k ByteArray.empty from fun e => by rw [HO.out]; exact betS_succ (qd xs) ss k e)
      generalize ss.getD k ByteArray.empty = x at hcell hzk HBS HB1
      clear hb hl hne HO
      have hos : o.size ≤ 8000 := by omega
      rcases Nat.eq_zero_or_pos k with hk0 | hpos
      · have hk1 : ¬ (0 : Int) < k := by omega
        have HK0 := Lib.hid hk0
        clear hk0
        go_wp2_with fail
        go_roundw
        case rel => exact ⟨k + 1, _, by omega, by go_num, rfl, by rw [ByteArray.size_append']; omega, Lib.hid (HB1.out HK0.out).symm, HB⟩
        case measure => simp [intOf]; omega
      · have hk0 : (0 : Int) < k := by omega
        have hk20 : k < 100 := by omega
        go_wp2_with fail
        refine (sign_de b0 A1 n1 c1 xs k wr HN1.out hpos (by omega) (by omega) (listAt_below HLA.out HB.out) HPL.out ((HB.out.cell (p := ⟨b0, 0, none⟩) (World.block_lt_of_cell? w ⟨b0, 0, none⟩ HBX.out)).trans HBX.out)).mono ?_
        rintro e w' ⟨rfl, hb1⟩
        have HB2 := Lib.hid (HB.out.trans (hb1.mono HB.out.size))
        have hcell2 := (hb1.cell (p := ⟨b, off + k, none⟩) hbw).trans hcell
        clear hb1 hcell
        generalize hfk : (qd xs) k = y at HBS
        have hys : y.size ≤ 202 := by rw [← hfk]; exact qd_size HPL.out (by rw [HN1.out]; omega)
        have HFK := Lib.hid hfk
        try rw [hfk]
        clear hfk
        go_wp2_with fail
        go_roundw
        case rel => exact ⟨k + 1, _, by omega, by go_num, rfl, by rw [ByteArray.size_append', ByteArray.size_append']; omega, Lib.hid (HBS.out (by omega)).symm, HB2⟩
        case measure => simp [intOf]; omega
    · obtain rfl : k = n := by omega
      go_wp2_with fail
      go_ret
      exact ⟨ret_string1 HO.out, HB.out⟩
end Go.Proofs.YtdjgknfmehkigaaDoor
