/- between9 with the signs of a form between: FnFormEach$1. -/
import Derived.Test.YtdjgknfmehkigaaDoorBet
namespace Go.Proofs.YtdjgknfmehkigaaDoor
open Go.RowKit
set_option linter.unusedVariables false

set_option maxHeartbeats 1000000 in
theorem sign_fe (b : Nat) (sg : ByteArray) (k : Nat) (w : World) (hk : k < 100) (hs : sg.size ≤ 10) (hc : w.cell? ⟨b, 0, none⟩ = some (.string sg)) : Calls Tryd.prog 22 #[.int .i64 k, .pointer (some ⟨b, 0, none⟩)] w fun e w' => e = .returned (.string (sf sg k)) ∧ Below w.heap.size w w' := by
  have hd := dec_size hk
  have hd2 : (Lib.decDigits k).length ≤ 2 := by simpa [ByteArray.size] using hd
  have hb := World.block_lt_of_cell? w ⟨b, 0, none⟩ hc
  go_enter Tryd.func22, Tryd.ntmps22
  go_wp2_with fail
  go_region_with (go_at_call 16; refine (digits9_small k hk _).mono ?_; rintro e w1 ⟨rfl, hb1⟩; have hc1 := (hb1.cell (p := ⟨b, 0, none⟩) hb).trans hc; generalize hds : (⟨(Lib.decDigits k).toArray⟩ : ByteArray) = ds at hd; have HDS := Lib.hid hds; clear hds)
  all_goals
    go_wp2_with fail
    go_ret
    exact ⟨ret_string1 (by rw [← HDS.out]; rfl), (Below.refl w.heap.size w).drew.trans hb1⟩
set_option maxHeartbeats 2000000 in
set_option maxRecDepth 100000 in
theorem between_fe (A : Option Addr) (n c : Nat) (ss : List ByteArray) (b0 : Nat) (sg : ByteArray) (w : World) (hn : ss.length = n) (hm : n ≤ 20) (hx : StrsAt w A ss) (hz : ∀ i, i < n → (ss.getD i ByteArray.empty).size ≤ 100) (hs : sg.size ≤ 10) (hbox : w.cell? ⟨b0, 0, none⟩ = some (.string sg)) :
    Calls Tryd.prog 13 #[.slice A n c, .func (.func 22) #[] #[.pointer (some ⟨b0, 0, none⟩)]] w fun e w' => e = .returned (.string (betS (sf sg) ss n)) ∧ Below w.heap.size w w' := by
  have HX := Lib.hid hx
  have HN := Lib.hid hn
  have HZ := Lib.hid hz
  have HBX := Lib.hid hbox
  clear hx hn hz hbox
  go_enter Tryd.func13, Tryd.ntmps13
  go_wp2_with fail
  go_loopw [5, 9] (fun ov i wr => ∃ (k : Nat) (o : ByteArray), k ≤ n ∧ i = .int .i64 k ∧ ov = .string o ∧ o.size ≤ 120 * k ∧ Hid (o = betS (sf sg) ss k) ∧ Hid (Below w.heap.size w wr)) (fun _ i _ => n - (intOf i).toNat)
  case atStart => exact ⟨0, _, by omega, rfl, rfl, (by decide : (0 : Nat) ≤ 0), Lib.hid rfl, Lib.hid (Below.refl _ _)⟩
  case round =>
    obtain ⟨k, o, hk, rfl, rfl, hsz, HO, HB⟩ := hrel
    by_cases hlt : k < n
    · have hkn : (k : Int) < n := by omega
      have hne : ss ≠ [] := fun e => by have := HN.out; rw [e] at this; simp at this; omega
      obtain ⟨b, off, rfl, hb, hl⟩ := HX.out.resolve_left hne
      have hcell := (HB.out.cell (p := ⟨b, off + k, none⟩) hb).trans (hl k (by rw [HN.out]; exact hlt))
      have hbw : b < wr.heap.size := Nat.lt_of_lt_of_le hb HB.out.size
      have hzk := HZ.out k hlt
      have HB1 := Lib.hid (show k = 0 → betS (sf sg) ss (k + 1) = o ++ ss.getD k ByteArray.empty from fun e => by subst e; rw [HO.out]; rfl)
      have HBS := Lib.hid (show k ≠ 0 → betS (sf sg) ss (k + 1) = o ++ (sf sg) k ++ ss.getD k ByteArray.empty from fun e => by rw [HO.out]; exact betS_succ (sf sg) ss k e)
      generalize ss.getD k ByteArray.empty = x at hcell hzk HBS HB1
      clear hb hl hne HO
      have hos : o.size ≤ 2400 := by omega
      rcases Nat.eq_zero_or_pos k with hk0 | hpos
      · have hk1 : ¬ (0 : Int) < k := by omega
        have HK0 := Lib.hid hk0
        clear hk0
        go_wp2_with fail
        go_roundw
        case rel => exact ⟨k + 1, _, by omega, by go_num, rfl, by rw [ByteArray.size_append']; omega, Lib.hid (HB1.out HK0.out).symm, HB⟩
        case measure => simp [intOf]; omega
      · have hk0 : (0 : Int) < k := by omega
        have hk20 : k < 100 := by omega
        go_wp2_with fail
        refine (sign_fe b0 sg k wr hk20 hs ((HB.out.cell (p := ⟨b0, 0, none⟩) (World.block_lt_of_cell? w ⟨b0, 0, none⟩ HBX.out)).trans HBX.out)).mono ?_
        rintro e w' ⟨rfl, hb1⟩
        have HB2 := Lib.hid (HB.out.trans (hb1.mono HB.out.size))
        have hcell2 := (hb1.cell (p := ⟨b, off + k, none⟩) hbw).trans hcell
        clear hb1 hcell
        generalize hfk : (sf sg) k = y at HBS
        have hys : y.size ≤ 12 := by rw [← hfk]; exact sf_size hs hk20
        have HFK := Lib.hid hfk
        try rw [hfk]
        clear hfk
        go_wp2_with fail
        go_roundw
        case rel => exact ⟨k + 1, _, by omega, by go_num, rfl, by rw [ByteArray.size_append', ByteArray.size_append']; omega, Lib.hid (HBS.out (by omega)).symm, HB2⟩
        case measure => simp [intOf]; omega
    · obtain rfl : k = n := by omega
      go_wp2_with fail
      go_ret
      exact ⟨ret_string1 HO.out, HB.out⟩
end Go.Proofs.YtdjgknfmehkigaaDoor
