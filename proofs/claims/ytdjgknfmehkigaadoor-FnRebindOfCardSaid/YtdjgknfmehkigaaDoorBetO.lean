/- between9 with the signs of a driver between: FnRebindOf$1. -/
import Derived.Test.YtdjgknfmehkigaaDoorBet
import Derived.Test.YtdjgknfmehkigaaDoorStrE
namespace Go.Proofs.YtdjgknfmehkigaaDoor
open Go.RowKit
set_option linter.unusedVariables false

/-- The boxes that the closure holds. -/
def Boxes (w : World) (bs bk bg : Nat) (k : Nat) (sg : ByteArray) : Prop := w.cell? ⟨bs, 0, none⟩ = some (.slice (some ⟨bg, 0, none⟩) 9 9) ∧ w.cell? ⟨bk, 0, none⟩ = some (.int .i64 k) ∧ w.cell? ⟨bg, k, none⟩ = some (.string sg)
theorem boxes_below {w w' : World} {bs bk bg k : Nat} {sg : ByteArray} (h : Boxes w bs bk bg k sg) (hb : Below w.heap.size w w') : Boxes w' bs bk bg k sg :=
  ⟨(hb.cell (p := ⟨bs, 0, none⟩) (World.block_lt_of_cell? w _ h.1)).trans h.1, (hb.cell (p := ⟨bk, 0, none⟩) (World.block_lt_of_cell? w _ h.2.1)).trans h.2.1, (hb.cell (p := ⟨bg, k, none⟩) (World.block_lt_of_cell? w _ h.2.2)).trans h.2.2⟩
/-- What stands between. -/
def of (sg : ByteArray) (i : Nat) : ByteArray := if sg.size = 0 then qf i else sf sg i
theorem of_size {sg : ByteArray} {k : Nat} (hs : sg.size ≤ 10) (hk : k < 100) : (of sg k).size ≤ 12 := by
  unfold of
  split
  · exact (by decide : 1 ≤ 12)
  · exact sf_size hs hk
set_option maxHeartbeats 4000000 in
theorem sign_of (bs bk bg m : Nat) (sg : ByteArray) (k : Nat) (w : World) (hk : k < 100) (hm : m < 9) (hs : sg.size ≤ 10) (hb : Boxes w bs bk bg m sg) : Calls Tryd.prog 18 #[.int .i64 k, .pointer (some ⟨bs, 0, none⟩), .pointer (some ⟨bk, 0, none⟩)] w fun e w' => e = .returned (.string (of sg k)) ∧ Below w.heap.size w w' := by
  obtain ⟨c1, c2, c3⟩ := hb
  have b1 := World.block_lt_of_cell? w ⟨bs, 0, none⟩ c1
  have b2 := World.block_lt_of_cell? w ⟨bk, 0, none⟩ c2
  have b3 := World.block_lt_of_cell? w ⟨bg, m, none⟩ c3
  have hd := dec_size hk
  have hd2 : (Lib.decDigits k).length ≤ 2 := by simpa [ByteArray.size] using hd
  have hm0 : (0 : Int) ≤ m := by omega
  have hm9 : (m : Int) < 9 := by omega
  by_cases hz : sg.size = 0
  · have he := toList_empty hz
    go_enter Tryd.func18, Tryd.ntmps18
    go_wp2_with fail
    go_ret
    exact ⟨ret_string1 (by unfold of; rw [if_pos hz]; rfl), Below.refl _ _⟩
  · have he := toList_some hz
    go_enter Tryd.func18, Tryd.ntmps18
    go_wp2_with fail
    go_region_with (go_at_call 16; refine (digits9_small k hk _).mono ?_; rintro e w1 ⟨rfl, hb1⟩; have d1 := (hb1.cell (p := ⟨bs, 0, none⟩) b1).trans c1; have d2 := (hb1.cell (p := ⟨bk, 0, none⟩) b2).trans c2; have d3 := (hb1.cell (p := ⟨bg, m, none⟩) b3).trans c3; generalize hds : (⟨(Lib.decDigits k).toArray⟩ : ByteArray) = ds at hd; have HDS := Lib.hid hds; clear hds)
    all_goals
      go_wp2_with fail
      go_ret
      exact ⟨ret_string1 (by unfold of; rw [if_neg hz, ← HDS.out]; rfl), (Below.refl w.heap.size w).drew.trans hb1⟩
set_option maxHeartbeats 2000000 in
set_option maxRecDepth 100000 in
theorem between_ro (A : Option Addr) (n c : Nat) (ss : List ByteArray) (bs bk bg m : Nat) (sg : ByteArray) (w : World) (hn : ss.length = n) (hm : n ≤ 20) (hx : StrsAt w A ss) (hz : ∀ i, i < n → (ss.getD i ByteArray.empty).size ≤ 100) (hm9 : m < 9) (hs : sg.size ≤ 10) (hbox : Boxes w bs bk bg m sg) :
    Calls Tryd.prog 13 #[.slice A n c, .func (.func 18) #[] #[.pointer (some ⟨bs, 0, none⟩), .pointer (some ⟨bk, 0, none⟩)]] w fun e w' => e = .returned (.string (betS (of sg) ss n)) ∧ Below w.heap.size w w' := by
  have HX := Lib.hid hx
  have HN := Lib.hid hn
  have HZ := Lib.hid hz
  have HBX := Lib.hid hbox
  clear hx hn hz hbox
  go_enter Tryd.func13, Tryd.ntmps13
  go_wp2_with fail
  go_loopw [5, 9] (fun ov i wr => ∃ (k : Nat) (o : ByteArray), k ≤ n ∧ i = .int .i64 k ∧ ov = .string o ∧ o.size ≤ 120 * k ∧ Hid (o = betS (of sg) ss k) ∧ Hid (Below w.heap.size w wr)) (fun _ i _ => n - (intOf i).toNat)
  case atStart => exact ⟨0, _, by omega, rfl, rfl, (by decide : (0 : Nat) ≤ 0), Lib.hid rfl, Lib.hid (Below.refl _ _)⟩
  case round =>
    obtain ⟨k, o, hk, rfl, rfl, hsz, HO, HB⟩ := hrel
    by_cases hlt : k < n
    · have hkn : (k : Int) < n := by omega
      have hne : ss ≠ [] := fun e => by have := HN.out; rw [e] at this; simp at this; omega
      obtain ⟨b, off, rfl, hb, hl⟩ := HX.out.resolve_left hne
      have hcell := (HB.out.cell (p := ⟨b, off + k, none⟩) hb).trans (hl k (by rw [HN.out]; exact hlt))
      have hbw : b < wr.heap.size := Nat.lt_of_lt_of_le hb HB.out.size
      have hzk := HZ.out k hlt
      have HB1 := Lib.hid (show k = 0 → betS (of sg) ss (k + 1) = o ++ ss.getD k ByteArray.empty from fun e => by subst e; rw [HO.out]; rfl)
      have HBS := Lib.hid (show k ≠ 0 → betS (of sg) ss (k + 1) = o ++ (of sg) k ++ ss.getD k ByteArray.empty from fun e => by rw [HO.out]; exact betS_succ (of sg) ss k e)
      generalize ss.getD k ByteArray.empty = x at hcell hzk HBS HB1
      clear hb hl hne HO
      have hos : o.size ≤ 2400 := by omega
      rcases Nat.eq_zero_or_pos k with hk0 | hpos
      · have hk1 : ¬ (0 : Int) < k := by omega
        have HK0 := Lib.hid hk0
        clear hk0
        go_wp2_with fail
        go_roundw
        case rel => exact ⟨k + 1, _, by omega, by go_num, rfl, by rw [ByteArray.size_append']; omega, Lib.hid (HB1.out HK0.out).symm, HB⟩
        case measure => simp [intOf]; omega
      · have hk0 : (0 : Int) < k := by omega
        have hk20 : k < 100 := by omega
        go_wp2_with fail
        refine (sign_of bs bk bg m sg k wr hk20 hm9 hs (boxes_below HBX.out HB.out)).mono ?_
        rintro e w' ⟨rfl, hb1⟩
        have HB2 := Lib.hid (HB.out.trans (hb1.mono HB.out.size))
        have hcell2 := (hb1.cell (p := ⟨b, off + k, none⟩) hbw).trans hcell
        clear hb1 hcell
        generalize hfk : (of sg) k = y at HBS
        have hys : y.size ≤ 12 := by rw [← hfk]; exact of_size hs hk20
        have HFK := Lib.hid hfk
        try rw [hfk]
        clear hfk
        go_wp2_with fail
        go_roundw
        case rel => exact ⟨k + 1, _, by omega, by go_num, rfl, by rw [ByteArray.size_append', ByteArray.size_append']; omega, Lib.hid (HBS.out (by omega)).symm, HB2⟩
        case measure => simp [intOf]; omega
    · obtain rfl : k = n := by omega
      go_wp2_with fail
      go_ret
      exact ⟨ret_string1 HO.out, HB.out⟩
end Go.Proofs.YtdjgknfmehkigaaDoor
