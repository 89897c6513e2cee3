/- FnInLists walked: it answers true whatever the lists are, and only makes new memory. -/
import Derived.Test.YtdjgknfmehkigaaInListsS
import Derived.Deep.Cut
import Derived.Deep.RegionLaw
namespace Go.Proofs.Ytdjgknfmehkigaa
open Go.RowKit
set_option linter.unusedVariables false

set_option maxHeartbeats 2000000 in
set_option maxRecDepth 100000 in
theorem inLists_any (A : Option Addr) (n c : Nat) (ls : List LRec) (w : World) (hn : ls.length = n) (hm : n ≤ maxLen) (hA : A = none → c = 0) (hx : LsAt w A ls) :
    Calls Try.prog 6 #[.slice A n c] w fun e w' => e = .returned (.bool true) ∧ Below w.heap.size w w' := by
  have HX := Lib.hid hx
  have HN := Lib.hid hn
  unfold maxLen at hm
  clear hx hn hA
  by_cases h3 : (2147483647 : Int) < n
  · go_enter Try.func6, Try.ntmps6
    go_wp2_with fail
    go_ret
    exact ⟨rfl, Below.refl _ _⟩
  rcases Nat.eq_zero_or_pos n with rfl | hpos
  · go_enter Try.func6, Try.ntmps6
    go_wp2_with fail
    go_ret
    exact ⟨rfl, Below.refl _ _⟩
  have hn0 : ((n : Int) == 0) = false := by rw [beq_eq_false_iff_ne]; omega
  by_cases h6 : (6 : Int) < n
  · go_enter Try.func6, Try.ntmps6
    go_wp2_with fail
    go_ret
    exact ⟨rfl, Below.refl _ _⟩
  go_enter Try.func6, Try.ntmps6
  go_wp2_with fail
  go_loopw [3, 4, 5, 6, 24] (fun sv wv v1' v2' i wr => ∃ (k m : Nat) (v1 v2 : Value), v1 = v1' ∧ v2 = v2' ∧ k ≤ n ∧ m ≤ 8 * k ∧ i = .int .i64 k ∧ sv = .string (sS k) ∧ wv = .string (wS ls k) ∧ (wS ls k).size ≤ 100 * k ∧ Hid (LsSo ls w k m v1 v2 wr)) (fun _ _ _ _ i _ => n - (intOf i).toNat)
  case atStart => exact ⟨0, 0, _, _, rfl, rfl, Nat.zero_le _, Nat.zero_le _, rfl, rfl, rfl, (by decide : (0 : Nat) ≤ 0), Lib.hid (lsSo_start ls w)⟩
  case round =>
    obtain ⟨k, m, v1, v2, rfl, rfl, hk, hmk, rfl, rfl, rfl, hws, HS⟩ := hrel
    have h0 : (0 : Int) ≤ k := by omega
    have hss := sS_size k
    by_cases hlt : k < n
    · have hkn : (k : Int) < n := by omega
      have hne : ls ≠ [] := fun e => by have := HN.out; rw [e] at this; simp at this; omega
      obtain ⟨b, off, rfl, hb, hl⟩ := HX.out.resolve_left hne
      obtain ⟨hc, hgood⟩ := hl k (by rw [HN.out]; exact hlt)
      have hcell := (HS.out.2.2.2.2.1.cell (p := ⟨b, off + k, none⟩) hb).trans hc
      generalize hll : ls.getD k l0 = l at hcell hgood hc
      have HLL := Lib.hid hll
      obtain ⟨A1, n1, c1, xs1⟩ := l
      obtain ⟨g1, g2, g3, g4⟩ := hgood
      have HG2 := Lib.hid g2
      have HG3 := Lib.hid g3
      have HG4 := Lib.hid g4
      simp only at hcell g1
      unfold maxLen at g1
      have HB0 := Lib.hid hb
      have HC0 := Lib.hid hc
      clear hl hc hll hne g2 g3 g4
      have hbr : b < wr.heap.size := Nat.lt_of_lt_of_le hb HS.out.2.2.2.2.1.size
      clear hb
      go_wp2_with fail
      refine (single_any A1 n1 c1 xs1 _ HG3.out (by omega) (listAt_below HG4.out HS.out.2.2.2.2.1)).mono ?_
      rintro e w1 ⟨r, rfl, hr, hb1⟩
      have HB1 := Lib.hid hb1
      have HBW := Lib.hid (HS.out.2.2.2.2.1.trans (hb1.mono HS.out.2.2.2.2.1.size))
      have hcell1 := (hb1.cell (p := ⟨b, off + k, none⟩) hbr).trans hcell
      have HR := Lib.hid hr
      clear hr hb1 hcell
      cases r with
      | false =>
        go_wp2
        go_ret
        exact ⟨rfl, HBW.out⟩
      | true =>
      have hr2 := HR.out (by trivial)
      have HR2 := Lib.hid hr2.2
      clear HR hr2
      rcases Nat.eq_zero_or_pos n1 with rfl | hpos1
      · go_wp2
        go_ret
        exact ⟨rfl, HBW.out⟩
      have hn1 : ((n1 : Int) == 0) = false := by rw [beq_eq_false_iff_ne]; omega
      by_cases h8 : (8 : Int) < n1
      · go_wp2
        go_ret
        exact ⟨rfl, HBW.out⟩
      have HRM := Lib.hid (not5 HR2.out)
      go_wp2_with fail
      obtain ⟨m1, hm1⟩ : ∃ m1 : Nat, (n1 : Int) - 1 = m1 := ⟨n1 - 1, by omega⟩
      have hm7 : m1 ≤ 7 := by omega
      have hk6 : k ≤ 6 := by omega
      have hws6 : (wS ls k).size ≤ 600 := by omega
      go_loop [4, 59] (fun v i => ∃ (j : Nat) (t : ByteArray), j ≤ m1 ∧ i = .int .i64 j ∧ v = .string t ∧ t.size ≤ (wS ls k).size + 2 + 3 * j ∧ Hid (t = rep (wS ls k ++ ⟨#[40, 63]⟩) ⟨#[44, 32, 63]⟩ j)) (fun _ i => m1 - (intOf i).toNat)
      case atStart => exact ⟨0, _, by omega, rfl, rfl, by rw [ByteArray.size_append', show (ByteArray.mk #[40, 63]).size = 2 from rfl]; omega, Lib.hid rfl⟩
      case round =>
        obtain ⟨j, t, hj, rfl, rfl, ht, HT⟩ := hrel
        by_cases hlt2 : j < m1
        · have hjm : (j : Int) < m1 := by omega
          go_wp2
          go_round
          case rel =>
            refine ⟨j + 1, _, by omega, by go_num, rfl, ?_, Lib.hid ?_⟩
            · rw [ByteArray.size_append', show (ByteArray.mk #[44, 32, 63]).size = 3 from rfl]; omega
            · rw [HT.out]; rfl
          case measure => simp [intOf]; omega
        · obtain rfl : j = m1 := by omega
          have P1 := Lib.hid (((HS.out.1.kept (grown_none HB1.out) (none_or _)).alloc (.cells (cellsL [(⟨A1, n1, c1, xs1⟩ : LRec).arg.x]).toArray 31)).drew)
          have hkk : k + 1 ≤ 1000000 := by omega
          have P2 := Lib.hid (show w.heap.size ≤ ((w1.alloc (.cells (cellsL [(⟨A1, n1, c1, xs1⟩ : LRec).arg.x]).toArray 31)).drew).heap.size from by have := HBW.out.size; simp [heap_drew]; omega)
          have P3 := Lib.hid (show ListAt ((w1.alloc (.cells (cellsL [(⟨A1, n1, c1, xs1⟩ : LRec).arg.x]).toArray 31)).drew) (some ⟨w1.heap.size, 0, none⟩) [(⟨A1, n1, c1, xs1⟩ : LRec).arg.x] from listAt_lit w1 [(⟨A1, n1, c1, xs1⟩ : LRec).arg.x] _)
          go_upto_region 18 with fail
          have HTW := Lib.hid (show t ++ ⟨#[41]⟩ = wS ls (k + 1) from by rw [HT.out]; exact wS_next HLL.out hm1 hpos1)
          have hmn : m + n1 ≤ 1000000 := by omega
          have hcellA : ∀ X, (w1.alloc X).cell? ⟨b, off + k, none⟩ = some (.slice A1 n1 c1) := fun X => ((HBW.out.alloc HBW.out.size X).cell (p := ⟨b, off + k, none⟩) HB0.out).trans HC0.out
          go_region_law (first
            | (refine step_app_vals rfl (.tmp 66) (.tmp 72) rfl w.heap.size v1 k ((ls.take k).map (fun (l : LRec) => l.arg.x)) (by simp [Act.eval]) (some ⟨w1.heap.size, 0, none⟩) 1 1 (by simp [Act.eval]) [(⟨A1, n1, c1, xs1⟩ : LRec).arg.x] P1.out rfl (fun h => by cases h) P3.out hkk P2.out ?_; intro v3 w2 hown3 hg3 hat3; have P4 := Lib.hid (ls_mid HS.out HB1.out.drew (.cells (cellsL [(⟨A1, n1, c1, xs1⟩ : LRec).arg.x]).toArray 31) hg3); have hcell2 := (P4.out.2.cell (p := ⟨b, off + k, none⟩) HB0.out).trans HC0.out; have P5 := Lib.hid (listAt_below HG4.out P4.out.2); have Q3 := Lib.hid hown3; have Q4 := Lib.hid hg3; have Q5 := Lib.hid hat3; clear hown3 hg3 hat3)
            | (refine step_app_vals rfl (.tmp 74) (.tmp 78) rfl w.heap.size v2 m (fl ls k) (by simp [Act.eval]) A1 n1 c1 (by simp [Act.eval]) xs1 P4.out.1 HG3.out HG2.out P5.out hmn P4.out.2.size ?_; intro v4 w3 hown4 hg4 hat4; have Q6 := Lib.hid hown4; have Q7 := Lib.hid hg4; have Q8 := Lib.hid hat4; clear hown4 hg4 hat4))
          all_goals
            have HS2 : Hid (LsSo ls w (k + 1) (m + n1) v3 v4 w3) := by
              have h := ls_step (ls := ls) (k := k) (v3 := v3) (v4 := v4) (w3 := w3) HS.out (by rw [HN.out]; exact hlt) HB1.out.drew (.cells (cellsL [(⟨A1, n1, c1, xs1⟩ : LRec).arg.x]).toArray 31) Q4.out (by rw [HLL.out]; exact Q3.out) Q5.out (by rw [HLL.out]; exact Q6.out) Q7.out Q8.out (by rw [HLL.out]; exact HG3.out) (by rw [HLL.out]; exact hpos1) (by rw [HLL.out]; show n1 ≤ 8; omega) (by rw [HLL.out]; exact HRM.out)
              rw [HLL.out] at h
              exact Lib.hid h
            go_wp2_with fail
            go_roundw
            case rel =>
              refine ⟨k + 1, m + n1, _, _, rfl, rfl, by omega, by omega, by go_num, rfl, ?_, ?_, HS2⟩
              · rw [← HTW.out]
              · rw [← HTW.out, ByteArray.size_append', show (ByteArray.mk #[41]).size = 1 from rfl]; omega
            case measure => simp [intOf]; omega
    · obtain rfl : k = n := by omega
      have hkk := HN.out
      subst hkk
      have HGG := Lib.hid (lists_at HX.out)
      have HAll := Lib.hid (lists_all HS.out rfl HGG.out hpos)
      have HOK := Lib.hid (lists_ok HS.out rfl HGG.out)
      have HSM := Lib.hid (lists_small HS.out rfl HGG.out)
      have hm48 : m ≤ 48 := by omega
      have HFM := Lib.hid HS.out.2.2.1
      obtain ⟨A1, c1, rfl, hl1⟩ := listAt_own HS.out.1 (by rw [args_all, List.length_map, List.length_map])
      obtain ⟨A2, c2, rfl, hl2⟩ := listAt_own HS.out.2.1 HS.out.2.2.1
      rw [args_all] at hl1
      have HL1 := Lib.hid hl1
      have HL2 := Lib.hid hl2
      clear hl1 hl2
      go_wp2_with fail
      refine (expanded_any (sS ls.length) A1 ls.length c1 (ls.map LRec.arg) _ (by rw [List.length_map]) (by omega) HL1.out HOK.out HSM.out (by omega) (fun t vs h => ?_)).mono ?_
      · rw [HAll.out.1] at h
        injection h with h
        obtain ⟨_, rfl⟩ := Prod.mk.inj h
        rw [HFM.out]
        omega
      rintro e w2 he
      obtain ⟨v5, rfl, hown5, hb5⟩ := exp_some HAll.out.1 he
      rw [back_list2]
      rw [HFM.out] at hown5
      have HB5 := Lib.hid (HS.out.2.2.2.2.1.trans (hb5.mono HS.out.2.2.2.2.1.size))
      have HO5 := Lib.hid hown5
      have HL5 := Lib.hid (listAt_below HL2.out hb5)
      clear hb5 he hown5
      go_wp2_with fail
      refine (equal_backs _ v5 A2 m c2 (fl ls ls.length) _ HFM.out (by omega) HO5.out HL5.out (right_getD HFM.out HAll.out.2)).mono ?_
      rintro e w8 ⟨rfl, hb8⟩
      have HB8 := Lib.hid (HB5.out.trans (hb8.mono HB5.out.size))
      clear hb8
      go_wp2
      go_ret
      exact ⟨rfl, HB8.out⟩
end Go.Proofs.Ytdjgknfmehkigaa
