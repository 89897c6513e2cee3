/- In walked: it answers what inSpec says. -/
import Derived.Test.YtpjadgdimkdblaaDoorInSo
import Derived.Test.YtpjadgdimkdblaaDoorWords
import Derived.Test.YtpjadgdimkdblaaDoorShelfB
namespace Go.Proofs.YtpjadgdimkdblaaDoor
open Go.RowKit
set_option linter.unusedVariables false

set_option maxHeartbeats 1000000 in
set_option maxRecDepth 100000 in
theorem in_any (q : ByteArray) (A : Option Addr) (n c : Nat) (us : List Value) (gs : List ARec) (Bh : Nat) (w : World) (H : InArgs A n us gs Bh w) (hq : q.size ≤ 1000000000) :
    Calls Tryd.prog 48 #[.string q, .slice A n c] w (InOk q gs w) := by
  have hz := zeroMeta
  have HH := Lib.hid H
  have hni : (n : Int) ≤ 32 := by have := H.few; omega
  have hnn : n ≤ 32 := H.few
  clear H
  go_enter Tryd.func48, Tryd.ntmps48
  go_wp2_with fail
  go_loopw [7, 8, 33] (fun f a i wr => ∃ (k m : Nat) (any : Bool), k ≤ n ∧ i = .int .i64 k ∧ f = .int .i64 m ∧ a = .bool any ∧ m ≤ k * 1000000 ∧ Hid (InSo us gs w k m any wr)) (fun _ _ i _ => n - (intOf i).toNat)
  case atStart => exact ⟨0, 0, false, Nat.zero_le _, rfl, rfl, rfl, by omega, Lib.hid ⟨rfl, rfl, ⟨metaZ, heap_alloc_new w _, metaAt_start us gs⟩, (Below.refl _ _).alloc (Nat.le_refl _) _, by simp, fun i h => by omega⟩⟩
  case round =>
    obtain ⟨k, m, any, hk, rfl, rfl, rfl, hmk, HS⟩ := hrel
    have h0 : (0 : Int) ≤ k := by omega
    by_cases hlt : k < n
    · have hkn : (k : Int) < n := by omega
      obtain ⟨g, rfl, hg, hc⟩ := HH.out.row k hlt
      obtain ⟨hm0, ha0, ⟨cs, hM, hMeta⟩, hbel, hsz, hne⟩ := HS.out
      have hcell := (hbel.cell (p := ⟨g, k, none⟩) hg).trans hc
      have ent := hMeta.2.2 k (Nat.le_refl _) (by omega)
      have e0 : wr.cell? ⟨w.heap.size, k * 3, none⟩ = some (.slice none 0 0) := (cell_of_row _ _ _ _ _ _ hM).trans ent.1
      have e1 : wr.cell? ⟨w.heap.size, k * 3 + 1, none⟩ = some .nilIface := (cell_of_row _ _ _ _ _ _ hM).trans ent.2.1
      have e2 : wr.cell? ⟨w.heap.size, k * 3 + 2, none⟩ = some (.int .i64 0) := (cell_of_row _ _ _ _ _ _ hM).trans ent.2.2
      have f0 := frozen_block hM (k * 3)
      have f1 := frozen_block hM (k * 3 + 1)
      have f2 := frozen_block hM (k * 3 + 2)
      have hk32 : (k : Int) < 32 := by omega
      have hm32 : m ≤ 32000000 := by omega
      have HM := Lib.hid hM
      have HMeta := Lib.hid hMeta
      have HB := Lib.hid hbel
      have HZ := Lib.hid hsz
      have HNE := Lib.hid hne
      have HM0 := Lib.hid hm0
      have HA0 := Lib.hid ha0
      have hh := HH.out.handed k hlt
      have hkk := HH.out.kinds k hlt
      have hyl := HH.out.small k hlt
      have hkg : k < gs.length := by rw [HH.out.gsn]; exact hlt
      have HFS := Lib.hid (flatN_succ hkg)
      have HAS := Lib.hid (anyL_succ hkg)
      clear hM hMeta hbel hsz hne ent hc hm0 ha0
      generalize hga : gs.getD k a0 = ga at hh hkk hyl
      have HGA := Lib.hid hga
      clear hga
      by_cases h5 : ga.x.k = 5
      · unfold ARec.handed at hh
        rw [if_pos h5] at hh
        obtain ⟨sv, hu, ho⟩ := hh
        obtain ⟨a, c2, rfl⟩ := ownsRow_form ho
        have HU := Lib.hid hu
        rw [hu] at hcell
        have H5 := Lib.hid h5
        clear hu ho h5 hkk
        go_wp2_with (go_at_call 56; refine (asSlice_list _ _).mono ?_; rintro e w' ⟨rfl, rfl⟩)
        case roundEnd =>
          go_roundw
          case rel =>
            have hl0 : ¬ ga.ys.length = 0 := by
              have := ‹((ga.ys.length : Int) == 0) = false›
              simp at this
              simpa using this
            refine ⟨k + 1, m + ga.ys.length, true, by omega, by go_num, by go_num, rfl, by omega, Lib.hid ⟨?_, ?_, ⟨_, setCell_block (setCell_block HM.out _ _) _ _, ?_⟩, ?_, ?_, ?_⟩⟩
            · rw [HFS.out, HGA.out, ← HM0.out, cnt, if_pos H5.out]
            · rw [HAS.out, HGA.out, H5.out]; simp
            · have := metaAt_list HMeta.out (by omega) (by rw [HGA.out]; exact H5.out) _ _ HU.out
              rw [HGA.out] at this
              exact this
            · exact (HB.out.setCell (Nat.le_refl _) _).setCell (Nat.le_refl _) _
            · rw [World.size_setCell, World.size_setCell]; exact HZ.out
            · intro i hi h
              by_cases e : i = k
              · subst e
                rw [HGA.out] at h
                exact hl0 (by rw [h.2]; rfl)
              · exact HNE.out i (by omega) h
          case measure => simp [intOf]; omega
        · refine (errNewI _ _).mono ?_
          intro e w2 he
          obtain ⟨t, x, rfl, hb2⟩ := he.out
          have HB2 := Lib.hid (((HB.out.setCell (p := ⟨w.heap.size, k * 3 + 2, none⟩) (Nat.le_refl _) (.int .i64 ga.ys.length)).setCell (p := ⟨w.heap.size, k * 3, none⟩) (Nat.le_refl _) (.slice a ga.ys.length c2)).trans (hb2.mono (by simp [World.setCell]; have := HZ.out; omega)))
          clear hb2
          go_wp2
          go_ret3
          exact inOk_none (spec_empty hkg (by rw [HGA.out]; exact ⟨H5.out, by have := ‹((ga.ys.length : Int) == 0) = true›; simp at this; exact List.eq_nil_of_length_eq_zero (by simpa using this)⟩)) ⟨_, _, rfl, HB2.out⟩
      · unfold ARec.handed at hh
        rw [if_neg h5] at hh
        have HU := Lib.hid hh
        rw [hh] at hcell
        have H5 := Lib.hid h5
        have hk4 : ga.x.k ≤ 4 := by omega
        have hk0 := hkk.1
        clear hh h5 hkk
        have HF := Lib.hid (show ga.x.fl = .nilIface ∨ ∃ a x, ga.x.fl = .iface a x from ifaceOf_form _ _ _)
        go_wp2_with fail
        refine (asSlice_flat _ _ hk0 hk4).mono ?_
        rintro e w' ⟨rfl, rfl⟩
        generalize ga.x.fl = u at HF HU hcell
        rcases HF.out with e | ⟨t', x', e⟩
        all_goals
          subst e
          clear HF
          go_wp2_with fail
          go_roundw
          case rel =>
            refine ⟨k + 1, m + 1, any, by omega, by go_num, by go_num, rfl, by omega, Lib.hid ⟨?_, ?_, ⟨_, setCell_block HM.out _ _, ?_⟩, ?_, ?_, ?_⟩⟩
            · rw [HFS.out, HGA.out, ← HM0.out, cnt, if_neg H5.out]
            · rw [HAS.out, HGA.out, ← HA0.out, show (ga.x.k == 5) = false by simpa using H5.out]; simp
            · have := metaAt_one HMeta.out (by omega) (by rw [HGA.out]; exact H5.out)
              rw [HU.out] at this
              exact this
            · exact HB.out.setCell (Nat.le_refl _) _
            · rw [World.size_setCell]; exact HZ.out
            · intro i hi h
              by_cases e : i = k
              · subst e
                rw [HGA.out] at h
                exact H5.out h.1
              · exact HNE.out i (by omega) h
          case measure => simp [intOf]; omega
    · obtain rfl : k = n := by omega
      obtain ⟨hm0, ha0, ⟨cs, hM, hMeta⟩, hbel, hsz, hne⟩ := HS.out
      have hany : gs.any isL = any := by
        rw [ha0]
        unfold anyL
        rw [List.take_of_length_le (by rw [HH.out.gsn]; omega)]
        rfl
      have HANY := Lib.hid hany
      have HM := Lib.hid hM
      have HMeta := Lib.hid hMeta
      have HB := Lib.hid hbel
      have HZ := Lib.hid hsz
      have HNE := Lib.hid hne
      clear hM hMeta hbel hsz hne hm0 ha0 hany
      cases any with
      | false =>
        go_wp2_with fail
        go_ret3
        refine inOk_some (spec_plain HANY.out) _ rfl ⟨A, c, by rw [List.length_map, HH.out.gsn]; rfl, fun i hi => ?_⟩ HB.out
        have hi2 : i < k := by rw [List.length_map, HH.out.gsn] at hi; exact hi
        obtain ⟨g, rfl, hg, hc⟩ := HH.out.row i hi2
        refine ⟨g, rfl, Nat.lt_of_lt_of_le hg HB.out.size, ((HB.out.cell (p := ⟨g, i, none⟩) hg).trans hc).trans ?_⟩
        have hh := HH.out.handed i hi2
        have hlt2 : i < gs.length := by rw [HH.out.gsn]; exact hi2
        have h5 : ¬ (gs.getD i a0).x.k = 5 := fun h5 => by
          have := List.any_eq_false.1 HANY.out gs[i] (List.getElem_mem hlt2)
          rw [List.getD_eq_getElem?_getD, List.getElem?_eq_getElem hlt2] at h5
          exact this (by unfold isL; simpa using h5)
        unfold ARec.handed at hh
        rw [if_neg h5] at hh
        rw [hh, List.getD_eq_getElem?_getD, List.getD_eq_getElem?_getD, List.getElem?_map]
        cases gs[i]? <;> rfl
      | true =>
        have hm32 : m ≤ 32000000 := by omega
        obtain ⟨i0, hi0, hz0, hz1, hz2⟩ := info_parts Tryd.infoIface
        go_wp2_with (at_make; refine wpList_make_own _ rfl _ _ 71 rfl w.heap.size 20 i0 .nilIface 1 Tryd.underlying71 hi0 hz0 hz1 .i64 .i64 _ m rfl rfl rfl (by rw [hz2]; omega) (by unfold maxLen; omega) (by have := HZ.out; omega) ?_; intro w2 hown2 hg2; refine Hid.out ?_)
        refine Lib.hid ?_
        have hb2 : w2.heap.size = w2.heap.size := rfl
        have h12 := hg2.size
        have HO2 := Lib.hid hown2
        have HB2 := Lib.hid (HB.out.grown hg2 (by have := HZ.out; omega) (fun g hg => by cases hg))
        have HM2 := Lib.hid ((hg2.block w.heap.size (by have := HZ.out; omega) (by simp)).trans HM.out)
        have hw2 : w.heap.size < w2.heap.size := by have := HZ.out; omega
        clear hown2 hg2 hb2 h12
        go_wp2_with fail
        refine (Tryd.Builder_Grow_fresh w2.heap.size w2.heap.size (q.size + 3 * m) _ (Nat.le_refl _) (heap_alloc_new w2 _) (by simp) (by omega)).mono ?_
        rintro e w3 ⟨rfl, hbd, hb3⟩
        have hsz3 := hb3.size
        simp only [World.size_alloc] at hsz3
        have HB3 := Lib.hid ((Below.refl w2.heap.size w2).alloc (Nat.le_refl _) _ |>.trans hb3)
        have HI : Hid (In2 q us gs k w w2.heap.size q 0 0 [] [] (.slice (some ⟨wr.heap.size, 0, none⟩) 0 m) w3) := by
          refine Lib.hid ⟨?_, ⟨cs, (HB3.out.block _ hw2).trans HM2.out, HMeta.out⟩, HO2.out.kept (grown_none HB3.out) (none_or _), Lib.IsBuilderF.of (.inr hbd), HB2.out.trans (HB3.out.mono (by omega)), hw2, by omega, by simp, by simp⟩
          simpa using done_start q.data.toList gs
        clear hbd hb3
        generalize hbb : w2.heap.size = b at HI hw2
        have HSP := Lib.hid (spec_lists (q := q.data.toList) (fun i hi h => HNE.out i (by rw [← HH.out.gsn]; exact hi) h) HANY.out)
        clear HB2 HM2 HO2 HB3 hsz3 HM HMeta HB HZ HS
        clear hbb
        go_wp2_with fail
        refine (x_idx q _ hq).mono ?_
        rintro e w' ⟨rfl, rfl⟩
        have hkk : 0 ≤ k := Nat.zero_le _
        go_wp2_with fail
        go_loopw [0, 15, 17, 18, 19] (fun q' v a o i wr => ∃ (s : ByteArray) (off ai : Nat) (l : List UInt8) (vs : List VRec) (v' : Value), v' = v ∧ q' = .string s ∧ a = .int .i64 ai ∧ o = .int .i64 off ∧ off ≤ s.size ∧ s.size ≤ q.size ∧ ai ≤ k ∧ i = .int .i64 (idxQ (s.data.toList.drop off) 0) ∧ Hid (In2 q us gs k w b s off ai l vs v wr)) (fun q' _ _ o _ _ => (strOfI q').size - (intOf o).toNat)
        case atStart => exact ⟨q, 0, 0, [], [], _, rfl, rfl, rfl, rfl, Nat.zero_le _, Nat.le_refl _, Nat.zero_le _, rfl, HI⟩
        case round =>
          obtain ⟨s, off, ai, l, vs, v, rfl, rfl, rfl, rfl, hoff, hsq, hai, rfl, HS⟩ := hrel
          have h00 : (0 : Int) ≤ off := by omega
          have h01 : (0 : Int) ≤ ai := by omega
          have h02 : (off : Int) ≤ s.size := by omega
          generalize hii : idxQ (s.data.toList.drop off) 0 = ii
          have HII := Lib.hid hii
          have hge := idxN_ge (s.data.toList.drop off) 0
          rw [hii] at hge
          clear hii
          by_cases hi1 : ii = -1
          · subst hi1
            obtain ⟨hb1, hb2, _, hs2⟩ := HS.out.2.2.2.2.2
            have hl1 : l.length + s.size ≤ 10000000000 := by omega
            go_wp2_with fail
            refine (Tryd.writeString b b (Lib.byteCells l) s _ HS.out.2.2.2.1 (by rw [Lib.byteCells_length]; omega) (by omega)).mono ?_
            rintro e w2 ⟨rfl, hat, hbw, hok⟩
            have HE := Lib.hid (in2_end HS.out hat hbw hok)
            clear hat hbw hok hb1 hs2
            by_cases hak : ai < k
            · have hki : (ai : Int) < k := by omega
              go_wp2_with fail
              refine (errNewI _ _).mono ?_
              intro e w2 he
              obtain ⟨t, x, rfl, hb2⟩ := he.out
              have HB2 := Lib.hid (HE.out.2.2.1.trans (hb2.mono HE.out.2.2.1.size))
              have HN := Lib.hid (end_few HS.out HII.out (by rw [HH.out.gsn]; exact hak))
              clear hb2
              go_wp2
              go_ret3
              exact inOk_none (HSP.out.trans HN.out) ⟨_, _, rfl, HB2.out⟩
            · obtain rfl : ai = k := by omega
              go_wp2_with fail
              refine (Tryd.Builder_String_any_k b b (l ++ s.data.toList) _ HE.out.1 (by have := HE.out.2.2.2.2; omega)).mono ?_
              rintro e w3 ⟨rfl, _, hbw, hok⟩
              have HR := Lib.hid (end_read HE.out hbw hok)
              have HN := Lib.hid (end_spec HS.out HII.out HH.out.gsn)
              clear hbw hok
              go_wp2
              go_ret3
              exact inOk_some (HSP.out.trans HN.out) _ rfl (rowOf_own HR.out.1) HR.out.2
          · obtain ⟨j, rfl⟩ : ∃ j : Nat, ii = j := ⟨ii.toNat, by omega⟩
            have hneg : ((j : Int) != -1) = true := by rw [bne_iff_ne]; omega
            clear hi1 hge
            obtain ⟨hj, _, _⟩ := idxN_some (s.data.toList.drop off) 0 j (by simpa using HII.out)
            rw [List.length_drop, size_list] at hj
            by_cases hak : ai < k
            · have hag : ai < gs.length := by rw [HH.out.gsn]; exact hak
              have hji : off + j < s.size := by omega
              have hki : (ai : Int) < k := by omega
              have hjj : (0 : Int) ≤ j := by omega
              have hsl := HS.out.2.2.2.2
              obtain ⟨hbe, hb1, hb2, _, _⟩ := hsl
              obtain ⟨cs2, hM, hMeta⟩ := HS.out.2.1
              have ent := hMeta.2.1 ai hak
              have e0 := (cell_of_row _ _ _ _ _ _ hM).trans ent.1
              have e1 := (cell_of_row _ _ _ _ _ _ hM).trans ent.2.1
              have e2 := (cell_of_row _ _ _ _ _ _ hM).trans ent.2.2
              have hh := HH.out.handed ai hak
              have hyl := HH.out.small ai hak
              clear hM hMeta ent
              generalize hga : gs.getD ai a0 = ga at hh hyl e0 e1 e2
              have HGA := Lib.hid hga
              have HBE := Lib.hid hbe
              clear hga hbe
              by_cases h5 : ga.x.k = 5
              · unfold mv at e0
                unfold mi at e1
                unfold ml at e2
                rw [if_pos h5] at e0 e1 e2
                unfold ARec.handed at hh
                rw [if_pos h5] at hh
                obtain ⟨sv, hu, ho⟩ := hh
                rw [hu] at e0
                have hlen0 : ¬ ga.ys.length = 0 := fun e => HNE.out ai hak (by rw [HGA.out]; exact ⟨h5, List.eq_nil_of_length_eq_zero e⟩)
                obtain ⟨g, c2, rfl, hg, hc⟩ := own_cells ho (by omega)
                have hl0 : ((ga.ys.length : Int) == 0) = false := by rw [beq_eq_false_iff_ne]; omega
                have HG := Lib.hid hg
                have HC := Lib.hid hc
                have H5 := Lib.hid h5
                clear hg hc h5 hu ho
                have hl1 : l.length + s.size ≤ 10000000000 := by have := HS.out.2.2.2.2.2.2.2.2; omega
                have hex : (s.extract 0 (off + j + 1)).size ≤ s.size := by rw [← size_list, cut_front, List.length_take, size_list]; omega
                have hylen : (ga.ys.length : Int) ≤ 1000000 := by omega
                go_wp2_with fail
                refine (Tryd.writeString b b (Lib.byteCells l) (s.extract 0 (off + j + 1)) _ (bld_alloc HS.out.2.2.2.1 _) (by rw [Lib.byteCells_length]; omega) (by simp; omega)).mono ?_
                rintro e w2 ⟨rfl, hat, hbw, hok⟩
                have H3 := in3_write (in3_start HS.out (.slice (some ⟨g, 0, none⟩) ga.ys.length c2) ga.ys.length) hat hbw hok
                rw [cut_front] at H3
                clear hat hbw hok
                generalize wr.heap.size = ab at H3
                have H3 := Lib.hid H3
                obtain ⟨d0, d1, d2⟩ := in3_cells H3.out
                go_wp2_with fail
                go_loopw [21] (fun i w' => ∃ c : Nat, i = .int .i64 (c + 1 : Nat) ∧ c + 1 ≤ ga.ys.length ∧ Hid (In3 us gs k w b ab (.slice (some ⟨g, 0, none⟩) ga.ys.length c2) ga.ys.length vs v (l ++ s.data.toList.take (off + j + 1) ++ Lib.repeatL [44, 32, 63] c) w')) (fun i _ => ga.ys.length - (intOf i).toNat)
                case atStart => exact ⟨0, rfl, by omega, by simpa [Lib.repeatL] using H3⟩
                case round =>
                  obtain ⟨c, rfl, hcl, H4⟩ := hrel
                  obtain ⟨d3, d4, d5⟩ := in3_cells H4.out
                  by_cases hlt : c + 1 < ga.ys.length
                  · have hci : ((c + 1 : Nat) : Int) < ga.ys.length := by omega
                    have hc0 : (0 : Int) ≤ ((c + 1 : Nat) : Int) := by omega
                    go_wp2_with fail
                    refine (Tryd.writeString b b (Lib.byteCells (l ++ s.data.toList.take (off + j + 1) ++ Lib.repeatL [44, 32, 63] c)) _ _ H4.out.1 (by rw [show (⟨#[44, 32, 63]⟩ : ByteArray).size = 3 from rfl, Lib.byteCells_length]; simp [Lib.repeatL_length]; omega) (by have := H4.out.2.2.2.2.2.2; omega)).mono ?_
                    rintro e w3 ⟨rfl, hat, hbw, hok⟩
                    have H5' := in3_write H4.out hat hbw hok
                    clear hat hbw hok
                    rw [List.append_assoc] at H5'
                    have H5' := Lib.hid H5'
                    go_wp2_with fail
                    go_roundw
                    case rel => exact ⟨c + 1, by go_num, by omega, Lib.hid (by rw [repeat_back]; exact H5'.out)⟩
                    case measure => simp [intOf]; omega
                  · have hci : ¬ ((c + 1 : Nat) : Int) < ga.ys.length := by omega
                    obtain rfl : c = ga.ys.length - 1 := by omega
                    have hvl := HS.out.2.2.2.2.2.2.2.1
                    go_wp2_with fail
                    refine (appendRef w.heap.size vs.length ga.ys.length g c2 _ v (vs.map VRec.fl) (ga.ys.map VRec.fl) _ H4.out.2.2.2.1 (by simp) (below_cells H4.out.2.2.2.2.1 HG.out HC.out) (fls_one _) (by omega) H4.out.2.2.2.2.1.size).mono ?_
                    intro e w3 he
                    obtain ⟨v2, rfl, hown2, hg2⟩ := he.out
                    have HS2 : Hid (In2 q us gs k w b (s.extract (off + j + 1) s.size) 0 (ai + 1) (l ++ s.data.toList.take (off + j + 1) ++ Lib.repeatL [44, 32, 63] (ga.ys.length - 1)) (vs ++ ga.ys) v2 w3) := by
                      have := H4.out
                      have hys := HGA.out
                      subst hys
                      exact Lib.hid (in2_list HS.out HII.out hag hji H5.out hyl this.2.2.1 this.2.2.2.1 this.1 this.2.2.2.2.1 this.2.2.2.2.2.2 hown2 hg2)
                    clear he hown2 hg2 hvl
                    have hcs := cut_end_size s (off + j + 1)
                    have hcl : ((s.extract (off + j + 1) s.size).extract 0 (s.size - (off + j + 1))).data.toList = (s.extract (off + j + 1) s.size).data.toList.drop 0 := by
                      rw [cut_front, List.drop_zero, List.take_of_length_le (by rw [size_list, hcs]; omega)]
                    go_wp2_with fail
                    refine (x_idx _ _ (by rw [← size_list, hcl, List.drop_zero, size_list, hcs]; omega)).mono ?_
                    rintro e w' ⟨rfl, rfl⟩
                    rw [hcl]
                    go_wp2_with fail
                    go_roundw
                    case rel => exact ⟨_, 0, ai + 1, _, vs ++ ga.ys, _, rfl, rfl, by go_num, rfl, Nat.zero_le _, by rw [hcs]; omega, by omega, by rw [List.drop_zero, cut_end, List.take_of_length_le (by rw [List.length_drop, size_list]; omega)], HS2⟩
                    case measure => simp [intOf, strOfI, hcs]; omega
              · unfold mv at e0
                unfold mi at e1
                unfold ml at e2
                rw [if_neg h5] at e0 e1 e2
                unfold ARec.handed at hh
                rw [if_neg h5] at hh
                rw [hh] at e1
                have H5 := Lib.hid h5
                have HF := Lib.hid (show ga.x.fl = .nilIface ∨ ∃ a x, ga.x.fl = .iface a x from ifaceOf_form _ _ _)
                generalize hfl : ga.x.fl = u at HF e1
                have HFL := Lib.hid hfl
                have HO := Lib.hid HS.out.2.2.1
                clear hh hfl h5
                have HU1 : Hid (∀ z ∈ [u], z.oneCell' = true) := Lib.hid fun z hz => by
                  simp at hz
                  subst hz
                  rcases HF.out with e | ⟨t', x', e⟩ <;> rw [e] <;> rfl
                rcases HF.out with e | ⟨t', x', e⟩
                all_goals
                  subst e
                  clear HF
                  go_wp2_with (at_builtin; refine Hid.out ?_)
                  refine Lib.hid ?_
                  refine wpList_append_own_at _ rfl _ _ 71 rfl w.heap.size 20 i0 .nilIface 1 16 Tryd.underlying71 hi0 hz0 hz1 hz2 rfl (by decide) _ vs.length (vs.map VRec.fl) rfl ((HO.out.alloc _).alloc _) ⟨wr.heap.size + 1, 0, none⟩ 1 1 [_] rfl rfl (cell_one_next _ _ _ _) HU1.out (by unfold maxLen; have := HS.out.2.2.2.2.2.2.2.1; omega) (by have := HS.out.2.2.2.2.2.2.2.1; omega) (by simp; omega) ?_
                  intro v2 w4 hown4 hg4 _ hat4
                  have HS2 := Lib.hid (in2_one HS.out HII.out hag hji (by rw [HGA.out]; exact H5.out) (grown_two _ _ _) (by rw [HGA.out, HFL.out]; exact hown4) hg4)
                  clear hown4 hg4 hat4
                  go_wp2_with fail
                  refine (x_idx (s.extract (off + j + 1) s.size) _ (by rw [cut_end_size]; omega)).mono ?_
                  rintro e w' ⟨rfl, rfl⟩
                  rw [cut_end]
                  go_wp2_with fail
                  go_roundw
                  case rel => exact ⟨s, off + j + 1, ai + 1, l, vs ++ [(gs.getD ai a0).x], _, rfl, rfl, by go_num, by go_num, by omega, hsq, by omega, rfl, HS2⟩
                  case measure => simp [intOf, strOfI]; omega
            · obtain rfl : ai = k := by omega
              go_wp2_with fail
              refine (errNewI _ _).mono ?_
              intro e w2 he
              obtain ⟨t, x, rfl, hb2⟩ := he.out
              have HB2 := Lib.hid (HS.out.2.2.2.2.1.trans (hb2.mono HS.out.2.2.2.2.1.size))
              have hgd : gs.drop ai = [] := List.drop_of_length_le (by rw [HH.out.gsn]; omega)
              have HN : Hid (ex q.data.toList gs = none) := Lib.hid (done_many (by have := HS.out.1; rw [hgd] at this; exact this) HII.out)
              clear hb2 hgd
              go_wp2
              go_ret3
              exact inOk_none (HSP.out.trans HN.out) ⟨_, _, rfl, HB2.out⟩
end Go.Proofs.YtpjadgdimkdblaaDoor
