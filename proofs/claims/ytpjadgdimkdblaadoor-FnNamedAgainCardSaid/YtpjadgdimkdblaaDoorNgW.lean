/- FnNamedAgain walked: it answers true whatever the name, the value and the number are, and only makes new memory. -/
import Derived.Test.YtpjadgdimkdblaaDoorNgV
import Derived.OpenShut
namespace Go.Proofs.YtpjadgdimkdblaaDoor
open Go.RowKit
set_option linter.unusedVariables false

theorem nxB {w0 w w1 : World} (h : Below w0.heap.size w0 w) (hb : Below w.heap.size w w1) : Below w0.heap.size w0 w1 := h.trans (hb.mono h.size)
theorem lies_of_new5 (w : World) (nm : ByteArray) (x : VRec) {ys : List VRec} : NRec.lies (w.alloc (.cells #[.string nm, .int .i64 x.k, .int .i64 x.n, .string x.t, .slice x.A x.m x.c] 39)) w.heap.size (0 + 0 * 5) ⟨nm, ⟨x, ys⟩⟩ := by
  have k : ∀ r u, (#[Value.string nm, .int .i64 x.k, .int .i64 x.n, .string x.t, .slice x.A x.m x.c] : Array Value)[r]? = some u → (w.alloc (.cells #[.string nm, .int .i64 x.k, .int .i64 x.n, .string x.t, .slice x.A x.m x.c] 39)).cell? ⟨w.heap.size, r, none⟩ = some u := fun r u h => (cell_of_row _ _ _ _ _ _ (heap_alloc_new w _)).trans h
  exact ⟨k 0 _ rfl, k 1 _ rfl, k 2 _ rfl, k 3 _ rfl, k 4 _ rfl⟩
theorem found_many {nm : ByteArray} (h : NameOk nm) (a : ARec) (k : Nat) (hk : k ≤ 30) (q : ByteArray) (hq : q.data.toList = manyT nm.data.toList k) (us : List Value) (hl : us.length = ([⟨nm, a⟩] : List NRec).length) (hf : ∀ i, i < ([⟨nm, a⟩] : List NRec).length → oneForm (us.getD i .nilIface)) :
    Found 1 q (marksT k) (List.replicate k nm.data.toList) (pairs [⟨nm, a⟩] us) (List.replicate k (us.getD 0 .nilIface)) := by
  have h30 := h.2.2.2
  have hg : ∀ i, i < k → (List.replicate k nm.data.toList).getD i [] = nm.data.toList := fun i hi => by
    rw [List.getD_eq_getElem?_getD, List.getElem?_replicate, if_pos hi]
    rfl
  have hu2 : ∀ i, i < k → (List.replicate k (us.getD 0 .nilIface)).getD i .nilIface = us.getD 0 .nilIface := fun i hi => by
    rw [List.getD_eq_getElem?_getD, List.getElem?_replicate, if_pos hi]
    rfl
  refine ⟨?_, by simp, by simp; omega, fun i hi => ?_, fun i hi => ?_, fun i hi => ?_⟩
  · rw [hq, many_cn h]
    simp
  · rw [hg i (by simpa using hi), size_list]
    unfold maxLen
    omega
  · rw [hg i (by simpa using hi), hu2 i (by simpa using hi)]
    match us, hl with
    | [u], _ =>
      simp [pairs, lookN]
  · rw [hu2 i (by simpa using hi)]
    exact hf 0 (by simp)
set_option maxHeartbeats 4000000 in
set_option maxRecDepth 100000 in
theorem namedAgain_any (nm : ByteArray) (a : ARec) (m : Int) (w : World) (hp : Pow10 w) (hnm : nm.size ≤ maxLen) (hl : a.lain w) (hz : a.x.t.size ≤ maxLen ∧ (Lit.int .i64 a.x.n).wf = true) (hm8 : (Lit.int .u8 m).wf = true) :
    Calls Tryd.prog 6 #[.string nm, a.x.agg, .int .u8 m] w fun e w' => e = .returned (.bool true) ∧ Below w.heap.size w w' := by
  have HP := Lib.hid hp
  have HL := Lib.hid hl
  have HZ := Lib.hid hz
  have HNM0 := Lib.hid hnm
  unfold maxLen at hnm
  clear hp hl hz
  have hbd := Go.bounds_u8 hm8
  unfold VRec.agg
  rcases Nat.lt_or_ge 2147483647 nm.size with h | h
  · have hsn : (2147483647 : Int) < nm.size := by omega
    go_enter Tryd.func6, Tryd.ntmps6
    go_wp2_with fail
    go_ret
    exact ⟨rfl, (Below.refl _ _).alloc (Nat.le_refl _) _⟩
  · have hsn : ¬ (2147483647 : Int) < nm.size := by omega
    go_enter Tryd.func6, Tryd.ntmps6
    go_wp2_with fail
    refine (fits4_any a.x _ HZ.out.1 (by have := HL.out.1; have := HL.out.2.1; omega)).mono ?_
    rintro e w1 ⟨r, rfl, hb1⟩
    have HW1 := Lib.hid (((Below.refl w.heap.size w).alloc (Nat.le_refl _) _).trans (hb1.mono (by simp)))
    have hc0 := hb1.cell (p := ⟨w.heap.size, 0, none⟩) (by simp)
    have hc1 := hb1.cell (p := ⟨w.heap.size, 1, none⟩) (by simp)
    have hc2 := hb1.cell (p := ⟨w.heap.size, 2, none⟩) (by simp)
    have hc3 := hb1.cell (p := ⟨w.heap.size, 3, none⟩) (by simp)
    have HS1 := Lib.hid (Nat.lt_of_lt_of_le (show w.heap.size < _ by simp) hb1.size)
    clear hb1
    cases r with
    | false =>
      go_wp2
      go_ret
      exact ⟨rfl, HW1.out⟩
    | true =>
    go_wp2_with fail
    refine (named_any nm HNM0.out w1).mono ?_
    rintro e w' ⟨r, rfl, hr, rfl⟩
    cases r with
    | false =>
      clear hr
      go_wp2
      go_ret
      exact ⟨rfl, HW1.out⟩
    | true =>
    have HNM := Lib.hid (hr rfl)
    have hn30 := (hr rfl).2.2.2
    clear hr
    go_wp2_with fail
    refine (right_any a w1 (lain_below HL.out HW1.out)).mono ?_
    rintro e w2 ⟨r, rfl, hr, hb2⟩
    have HW2 := Lib.hid (nxB HW1.out hb2)
    have HR := Lib.hid hr
    have d0 := (hb2.cell (p := ⟨w.heap.size, 0, none⟩) HS1.out).trans hc0
    have d1 := (hb2.cell (p := ⟨w.heap.size, 1, none⟩) HS1.out).trans hc1
    have d2 := (hb2.cell (p := ⟨w.heap.size, 2, none⟩) HS1.out).trans hc2
    have d3 := (hb2.cell (p := ⟨w.heap.size, 3, none⟩) HS1.out).trans hc3
    have HS2 := Lib.hid (Nat.lt_of_lt_of_le HS1.out hb2.size)
    clear hb2 hr hc0 hc1 hc2 hc3
    cases r with
    | false =>
      go_wp2
      go_ret
      exact ⟨rfl, HW2.out⟩
    | true =>
    have HRR := Lib.hid (HR.out rfl)
    clear HR
    by_cases h30 : (30 : Int) < m
    · go_wp2_with fail
      go_ret
      exact ⟨rfl, HW2.out⟩
    go_wp2_with fail
    go_loop [7, 8, 34] (fun q t i => ∃ (k : Nat) (s1 s2 : ByteArray), (k : Int) ≤ m ∧ q = .string s1 ∧ t = .string s2 ∧ i = .int .u8 k ∧ Hid (s1.data.toList = manyT nm.data.toList k ∧ s2.data.toList = marksT k)) (fun _ _ i => (m - intOf i).toNat)
    case atStart => exact ⟨0, ⟨#[]⟩, ⟨#[]⟩, by omega, rfl, rfl, rfl, Lib.hid ⟨rfl, rfl⟩⟩
    case round =>
      obtain ⟨k, s1, s2, hk, rfl, rfl, rfl, HK⟩ := hrel
      have hz1 : s1.size ≤ 960 := by
        rw [← size_list, HK.out.1, many_len, size_list]
        have h1 : k * (nm.size + 2) ≤ 30 * (nm.size + 2) := Nat.mul_le_mul_right _ (by omega)
        omega
      have hz2 : s2.size ≤ 60 := by
        rw [← size_list, HK.out.2, marks_len]
        omega
      by_cases hlt : (k : Int) < m
      · go_wp2_with fail
        go_round
        case rel =>
          refine ⟨k + 1, _, _, by omega, rfl, rfl, by go_num, Lib.hid ⟨?_, ?_⟩⟩
          · rw [← many_snoc, ← HK.out.1]
            simp
          · rw [← marks_snoc, ← HK.out.2]
            simp
        case measure => simp [intOf]; omega
      · obtain rfl : (k : Int) = m := by omega
        go_wp2_with fail
        have HFD := Lib.hid (fun us hl hf => found_many HNM.out a k (by omega) s1 HK.out.1 us hl hf)
        have hgl := lain_below (lain_below HL.out HW2.out) ((Below.refl w2.heap.size w2).alloc (Nat.le_refl _) (.cells #[.string nm, .int .i64 a.x.k, .int .i64 a.x.n, .string a.x.t, .slice a.x.A a.x.m a.x.c] 39))
        have HNO := Lib.hid (show NamesOk (w2.alloc (.cells #[.string nm, .int .i64 a.x.k, .int .i64 a.x.n, .string a.x.t, .slice a.x.A a.x.m a.x.c] 39)) (some ⟨w2.heap.size, 0, none⟩) [⟨nm, a⟩] from
          ⟨by simp, .inr ⟨w2.heap.size, 0, rfl, by simp, fun i hi => by
            obtain rfl : i = 0 := by simp at hi; omega
            exact lies_of_new5 w2 nm a.x⟩, fun i hi => by
            obtain rfl : i = 0 := by simp at hi; omega
            exact okOfRight HRR.out hgl, fun i j hij hj => by simp at hj; omega, fun i hi => by
            obtain rfl : i = 0 := by simp at hi; omega
            exact HNM0.out⟩)
        refine (named_map s1 _ 1 [⟨nm, a⟩] (marksT k) _ _ (ManyBack _ a k) _ (many_ok HNM.out (by omega) HK.out.1) (pow10_below HP.out (HW2.out.alloc HW2.out.size _)) HNO.out HFD.out (says_many nm a k _ (by omega) (taken_of_right HRR.out))).mono ?_
        rintro e w3 ⟨x, rfl, hmb, hb3⟩
        have HW3 := Lib.hid (nxB (HW2.out.alloc HW2.out.size _) hb3)
        obtain ⟨rs, hrl, hro, hrb⟩ := hmb
        have HRB := Lib.hid hrb
        have HRO := Lib.hid hro
        have HRL := Lib.hid hrl
        obtain ⟨A2, c2, rfl⟩ := ownsRow_form hro
        have g2 : w.heap.size < (w2.alloc (.cells #[.string nm, .int .i64 a.x.k, .int .i64 a.x.n, .string a.x.t, .slice a.x.A a.x.m a.x.c] 39)).heap.size := by have := HS2.out; simp; omega
        have f0 := (hb3.cell (p := ⟨w.heap.size, 0, none⟩) g2).trans ((World.cell?_alloc_past _ _ _ HS2.out).trans d0)
        have f1 := (hb3.cell (p := ⟨w.heap.size, 1, none⟩) g2).trans ((World.cell?_alloc_past _ _ _ HS2.out).trans d1)
        have f2 := (hb3.cell (p := ⟨w.heap.size, 2, none⟩) g2).trans ((World.cell?_alloc_past _ _ _ HS2.out).trans d2)
        have f3 := (hb3.cell (p := ⟨w.heap.size, 3, none⟩) g2).trans ((World.cell?_alloc_past _ _ _ HS2.out).trans d3)
        have HS3 := Lib.hid (Nat.lt_of_lt_of_le g2 hb3.size)
        clear hb3 hrb hro hrl g2 d0 d1 d2 d3
        have e2 : (⟨(marksT k).toArray⟩ : ByteArray) = s2 := ext_list HK.out.2.symm
        rw [e2]
        clear e2
        have hkk : ((k : Int) != k) = false := by simp
        obtain ⟨A3, c3, hv3, hla⟩ := listAt_own HRO.out HRL.out
        obtain ⟨rfl, _, rfl⟩ : A2 = A3 ∧ True ∧ c2 = c3 := by simpa using hv3
        have HLA := Lib.hid hla
        have hgl3 := lain_below HL.out HW3.out
        have HBK := Lib.hid (fun (j : Nat) (r : VRec) (hr : rs[j]? = some r) (wx : World) (hbx : Below w3.heap.size w3 wx) => And.intro (backOf_grown (HRB.out j r hr) (grown_none hbx) (none_or _)) (lain_below hgl3 hbx))
        clear hla hv3 hgl3
        go_wp2_with fail
        go_loopw [70] (fun i wi => ∃ j : Nat, j ≤ k ∧ i = .int .i64 j ∧ Hid (Below w3.heap.size w3 wi)) (fun i _ => k - (intOf i).toNat)
        case atStart => exact ⟨0, Nat.zero_le _, rfl, Lib.hid (Below.refl _ _)⟩
        case round =>
          obtain ⟨j, hj, rfl, HB⟩ := hrel
          have h0j : (0 : Int) ≤ j := by omega
          by_cases hjk : j < k
          · have hjn : (j : Int) < k := by omega
            have hne : rs ≠ [] := fun e => by have := HRL.out; rw [e] at this; simp at this; omega
            obtain ⟨b, off, rfl, hb, hll⟩ := HLA.out.resolve_left hne
            have hgr : rs[j]? = some (rs.getD j z0) := by
              rw [List.getD_eq_getElem?_getD, List.getElem?_eq_getElem (by rw [HRL.out]; exact hjk)]
              rfl
            obtain ⟨c0, c1, c2, c3⟩ := lies_below (hll j (by rw [HRL.out]; exact hjk)) HB.out hb
            have HEQ := Lib.hid (HBK.out j _ hgr)
            generalize rs.getD j z0 = r at c0 c1 c2 c3 HEQ
            have g0 := (HB.out.cell (p := ⟨w.heap.size, 0, none⟩) HS3.out).trans f0
            have g1 := (HB.out.cell (p := ⟨w.heap.size, 1, none⟩) HS3.out).trans f1
            have g2 := (HB.out.cell (p := ⟨w.heap.size, 2, none⟩) HS3.out).trans f2
            have g3 := (HB.out.cell (p := ⟨w.heap.size, 3, none⟩) HS3.out).trans f3
            have hsz := HB.out.size
            clear hgr hll hne hb
            go_wp2_with fail
            go_region_with (go_at_call 20; refine (equal_arec _ a r _ (HEQ.out _ (by first | exact HB.out | exact HB.out.drew)).1 HRR.out (HEQ.out _ (by first | exact HB.out | exact HB.out.drew)).2).mono ?_; rintro e w4 ⟨rfl, hb1⟩)
            all_goals
              have HB2 := Lib.hid (HB.out.drew.trans (hb1.mono hsz))
              clear hb1
              go_wp2
              go_roundw
              case rel => exact ⟨j + 1, by omega, by go_num, HB2⟩
              case measure => simp [intOf]; omega
          · obtain rfl : j = k := by omega
            go_wp2
            go_ret
            exact ⟨rfl, nxB HW3.out HB.out⟩
end Go.Proofs.YtpjadgdimkdblaaDoor
