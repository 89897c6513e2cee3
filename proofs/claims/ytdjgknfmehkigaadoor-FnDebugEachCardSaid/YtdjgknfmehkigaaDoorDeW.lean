/- FnDebugEach walked: it answers true whatever the texts and the arguments are, and only makes new memory. -/
import Derived.Test.YtdjgknfmehkigaaDoorDebug
import Derived.Test.YtdjgknfmehkigaaDoorBetD
import Derived.Test.YtdjgknfmehkigaaDoorRbC
namespace Go.Proofs.YtdjgknfmehkigaaDoor
open Go.RowKit
set_option linter.unusedVariables false

/-- The texts from a place on, with what stands ahead of each. -/
def rt (f : Nat → ByteArray) (ss : List ByteArray) : Nat → Nat → List UInt8
  | 0, _ => []
  | c + 1, j => (f j).data.toList ++ ((ss.getD j ByteArray.empty).data.toList ++ rt f ss c (j + 1))
theorem bet_rt (f : Nat → ByteArray) (ss : List ByteArray) : ∀ c k, 0 < k → (betS f ss (k + c)).data.toList = (betS f ss k).data.toList ++ rt f ss c k
  | 0, k, _ => by rw [rt, List.append_nil]; rfl
  | c + 1, k, hk => by
    have ih := bet_rt f ss c (k + 1) (by omega)
    rw [show k + (c + 1) = k + 1 + c by omega, ih, bet_list f ss k (by omega), rt]
    simp only [List.append_assoc]
theorem dbg_rt (ss : List ByteArray) (xs : List VRec) : ∀ c j (x : List UInt8), no63l x → 0 < j → xs.length = j - 1 + c → (∀ i, j ≤ i → i < j + c → bare1 (ss.getD i ByteArray.empty)) → (∀ i, j ≤ i → i + 1 < j + c → (ss.getD i ByteArray.empty).size ≠ 0) →
    Dbg (x ++ rt qf ss c j) ((xs.drop (j - 1)).map shownB) (x ++ rt (qd xs) ss c j)
  | 0, j, x, hx, hj, hl, _, _ => by
    rw [rt, rt, List.append_nil, List.drop_of_length_le (by omega)]
    exact Dbg.fin x hx
  | c + 1, j, x, hx, hj, hl, hb, hf => by
    have hbj := hb j (by omega) (by omega)
    have hlt : j - 1 < xs.length := by omega
    have ih := dbg_rt ss xs c (j + 1) (ss.getD j ByteArray.empty).data.toList (free63 hbj) (by omega) (by omega) (fun i h1 h2 => hb i (by omega) (by omega)) (fun i h1 h2 => hf i (by omega) (by omega))
    rw [show j + 1 - 1 = j by omega] at ih
    rw [List.drop_eq_getElem_cons hlt, List.map_cons, show j - 1 + 1 = j by omega, rt, rt]
    have hg : xs.getD (j - 1) z0 = xs[j - 1] := by rw [List.getD_eq_getElem?_getD, List.getElem?_eq_getElem hlt]; rfl
    have e2 : (qd xs j).data.toList = 39 :: ((shownB xs[j - 1]).data.toList ++ [39]) := by
      unfold qd
      rw [app_list, app_list, hg]
      rfl
    have hh : ((ss.getD j ByteArray.empty).data.toList ++ rt qf ss c (j + 1)).head? ≠ some 63 := by
      cases hy : (ss.getD j ByteArray.empty).data.toList with
      | cons y l =>
        rw [List.cons_append, List.head?_cons]
        intro e
        have := Option.some.inj e
        subst this
        exact free63 hbj 63 (by rw [hy]; simp) (by decide)
      | nil =>
        have hc0 : c = 0 := by
          rcases Nat.eq_zero_or_pos c with h | h
          · exact h
          · exact absurd (by rw [← size_list, hy]; rfl) (hf j (by omega) (by omega))
        subst hc0
        simp [rt]
    have h := Dbg.arg x _ (shownB xs[j - 1]) _ _ hx hh ih
    rw [e2, show (qf j).data.toList = [63] from rfl]
    have a1 : x ++ ([63] ++ ((ss.getD j ByteArray.empty).data.toList ++ rt qf ss c (j + 1))) = x ++ 63 :: ((ss.getD j ByteArray.empty).data.toList ++ rt qf ss c (j + 1)) := rfl
    have a2 : x ++ (39 :: ((shownB xs[j - 1]).data.toList ++ [39]) ++ ((ss.getD j ByteArray.empty).data.toList ++ rt (qd xs) ss c (j + 1))) = x ++ 39 :: ((shownB xs[j - 1]).data.toList ++ 39 :: ((ss.getD j ByteArray.empty).data.toList ++ rt (qd xs) ss c (j + 1))) := by simp
    rw [a1, a2]
    exact h
theorem dbg_bet (ss : List ByteArray) (xs : List VRec) (n : Nat) (hn : ss.length = n) (h0 : 0 < n) (hl : xs.length = n - 1) (hb : ∀ i, i < n → bare1 (ss.getD i ByteArray.empty)) (hf : fullP ss) :
    Dbg (betS qf ss n).data.toList (xs.map shownB) (betS (qd xs) ss n).data.toList := by
  obtain ⟨c, rfl⟩ : ∃ c, n = 1 + c := ⟨n - 1, by omega⟩
  have e1 : ∀ f, (betS f ss 1).data.toList = (ss.getD 0 ByteArray.empty).data.toList := fun f => by rw [show (1 : Nat) = 0 + 1 from rfl, betS_one, app_list]; rfl
  rw [bet_rt qf ss c 1 (by omega), bet_rt (qd xs) ss c 1 (by omega), e1, e1]
  have h := dbg_rt ss xs c 1 _ (free63 (hb 0 (by omega))) (by omega) (by omega) (fun i h1 h2 => hb i h2) (fun i h1 h2 => hf i h1 (by omega))
  exact h
theorem bet_size2 (f : Nat → ByteArray) (ss : List ByteArray) (N : Nat) (hf : ∀ k, 0 < k → k < N → (f k).size ≤ 202) : ∀ k, k ≤ N → (∀ i, i < k → (ss.getD i ByteArray.empty).size ≤ 100) → (betS f ss k).size ≤ 400 * k
  | 0, _, _ => (by decide : (0 : Nat) ≤ 0)
  | k + 1, hk, h => by
    have ih := bet_size2 f ss N hf k (by omega) (fun i hi => h i (by omega))
    have h1 := h k (by omega)
    by_cases h0 : k = 0
    · rw [betS, if_pos h0, ByteArray.size_append']
      omega
    · have h2 := hf k (by omega) (by omega)
      rw [betS_succ f ss k h0, ByteArray.size_append', ByteArray.size_append']
      omega
theorem debug_bet (ss : List ByteArray) (n : Nat) (A1 : Option Addr) (n1 c1 : Nat) (xs : List VRec) (w : World) (hn : ss.length = n) (h0 : 0 < n) (hm : n ≤ 20) (hn1 : xs.length = n1) (hl : n1 + 1 = n) (hb : ∀ i, i < n → bare1 (ss.getD i ByteArray.empty)) (hf : fullP ss) (hla : ListAt w A1 xs) (hsp : Spoken xs) (hp : Pow10 w) :
    Calls Tryd.prog 24 #[.string (betS qf ss n), .slice A1 n1 c1] w fun e w' => e = .returned (.string (betS (qd xs) ss n)) ∧ Below w.heap.size w w' := by
  have h3 := bet_size qf ss (fun _ _ => (by decide : 1 ≤ 12)) n hm (fun i hi => (hb i hi).1)
  have h4 := bet_size2 (qd xs) ss n (fun k h1 h2 => qd_size hsp (by omega)) n (Nat.le_refl _) (fun i hi => (hb i hi).1)
  refine (debug_any (betS qf ss n) A1 n1 c1 xs (betS (qd xs) ss n).data.toList w hn1 (by omega) hla (by omega) (by rw [size_list]; omega) (dbg_bet ss xs n hn h0 (by omega) hb hf) (fun i hi => ⟨(hsp i hi).1.1, fun _ => (hsp i hi).2⟩) hp).mono ?_
  rintro e w' ⟨rfl, hb⟩
  exact ⟨rfl, hb⟩
set_option maxHeartbeats 8000000 in
set_option maxRecDepth 100000 in
theorem debugEach_any (A : Option Addr) (n c : Nat) (ss : List ByteArray) (A1 : Option Addr) (n1 c1 : Nat) (xs : List VRec) (w : World) (hp : Pow10 w) (hn : ss.length = n) (hm : n ≤ maxLen) (hx : StrsAt w A ss) (hz : ∀ i, i < n → (ss.getD i ByteArray.empty).size ≤ maxLen)
    (hn1 : xs.length = n1) (hm1 : n1 ≤ maxLen) (hq1 : A1 = none → c1 = 0) (hx1 : ListAt w A1 xs) (hwf : ∀ i, i < n1 → (Lit.int .i64 (xs.getD i z0).n).wf = true) :
    Calls Tryd.prog 8 #[.slice A n c, .slice A1 n1 c1] w fun e w' => e = .returned (.bool true) ∧ Below w.heap.size w w' := by
  have HWB := Lib.hid ((Below.refl w.heap.size w).alloc (Nat.le_refl _) (.cells #[.slice A1 n1 c1] 39))
  have hbx := box_cell w (.slice A1 n1 c1) 39
  have HX := Lib.hid (strsAt_below hx HWB.out)
  have HX1 := Lib.hid (listAt_below hx1 HWB.out)
  have HP := Lib.hid (pow10_below hp HWB.out)
  have HN := Lib.hid hn
  have HZ := Lib.hid hz
  have HN1 := Lib.hid hn1
  have HWF := Lib.hid hwf
  have hm2 := hm
  unfold maxLen at hm2
  have hm12 := hm1
  unfold maxLen at hm12
  have HM := Lib.hid hm
  clear hx hn hz hm hn1 hq1 hx1 hwf hp
  go_enter Tryd.func8, Tryd.ntmps8
  go_wp2_with fail
  generalize w.alloc (.cells #[.slice A1 n1 c1] 39) = wB at HWB hbx HX HX1 HP ⊢
  generalize w.heap.size = b0 at hbx ⊢
  refine (fits2_any A n c ss wB HN.out HM.out HX.out).mono ?_
  rintro e w' ⟨r, rfl, hr, rfl⟩
  cases r with
  | false =>
    go_wp2
    go_ret
    exact ⟨rfl, HWB.out⟩
  | true =>
  clear hr
  by_cases hbig : (2147483647 : Int) < n1
  · go_wp2_with fail
    go_ret
    exact ⟨rfl, HWB.out⟩
  go_wp2_with fail
  refine (bare_at A n c ss _ HN.out HM.out HX.out HZ.out).mono ?_
  rintro e w' ⟨rfl, rfl⟩
  cases hB : bareB ss with
  | false =>
    go_wp2
    go_ret
    exact ⟨rfl, HWB.out⟩
  | true =>
  have HBB := Lib.hid (bareB_iff.1 hB)
  have hn20 : n ≤ 20 := by rw [← HN.out]; exact HBB.out.2
  have HBR := Lib.hid (show ∀ i, i < n → bare1 (ss.getD i ByteArray.empty) from fun i hi => HBB.out.1 i (by rw [HN.out]; exact hi))
  have HSZ := Lib.hid (show ∀ i, i < n → (ss.getD i ByteArray.empty).size ≤ 100 from fun i hi => (HBR.out i hi).1)
  clear hB HBB
  go_wp2_with fail
  refine (full_at A n c ss _ HN.out hn20 HX.out).mono ?_
  rintro e w' ⟨rfl, rfl⟩
  cases hF : fullB ss with
  | false =>
    go_wp2
    go_ret
    exact ⟨rfl, HWB.out⟩
  | true =>
  have HF := Lib.hid (fullB_iff.1 hF)
  clear hF
  by_cases hn0 : n = 0
  · have hn0i : ((n : Int) == 0) = true := by rw [hn0]; rfl
    clear hn0
    go_wp2_with fail
    go_ret
    exact ⟨rfl, HWB.out⟩
  have hn0i : ((n : Int) == 0) = false := by rw [beq_eq_false_iff_ne]; omega
  by_cases hnn : n1 + 1 = n
  · have hnni : ((n1 : Int) != (n : Int) - 1) = false := by rw [bne_eq_false_iff_eq]; omega
    have HNN := Lib.hid hnn
    have HN0 := Lib.hid hn0
    clear hnn hn0
    go_wp2_with fail
    refine (single_any A1 n1 c1 xs wB HN1.out (by omega) HX1.out).mono ?_
    rintro e w2 ⟨r, rfl, hr, hb2⟩
    have HW2 := Lib.hid (HWB.out.trans (hb2.mono HWB.out.size))
    have hbx2 := (hb2.cell (p := ⟨b0, 0, none⟩) (World.block_lt_of_cell? wB _ hbx)).trans hbx
    have HX2 := Lib.hid (strsAt_below HX.out hb2)
    have HX12 := Lib.hid (listAt_below HX1.out hb2)
    have HP2 := Lib.hid (pow10_below HP.out hb2)
    clear hb2 hbx HX HX1 HP HWB
    cases r with
    | false =>
      go_wp2_with fail
      go_ret
      exact ⟨rfl, HW2.out⟩
    | true =>
    have HSP := Lib.hid (show Spoken xs from fun i hi => ⟨(hr rfl).2 i hi, by have := Go.bounds_i64 (HWF.out i (by rw [← HN1.out]; exact hi)); omega⟩)
    clear hr
    have HCL := Lib.hid (fun (wx : World) (h : Below w2.heap.size w2 wx) => (h.cell (p := ⟨b0, 0, none⟩) (World.block_lt_of_cell? w2 _ hbx2)).trans hbx2)
    go_wp2_with fail
    go_region_with (first
      | (go_at_call 13; with_reducible refine (between_q A n c ss _ HN.out hn20 ?_ HSZ.out).mono ?_; (refine strsAt_below HX2.out ?_; (first | exact b_drew (b_refl _) | exact HQ2 | exact HQ3 | exact HQ1)); rintro e w3 ⟨rfl, hb3⟩; have HQ1 := b_next (w0 := w2) (by (first | exact b_drew (b_refl _) | exact HQ2 | exact HQ3 | exact HQ1)) hb3; have hc1 := HCL.out _ HQ1; clear hb3)
      | (go_at_call 13; with_reducible refine (between_de A n c ss b0 A1 n1 c1 xs _ HN.out hn20 ?_ HSZ.out HN1.out (by have := HNN.out; omega) ?_ HSP.out ?_).mono ?_; (refine strsAt_below HX2.out ?_; (first | exact b_drew (b_refl _) | exact HQ2 | exact HQ3 | exact HQ1)); (refine listAt_below HX12.out ?_; (first | exact b_drew (b_refl _) | exact HQ2 | exact HQ3 | exact HQ1)); (refine HCL.out _ ?_; (first | exact b_drew (b_refl _) | exact HQ2 | exact HQ3 | exact HQ1)); rintro e w5 ⟨rfl, hb5⟩; have HQ3 := b_next (w0 := w2) (by (first | exact b_drew (b_refl _) | exact HQ2 | exact HQ3 | exact HQ1)) hb5; have hc3 := HCL.out _ HQ3; clear hb5)
      | (go_at_call 24; with_reducible refine (debug_bet ss n A1 n1 c1 xs _ HN.out (by have := HN0.out; omega) hn20 HN1.out HNN.out HBR.out HF.out ?_ HSP.out ?_).mono ?_; (refine listAt_below HX12.out ?_; (first | exact b_drew (b_refl _) | exact HQ2 | exact HQ3 | exact HQ1)); (refine pow10_below HP2.out ?_; (first | exact b_drew (b_refl _) | exact HQ2 | exact HQ3 | exact HQ1)); rintro e w4 ⟨rfl, hb4⟩; have HQ2 := b_next (w0 := w2) (by (first | exact b_drew (b_refl _) | exact HQ2 | exact HQ3 | exact HQ1)) hb4; have hc2 := HCL.out _ HQ2; clear hb4))
    all_goals
      go_wp2_with fail
      go_ret
      refine ⟨rfl, b_last HW2.out ?_⟩
      first | exact HQ3 | exact HQ2
  · have hnni : ((n1 : Int) != (n : Int) - 1) = true := by rw [bne_iff_ne]; omega
    clear hnn
    go_wp2_with fail
    go_ret
    exact ⟨rfl, HWB.out⟩
end Go.Proofs.YtdjgknfmehkigaaDoor
