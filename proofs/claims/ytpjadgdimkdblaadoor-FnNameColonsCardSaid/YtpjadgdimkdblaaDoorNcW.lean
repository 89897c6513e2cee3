/- FnNameColons walked: it answers true whatever the numbers and the texts are, and only makes new memory. -/
import Derived.Test.YtpjadgdimkdblaaDoorNtW
namespace Go.Proofs.YtpjadgdimkdblaaDoor
open Go.RowKit
set_option linter.unusedVariables false

def cc1 : ByteArray := ⟨#[58]⟩
def cc2 : ByteArray := ⟨#[58, 58]⟩
theorem cn_pairs (mk : List UInt8 → Nat → List UInt8) (l : List UInt8) (ns : List (List UInt8)) : ∀ k (L : List UInt8), cn mk ((rep ByteArray.empty cc2 k).data.toList ++ l) none L ns = cn mk l none (L ++ (rep ByteArray.empty cc1 k).data.toList) ns
  | 0, L => by simp [rep]
  | k + 1, L => by
    have e2 : (rep ByteArray.empty cc2 (k + 1)).data.toList = 58 :: 58 :: (rep ByteArray.empty cc2 k).data.toList := by rw [rep_one]; rfl
    have e1 : (rep ByteArray.empty cc1 (k + 1)).data.toList = 58 :: (rep ByteArray.empty cc1 k).data.toList := by rw [rep_one]; rfl
    rw [e2, e1, List.cons_append, List.cons_append, cn_two, cn_pairs mk l ns k (L ++ [58])]
    simp
theorem colons_1 {a nm : ByteArray} (ha : bare1 a) (h : NameOk nm) (k : Int) (j : Nat) : cn (mkK k) (rep a cc2 j ++ nm).data.toList none [] [] = some ((rep a cc1 j ++ nm).data.toList, []) := by
  rw [app_list, app_list, rep_front a cc2, rep_front a cc1, List.append_assoc, cn_text _ _ _ _ (no58_bare ha), cn_pairs, cn_free _ _ _ (no58_name h)]
  simp
theorem colons_2 {a nm : ByteArray} (ha : bare1 a) (h : NameOk nm) (k : Int) (j : Nat) : cn (mkK k) (rep a cc2 j ++ (⟨#[58]⟩ : ByteArray) ++ nm).data.toList none [] [] = some ((rep a cc1 j ++ mkB k nm 1 ++ (⟨#[]⟩ : ByteArray)).data.toList, [nm.data.toList]) := by
  rw [app_list, app_list, app_list, app_list, rep_front a cc2, rep_front a cc1, List.append_assoc, List.append_assoc, cn_text _ _ _ _ (no58_bare ha), cn_pairs]
  have e := cn_fin (mk := mkK k) h ([] ++ a.data.toList ++ (rep ByteArray.empty cc1 j).data.toList) []
  rw [mk_list]
  simpa using e
theorem asc_cc2 : asc cc2 := asc_app (asc_one 58 (by decide)) (asc_one 58 (by decide))
theorem pairs_ok {a z : ByteArray} (ha : bare1 a) (hz : z.size ≤ 31) (hz1 : cnt58 z.data.toList ≤ 1) (hz2 : asc z) {j : Nat} (hj : j ≤ 40) : TextOk (rep a cc2 j ++ z) := by
  have h1 := ha.1
  have h2 := rep_size a cc2 j
  have s2 : cc2.size = 2 := rfl
  rw [s2] at h2
  refine ⟨by rw [ByteArray.size_append']; omega, ?_, asc_app (asc_rep (asc_bare ha) asc_cc2 j) hz2⟩
  rw [app_list, cnt_app, rep_front, cnt_app, cnt_free (no58_bare ha)]
  have h3 := cnt_le (rep ByteArray.empty cc2 j).data.toList
  rw [size_list, rep_size, s2] at h3
  have : ByteArray.empty.size = 0 := rfl
  omega
set_option maxHeartbeats 4000000 in
set_option maxRecDepth 100000 in
theorem nameColons_any (kd pr : Int) (a nm : ByteArray) (w : World) (hp : Pow10 w) (hkd : (Lit.int .u8 kd).wf = true) (hpr : (Lit.int .u8 pr).wf = true) (ha : a.size ≤ maxLen) (hnm : nm.size ≤ maxLen) :
    Calls Tryd.prog 4 #[.int .u8 kd, .int .u8 pr, .string a, .string nm] w fun e w' => e = .returned (.bool true) ∧ Below w.heap.size w w' := by
  have HP := Lib.hid hp
  have HA := Lib.hid ha
  have hbd := Go.bounds_u8 hpr
  obtain ⟨pn, rfl⟩ : ∃ pn : Nat, pr = pn := ⟨pr.toNat, by omega⟩
  unfold maxLen at hnm ha
  clear hp hpr
  by_cases hs : a.size ≤ 2147483647 ∧ nm.size ≤ 2147483647
  · have hsa : ¬ (2147483647 : Int) < a.size := by omega
    have hsn : ¬ (2147483647 : Int) < nm.size := by omega
    clear hs
    go_enter Tryd.func4, Tryd.ntmps4
    go_wp2_with fail
    refine (named_any nm (by omega) w).mono ?_
    rintro e w' ⟨r, rfl, hr, rfl⟩
    cases r with
    | false =>
      clear hr
      go_wp2
      go_ret
      exact ⟨rfl, Below.refl _ _⟩
    | true =>
    have HNM := Lib.hid (hr rfl)
    have hn30 := (hr rfl).2.2.2
    clear hr
    go_wp2_with fail
    refine (bare_one a w _ HA.out).mono ?_
    rintro e w' ⟨rfl, rfl⟩
    have HW0 := Lib.hid ((Below.refl w.heap.size w).alloc (Nat.le_refl _) (.cells #[.string a] 9))
    generalize w.alloc (.cells #[.string a] 9) = w0 at HW0 ⊢
    cases hB : bareB [a] with
    | false =>
      go_wp2
      go_ret
      exact ⟨rfl, HW0.out⟩
    | true =>
    have HBB := Lib.hid (bare_one_of hB)
    have hza := HBB.out.1
    clear hB
    by_cases h40 : (40 : Int) < pn
    · go_wp2_with fail
      go_ret
      exact ⟨rfl, HW0.out⟩
    have hp40 : pn ≤ 40 := by omega
    go_wp2_with fail
    go_loop [9, 10, 40] (fun s t i => ∃ k : Nat, k ≤ pn ∧ i = .int .u8 k ∧ s = .string (rep a cc2 k) ∧ t = .string (rep a cc1 k)) (fun _ _ i => pn - (intOf i).toNat)
    case atStart => exact ⟨0, Nat.zero_le _, rfl, rfl, rfl⟩
    case round =>
      obtain ⟨k, hk, rfl, rfl, rfl⟩ := hrel
      have hz1 := rep_size a cc1 k
      have hz2 := rep_size a cc2 k
      have s1 : cc1.size = 1 := rfl
      have s2 : cc2.size = 2 := rfl
      rw [s1] at hz1
      rw [s2] at hz2
      have hz1b : (rep a cc1 k).size ≤ 200 := by omega
      have hz2b : (rep a cc2 k).size ≤ 200 := by omega
      have h0 : (0 : Int) ≤ k := by omega
      clear hz1 hz2
      by_cases hlt : k < pn
      · have hki : (k : Int) < pn := by omega
        go_wp2_with fail
        go_round
        case rel => exact ⟨k + 1, by omega, by go_num, rfl, rfl⟩
        case measure => simp [intOf]; omega
      · obtain rfl : k = pn := by omega
        go_wp2_with fail
        refine (mark_any kd 1 ⟨#[]⟩ w0 hkd (by decide) (by decide)).mono ?_
        rintro e w1 ⟨rfl, hb1⟩
        have HW1 := Lib.hid (nx1 HW0.out hb1)
        clear hb1
        have hk5 := kind_five kd
        generalize mkB (kd % 5) ⟨#[]⟩ 1 = mm
        obtain ⟨kk, hkk⟩ : ∃ kk, kd % 5 = kk := ⟨_, rfl⟩
        have HKK := Lib.hid hkk
        rw [hkk] at hk5
        rw [hkk]
        clear hkk
        go_wp2_with fail
        refine (compiled_any kk hk5 _ w1 (pairs_ok HBB.out (by omega) (by rw [cnt_free (no58_name HNM.out)]; omega) (asc_name HNM.out) hp40) (pow10_below HP.out HW1.out)).mono ?_
        rintro e w2 hc
        obtain ⟨sv, rfl, ho, hb2⟩ := cpOk_some (colons_1 HBB.out HNM.out kk k) hc
        have HW2 := Lib.hid (nx1 HW1.out hb2)
        obtain ⟨A, cap, rfl⟩ := own_form ho
        have e1 : (⟨(rep a cc1 k ++ nm).data.toList.toArray⟩ : ByteArray) = rep a cc1 k ++ nm := rfl
        rw [e1]
        clear hc hb2 ho e1
        go_wp2_with fail
        refine (told_any kd _ _ nm _ w2 hkd ?_ (pow10_below HP.out HW2.out) (by omega) (by omega) (by decide) ?_).mono ?_
        · have h := pairs_ok (z := (⟨#[58]⟩ : ByteArray) ++ nm) HBB.out (by rw [ByteArray.size_append']; have : (ByteArray.mk #[58]).size = 1 := rfl; omega) (by rw [app_list, cnt_app, cnt_free (no58_name HNM.out)]; decide) (asc_app (asc_one 58 (by decide)) (asc_name HNM.out)) hp40
          have e2 : rep a cc2 k ++ ((⟨#[58]⟩ : ByteArray) ++ nm) = rep a cc2 k ++ (⟨#[58]⟩ : ByteArray) ++ nm := by
            apply ext_list
            simp only [app_list, List.append_assoc]
          rw [e2] at h
          exact h
        · exact colons_2 HBB.out HNM.out _ k
        rintro e w3 ⟨rfl, hb3⟩
        have HW3 := Lib.hid (nx1 HW2.out hb3)
        clear hb3
        go_wp2_with fail
        go_ret
        exact ⟨rfl, HW3.out⟩
  · rcases Nat.lt_or_ge 2147483647 a.size with h | h
    · have hsn : (2147483647 : Int) < a.size := by omega
      clear hs
      go_enter Tryd.func4, Tryd.ntmps4
      go_wp2_with fail
      go_ret
      exact ⟨rfl, Below.refl _ _⟩
    · have hsn : ¬ (2147483647 : Int) < a.size := by omega
      have hsa : (2147483647 : Int) < nm.size := by omega
      clear hs
      go_enter Tryd.func4, Tryd.ntmps4
      go_wp2_with fail
      go_ret
      exact ⟨rfl, Below.refl _ _⟩
end Go.Proofs.YtpjadgdimkdblaaDoor
