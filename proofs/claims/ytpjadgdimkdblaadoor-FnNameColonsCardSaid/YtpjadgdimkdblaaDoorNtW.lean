/- FnNameTight walked: it answers true whatever the number and the texts are, and only makes new memory. -/
import Derived.Test.YtpjadgdimkdblaaDoorNaW
namespace Go.Proofs.YtpjadgdimkdblaaDoor
open Go.RowKit
set_option linter.unusedVariables false

theorem bare_one (a : ByteArray) (w : World) (T : TypeId) (ha : a.size ≤ maxLen) :
    Calls Tryd.prog 13 #[.slice (some ⟨w.heap.size, 0, none⟩) 1 1] (w.alloc (.cells #[.string a] T)) fun e w' => e = .returned (.bool (bareB [a])) ∧ w.alloc (.cells #[.string a] T) = w' := by
  refine bare9_any w.heap.size 0 1 1 [a] _ rfl (by decide) ?_ ?_
  · intro i hi
    have h : i = 0 := by omega
    subst h
    exact (cell_of_row _ _ _ _ _ _ (heap_alloc_new w _)).trans rfl
  · intro i hi
    have h : i = 0 := by omega
    subst h
    exact ha
theorem bare_one_of {a : ByteArray} (h : bareB [a] = true) : bare1 a := (bareB_iff.1 h).1 0 (by simp)
theorem cnt_le (l : List UInt8) : cnt58 l ≤ l.length := by
  induction l with
  | nil => simp [cnt58]
  | cons c l ih =>
    rw [cnt58, List.length_cons]
    split <;> omega
theorem tight_ok {a nm m o : ByteArray} (ha : bare1 a) (h : NameOk nm) (ho : NameOk o) (hm : m.size ≤ 2) (hm2 : asc m) : TextOk (a ++ (⟨#[58]⟩ : ByteArray) ++ nm ++ m ++ o) := by
  have h1 := ha.1
  have h2 := h.2.2.2
  have h3 := ho.2.2.2
  refine ⟨?_, ?_, asc_app (asc_app (asc_app (asc_app (asc_bare ha) (asc_one 58 (by decide))) (asc_name h)) hm2) (asc_name ho)⟩
  · have s1 : (ByteArray.mk #[58]).size = 1 := rfl
    simp only [ByteArray.size_append']
    omega
  · simp only [app_list, cnt_app]
    rw [cnt_free (no58_bare ha), cnt_free (no58_name h), cnt_free (no58_name ho)]
    show 0 + cnt58 [58] + 0 + cnt58 m.data.toList + 0 ≤ 98
    have e : cnt58 [58] = 1 := rfl
    have hc := cnt_le m.data.toList
    rw [size_list] at hc
    omega
theorem tight_1 {a nm o : ByteArray} (ha : bare1 a) (h : NameOk nm) (k : Int) : cn (mkK k) (a ++ (⟨#[58]⟩ : ByteArray) ++ nm ++ (⟨#[58]⟩ : ByteArray) ++ o).data.toList none [] [] = none := by
  have e1 : (a ++ (⟨#[58]⟩ : ByteArray) ++ nm ++ (⟨#[58]⟩ : ByteArray) ++ o).data.toList = a.data.toList ++ (58 :: (nm.data.toList ++ 58 :: o.data.toList)) := by
    simp only [app_list]
    simp
  rw [e1, cn_text _ _ _ _ (no58_bare ha), cn_tight h]
theorem tight_2 {a nm o : ByteArray} (ha : bare1 a) (h : NameOk nm) (k : Int) : cn (mkK k) (a ++ (⟨#[58]⟩ : ByteArray) ++ nm ++ (⟨#[58, 58]⟩ : ByteArray) ++ o).data.toList none [] [] = none := by
  have e1 : (a ++ (⟨#[58]⟩ : ByteArray) ++ nm ++ (⟨#[58, 58]⟩ : ByteArray) ++ o).data.toList = a.data.toList ++ (58 :: (nm.data.toList ++ 58 :: (58 :: o.data.toList))) := by
    simp only [app_list]
    simp
  rw [e1, cn_text _ _ _ _ (no58_bare ha), cn_tight h]
theorem tight_3 {a nm o : ByteArray} (ha : bare1 a) (h : NameOk nm) (ho : NameOk o) (k : Int) : ∃ L, cn (mkK k) (a ++ (⟨#[58]⟩ : ByteArray) ++ nm ++ (⟨#[32, 58]⟩ : ByteArray) ++ o).data.toList none [] [] = some (L, [nm.data.toList, o.data.toList]) := by
  have e1 : (a ++ (⟨#[58]⟩ : ByteArray) ++ nm ++ (⟨#[32, 58]⟩ : ByteArray) ++ o).data.toList = a.data.toList ++ (58 :: (nm.data.toList ++ 32 :: (58 :: o.data.toList))) := by
    simp only [app_list]
    simp
  rw [e1, cn_text _ _ _ _ (no58_bare ha), cn_mid h 32 _ _ _ (by decide) (by decide) (by decide), cn_fin ho]
  exact ⟨_, rfl⟩
theorem own_form {w : World} {B : Nat} {e : TypeId} {size : Nat} {v : Value} {n : Nat} {xs : List Value} (h : w.ownsRow B e size v n xs) : ∃ A c, v = .slice A n c := by
  rcases h.2 with ⟨hv, h0⟩ | ⟨g, cap, cur, hv, _⟩
  · exact ⟨none, 0, by rw [hv, h0]⟩
  · exact ⟨_, cap, hv⟩
set_option maxHeartbeats 4000000 in
set_option maxRecDepth 100000 in
theorem nameTight_any (kd : Int) (a nm o : ByteArray) (w : World) (hp : Pow10 w) (hkd : (Lit.int .u8 kd).wf = true) (ha : a.size ≤ maxLen) (hnm : nm.size ≤ maxLen) (ho : o.size ≤ maxLen) :
    Calls Tryd.prog 5 #[.int .u8 kd, .string a, .string nm, .string o] w fun e w' => e = .returned (.bool true) ∧ Below w.heap.size w w' := by
  have HP := Lib.hid hp
  have HA := Lib.hid ha
  unfold maxLen at hnm ha ho
  clear hp
  by_cases hs : a.size ≤ 2147483647 ∧ nm.size ≤ 2147483647 ∧ o.size ≤ 2147483647
  · have hsa : ¬ (2147483647 : Int) < a.size := by omega
    have hsn : ¬ (2147483647 : Int) < nm.size := by omega
    have hso : ¬ (2147483647 : Int) < o.size := by omega
    clear hs
    go_enter Tryd.func5, Tryd.ntmps5
    go_wp2_with fail
    refine (named_any nm (by omega) w).mono ?_
    rintro e w' ⟨r, rfl, hr, rfl⟩
    cases r with
    | false =>
      clear hr
      go_wp2
      go_ret
      exact ⟨rfl, Below.refl _ _⟩
    | true =>
    have HNM := Lib.hid (hr rfl)
    have hn30 := (hr rfl).2.2.2
    clear hr
    go_wp2_with fail
    refine (named_any o (by omega) w).mono ?_
    rintro e w' ⟨r, rfl, hr, rfl⟩
    cases r with
    | false =>
      clear hr
      go_wp2
      go_ret
      exact ⟨rfl, Below.refl _ _⟩
    | true =>
    have HOM := Lib.hid (hr rfl)
    have ho30 := (hr rfl).2.2.2
    clear hr
    go_wp2_with fail
    refine (bare_one a w _ HA.out).mono ?_
    rintro e w' ⟨rfl, rfl⟩
    have HW0 := Lib.hid ((Below.refl w.heap.size w).alloc (Nat.le_refl _) (.cells #[.string a] 9))
    generalize w.alloc (.cells #[.string a] 9) = w0 at HW0 ⊢
    cases hB : bareB [a] with
    | false =>
      go_wp2
      go_ret
      exact ⟨rfl, HW0.out⟩
    | true =>
    have HBB := Lib.hid (bare_one_of hB)
    have hza := HBB.out.1
    clear hB
    go_wp2_with fail
    refine (mark_any kd 1 ⟨#[]⟩ w0 hkd (by decide) (by decide)).mono ?_
    rintro e w1 ⟨rfl, hb1⟩
    have HW1 := Lib.hid (nx1 HW0.out hb1)
    clear hb1
    have hk5 := kind_five kd
    generalize mkB (kd % 5) ⟨#[]⟩ 1 = mm
    generalize kd % 5 = k at hk5 ⊢
    go_wp2_with fail
    refine (compiled_any k hk5 _ w1 (tight_ok HBB.out HNM.out HOM.out (by decide) (asc_one 58 (by decide))) (pow10_below HP.out HW1.out)).mono ?_
    rintro e w2 hc
    obtain ⟨rfl, hb2⟩ := cpOk_none (tight_1 HBB.out HNM.out k) hc
    have HW2 := Lib.hid (nx1 HW1.out hb2)
    clear hc hb2
    go_wp2_with fail
    refine (compiled_any k hk5 _ w2 (tight_ok HBB.out HNM.out HOM.out (by decide) (asc_app (asc_one 58 (by decide)) (asc_one 58 (by decide)))) (pow10_below HP.out HW2.out)).mono ?_
    rintro e w3 hc
    obtain ⟨rfl, hb3⟩ := cpOk_none (tight_2 HBB.out HNM.out k) hc
    have HW3 := Lib.hid (nx1 HW2.out hb3)
    clear hc hb3
    go_wp2_with fail
    refine (compiled_any k hk5 _ w3 (tight_ok HBB.out HNM.out HOM.out (by decide) (asc_app (asc_one 32 (by decide)) (asc_one 58 (by decide)))) (pow10_below HP.out HW3.out)).mono ?_
    rintro e w4 hc
    obtain ⟨L, hL⟩ := tight_3 HBB.out HNM.out HOM.out k
    obtain ⟨sv, rfl, ho, hb4⟩ := cpOk_some hL hc
    have HW4 := Lib.hid (nx1 HW3.out hb4)
    obtain ⟨A, cap, rfl⟩ := own_form ho
    clear hc hb4 hL ho
    go_wp2_with fail
    go_ret
    exact ⟨rfl, HW4.out⟩
  · rcases Nat.lt_or_ge 2147483647 a.size with h | h
    · have hsn : (2147483647 : Int) < a.size := by omega
      clear hs
      go_enter Tryd.func5, Tryd.ntmps5
      go_wp2_with fail
      go_ret
      exact ⟨rfl, Below.refl _ _⟩
    · have hsn : ¬ (2147483647 : Int) < a.size := by omega
      rcases Nat.lt_or_ge 2147483647 nm.size with h2 | h2
      · have hsa : (2147483647 : Int) < nm.size := by omega
        clear hs
        go_enter Tryd.func5, Tryd.ntmps5
        go_wp2_with fail
        go_ret
        exact ⟨rfl, Below.refl _ _⟩
      · have hsa : ¬ (2147483647 : Int) < nm.size := by omega
        have hsb : (2147483647 : Int) < o.size := by omega
        clear hs
        go_enter Tryd.func5, Tryd.ntmps5
        go_wp2_with fail
        go_ret
        exact ⟨rfl, Below.refl _ _⟩
end Go.Proofs.YtpjadgdimkdblaaDoor
