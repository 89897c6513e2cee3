/- FnNameAlone walked: it answers true whatever the number and the texts are, and only makes new memory. -/
import Derived.Test.YtpjadgdimkdblaaDoorTold
import Derived.Test.YtpjadgdimkdblaaDoorRebS
namespace Go.Proofs.YtpjadgdimkdblaaDoor
open Go.RowKit
set_option linter.unusedVariables false

/-- Where texts lie. -/
def StrsIn (w : World) (b : Nat) (ss : List ByteArray) : Prop := ∀ i, i < ss.length → w.cell? ⟨b, 0 + i, none⟩ = some (.string (ss.getD i ByteArray.empty))
theorem two_in (w : World) (a b : ByteArray) (T : TypeId) : StrsIn (w.alloc (.cells #[.string a, .string b] T)) w.heap.size [a, b] := by
  intro i hi
  have h : i = 0 ∨ i = 1 := by simp at hi; omega
  rcases h with rfl | rfl
  · exact (cell_of_row _ _ _ _ _ _ (heap_alloc_new w _)).trans rfl
  · exact (cell_of_row _ _ _ _ _ _ (heap_alloc_new w _)).trans rfl
theorem bare_two (a b : ByteArray) (w : World) (T : TypeId) (ha : a.size ≤ maxLen) (hb : b.size ≤ maxLen) :
    Calls Tryd.prog 13 #[.slice (some ⟨w.heap.size, 0, none⟩) 2 2] (w.alloc (.cells #[.string a, .string b] T)) fun e w' => e = .returned (.bool (bareB [a, b])) ∧ w.alloc (.cells #[.string a, .string b] T) = w' := by
  refine bare9_any w.heap.size 0 2 2 [a, b] _ rfl (by decide) (two_in w a b T) ?_
  intro i hi
  have h : i = 0 ∨ i = 1 := by omega
  rcases h with rfl | rfl
  · exact ha
  · exact hb
theorem bare_two_of {a b : ByteArray} (h : bareB [a, b] = true) : bare1 a ∧ bare1 b := by
  have h := (bareB_iff.1 h).1
  exact ⟨h 0 (by simp), h 1 (by simp)⟩
theorem asc_one (c : UInt8) (h : c.toNat < 128) : asc (⟨#[c]⟩ : ByteArray) := by
  intro d hd
  simp at hd
  subst hd
  exact h
theorem mk_list (k : Int) (nm : ByteArray) (j : Nat) : (mkB k nm j).data.toList = mkK k nm.data.toList j := rfl
theorem alone_ok {nm : ByteArray} (h : NameOk nm) : TextOk ((⟨#[58]⟩ : ByteArray) ++ nm) := by
  have h30 := h.2.2.2
  refine ⟨by rw [ByteArray.size_append']; have : (ByteArray.mk #[58]).size = 1 := rfl; omega, ?_, asc_app (asc_one 58 (by decide)) (asc_name h)⟩
  rw [app_list]
  show cnt58 (58 :: nm.data.toList) ≤ 98
  rw [cnt58, if_pos rfl, cnt_free (no58_name h)]
  omega
theorem alone_cn {nm : ByteArray} (h : NameOk nm) (k : Int) : cn (mkK k) ((⟨#[58]⟩ : ByteArray) ++ nm).data.toList none [] [] = some (((⟨#[]⟩ : ByteArray) ++ mkB k nm 1 ++ (⟨#[]⟩ : ByteArray)).data.toList, [nm.data.toList]) := by
  rw [app_list, app_list, app_list, mk_list]
  have e := cn_fin (mk := mkK k) h [] []
  simpa using e
theorem between_ok {a nm b : ByteArray} (ha : bare1 a) (h : NameOk nm) (hb : bare1 b) : TextOk (a ++ (⟨#[58]⟩ : ByteArray) ++ nm ++ (⟨#[32]⟩ : ByteArray) ++ b) := by
  have h30 := h.2.2.2
  have h1 := ha.1
  have h2 := hb.1
  refine ⟨?_, ?_, asc_app (asc_app (asc_app (asc_app (asc_bare ha) (asc_one 58 (by decide))) (asc_name h)) (asc_one 32 (by decide))) (asc_bare hb)⟩
  · have s1 : (ByteArray.mk #[58]).size = 1 := rfl
    have s2 : (ByteArray.mk #[32]).size = 1 := rfl
    simp only [ByteArray.size_append']
    omega
  · simp only [app_list, cnt_app]
    rw [cnt_free (no58_bare ha), cnt_free (no58_name h), cnt_free (no58_bare hb)]
    show 0 + cnt58 [58] + 0 + cnt58 [32] + 0 ≤ 98
    decide
theorem between_cn {a nm b : ByteArray} (ha : bare1 a) (h : NameOk nm) (hb : bare1 b) (k : Int) : cn (mkK k) (a ++ (⟨#[58]⟩ : ByteArray) ++ nm ++ (⟨#[32]⟩ : ByteArray) ++ b).data.toList none [] [] = some ((a ++ mkB k nm 1 ++ ((⟨#[32]⟩ : ByteArray) ++ b)).data.toList, [nm.data.toList]) := by
  have e1 : (a ++ (⟨#[58]⟩ : ByteArray) ++ nm ++ (⟨#[32]⟩ : ByteArray) ++ b).data.toList = a.data.toList ++ (58 :: (nm.data.toList ++ 32 :: b.data.toList)) := by
    simp only [app_list]
    simp
  rw [e1, cn_text _ _ _ _ (no58_bare ha), List.nil_append, cn_mid h 32 b.data.toList _ _ (by decide) (by decide) (by decide), cn_free _ _ _ (no58_bare hb)]
  simp only [app_list, mk_list]
  simp
set_option maxHeartbeats 4000000 in
set_option maxRecDepth 100000 in
theorem nameAlone_any (kd : Int) (nm a b : ByteArray) (w : World) (hp : Pow10 w) (hkd : (Lit.int .u8 kd).wf = true) (hnm : nm.size ≤ maxLen) (ha : a.size ≤ maxLen) (hb : b.size ≤ maxLen) :
    Calls Tryd.prog 3 #[.int .u8 kd, .string nm, .string a, .string b] w fun e w' => e = .returned (.bool true) ∧ Below w.heap.size w w' := by
  have HP := Lib.hid hp
  have HA := Lib.hid ha
  have HB := Lib.hid hb
  unfold maxLen at hnm ha hb
  clear hp
  by_cases hs : nm.size ≤ 2147483647 ∧ a.size ≤ 2147483647 ∧ b.size ≤ 2147483647
  · have hsn : ¬ (2147483647 : Int) < nm.size := by omega
    have hsa : ¬ (2147483647 : Int) < a.size := by omega
    have hsb : ¬ (2147483647 : Int) < b.size := by omega
    clear hs
    go_enter Tryd.func3, Tryd.ntmps3
    go_wp2_with fail
    refine (named_any nm (by omega) w).mono ?_
    rintro e w' ⟨r, rfl, hr, rfl⟩
    cases r with
    | false =>
      clear hr
      go_wp2
      go_ret
      exact ⟨rfl, Below.refl _ _⟩
    | true =>
    have HNM := Lib.hid (hr rfl)
    have hn30 := (hr rfl).2.2.2
    clear hr
    go_wp2_with fail
    refine (bare_two a b w _ HA.out HB.out).mono ?_
    rintro e w' ⟨rfl, rfl⟩
    have HW0 := Lib.hid ((Below.refl w.heap.size w).alloc (Nat.le_refl _) (.cells #[.string a, .string b] 9))
    generalize w.alloc (.cells #[.string a, .string b] 9) = w0 at HW0 ⊢
    cases hB : bareB [a, b] with
    | false =>
      go_wp2
      go_ret
      exact ⟨rfl, HW0.out⟩
    | true =>
    have HBB := Lib.hid (bare_two_of hB)
    have hza := HBB.out.1.1
    have hzb := HBB.out.2.1
    clear hB
    go_wp2_with fail
    refine (told_any kd _ _ nm _ w0 hkd (alone_ok HNM.out) (pow10_below HP.out HW0.out) (by decide) (by omega) (by decide) (alone_cn HNM.out _)).mono ?_
    rintro e w1 ⟨rfl, hb1⟩
    have HW1 := Lib.hid (nx1 HW0.out hb1)
    clear hb1
    go_wp2_with fail
    refine (told_any kd _ _ nm _ w1 hkd (between_ok HBB.out.1 HNM.out HBB.out.2) (pow10_below HP.out HW1.out) (by omega) (by omega) (by rw [ByteArray.size_append']; have : (ByteArray.mk #[32]).size = 1 := rfl; omega) (between_cn HBB.out.1 HNM.out HBB.out.2 _)).mono ?_
    rintro e w2 ⟨rfl, hb2⟩
    have HW2 := Lib.hid (nx1 HW1.out hb2)
    clear hb2
    go_wp2_with fail
    go_ret
    exact ⟨rfl, HW2.out⟩
  · rcases Nat.lt_or_ge 2147483647 nm.size with h | h
    · have hsn : (2147483647 : Int) < nm.size := by omega
      clear hs
      go_enter Tryd.func3, Tryd.ntmps3
      go_wp2_with fail
      go_ret
      exact ⟨rfl, Below.refl _ _⟩
    · have hsn : ¬ (2147483647 : Int) < nm.size := by omega
      rcases Nat.lt_or_ge 2147483647 a.size with h2 | h2
      · have hsa : (2147483647 : Int) < a.size := by omega
        clear hs
        go_enter Tryd.func3, Tryd.ntmps3
        go_wp2_with fail
        go_ret
        exact ⟨rfl, Below.refl _ _⟩
      · have hsa : ¬ (2147483647 : Int) < a.size := by omega
        have hsb : (2147483647 : Int) < b.size := by omega
        clear hs
        go_enter Tryd.func3, Tryd.ntmps3
        go_wp2_with fail
        go_ret
        exact ⟨rfl, Below.refl _ _⟩
end Go.Proofs.YtpjadgdimkdblaaDoor
