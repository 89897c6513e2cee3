/- FnNamePlain walked: it answers true whatever the number, the texts and the arguments are, and only makes new memory. -/
import Derived.Test.YtpjadgdimkdblaaDoorNaW
import Derived.Test.YtpjadgdimkdblaaDoorRight
import Derived.Test.YtpjadgdimkdblaaDoorNo
import Derived.Test.YtpjadgdimkdblaaDoorValues
namespace Go.Proofs.YtpjadgdimkdblaaDoor
open Go.RowKit
set_option linter.unusedVariables false

theorem ok_of_right {w : World} {a : ARec} (h : a.right) (hl : a.lain w) : a.ok w := by
  rcases h with h | ⟨h5, _, _, h20, hy⟩
  · exact .inl h.1
  · exact .inr ⟨h5, hl.1, by omega, hl.2.2, fun i hi => (hy i hi).1⟩
theorem namesLain_below {w w' : World} {A : Option Addr} {gs : List NRec} (h : NamesLain w A gs) (hb : Below w.heap.size w w') : NamesLain w' A gs := by
  refine ⟨?_, fun i hi => lain_below (h.lain i hi) hb, h.short⟩
  rcases h.lie with h | ⟨b, off, rfl, h1, h2⟩
  · exact .inl h
  · refine .inr ⟨b, off, rfl, Nat.lt_of_lt_of_le h1 hb.size, fun i hi => ?_⟩
    obtain ⟨c0, c1, c2, c3, c4⟩ := h2 i hi
    exact ⟨(hb.cell (p := ⟨b, off + i * 5, none⟩) h1).trans c0, (hb.cell (p := ⟨b, off + i * 5 + 1, none⟩) h1).trans c1, (hb.cell (p := ⟨b, off + i * 5 + 2, none⟩) h1).trans c2, (hb.cell (p := ⟨b, off + i * 5 + 3, none⟩) h1).trans c3, (hb.cell (p := ⟨b, off + i * 5 + 4, none⟩) h1).trans c4⟩
theorem namesOk_of {w : World} {A : Option Addr} {gs : List NRec} (h : NamesLain w A gs) (hr : gs.length ≤ 20 ∧ ∀ i, i < gs.length → oneRight gs i) : NamesOk w A gs :=
  ⟨by omega, h.lie, fun i hi => ok_of_right (hr.2 i hi).1 (h.lain i hi), fun i k hik hk => (hr.2 k hk).2.2 i hik, h.short⟩
def NoneIn (x : Value) (w : World) : Prop := ∃ a c, x = .slice a 0 c
theorem says_none (gs : List NRec) (w : World) : ValsSay gs (fun _ => []) NoneIn w := by
  intro us v wv _ _ ho hb
  obtain ⟨a, c, rfl⟩ := ownsRow_form ho
  refine (valuesOf_flat a 0 c [] wv rfl (by omega) (fun i hi => by omega) (fun i hi => by omega)).mono ?_
  rintro e w' ⟨x, rfl, hr, hb2⟩
  obtain ⟨a2, c2, rfl⟩ := ownsRow_form hr
  exact ⟨_, rfl, ⟨a2, c2, rfl⟩, hb2⟩
theorem plain_no58 {a b : ByteArray} (ha : bare1 a) (hb : bare1 b) : no58 (a ++ (⟨#[63]⟩ : ByteArray) ++ b).data.toList := by
  intro c hc
  simp only [app_list, List.mem_append] at hc
  rcases hc with (h | h) | h
  · exact no58_bare ha c h
  · simp at h; subst h; decide
  · exact no58_bare hb c h
theorem plain_ok {a b : ByteArray} (ha : bare1 a) (hb : bare1 b) : TextOk (a ++ (⟨#[63]⟩ : ByteArray) ++ b) := by
  have h1 := ha.1
  have h2 := hb.1
  refine ⟨?_, ?_, asc_app (asc_app (asc_bare ha) (asc_one 63 (by decide))) (asc_bare hb)⟩
  · have s1 : (ByteArray.mk #[63]).size = 1 := rfl
    simp only [ByteArray.size_append']
    omega
  · rw [cnt_free (plain_no58 ha hb)]
    omega
theorem plain_found {q : ByteArray} (h : no58 q.data.toList) (k : Int) (l : List (ByteArray × Value)) : Found k q q.data.toList [] l [] :=
  ⟨by rw [cn_free _ _ _ h]; rfl, rfl, by simp, fun i hi => by simp at hi, fun i hi => by simp at hi, fun i hi => by simp at hi⟩
set_option maxHeartbeats 4000000 in
set_option maxRecDepth 100000 in
theorem namePlain_any (kd : Int) (a b : ByteArray) (A : Option Addr) (n c : Nat) (gs : List NRec) (w : World) (hp : Pow10 w) (hkd : (Lit.int .u8 kd).wf = true) (ha : a.size ≤ maxLen) (hb : b.size ≤ maxLen) (hn : gs.length = n) (hm : n ≤ maxLen) (hq : A = none → c = 0) (hx : NamesLain w A gs) :
    Calls Tryd.prog 10 #[.int .u8 kd, .string a, .string b, .slice A n c] w fun e w' => e = .returned (.bool true) ∧ Below w.heap.size w w' := by
  have HP := Lib.hid hp
  have HA := Lib.hid ha
  have HB := Lib.hid hb
  have HX := Lib.hid hx
  have HN := Lib.hid hn
  have HM := Lib.hid hm
  unfold maxLen at ha hb hm
  clear hp hn hx hq
  by_cases hs : a.size ≤ 2147483647 ∧ b.size ≤ 2147483647 ∧ n ≤ 2147483647
  · have hsa : ¬ (2147483647 : Int) < a.size := by omega
    have hsb : ¬ (2147483647 : Int) < b.size := by omega
    have hsn : ¬ (2147483647 : Int) < n := by omega
    clear hs
    go_enter Tryd.func10, Tryd.ntmps10
    go_wp2_with fail
    refine (bare_two a b w _ HA.out HB.out).mono ?_
    rintro e w' ⟨rfl, rfl⟩
    have HW0 := Lib.hid ((Below.refl w.heap.size w).alloc (Nat.le_refl _) (.cells #[.string a, .string b] 9))
    generalize w.alloc (.cells #[.string a, .string b] 9) = w0 at HW0 ⊢
    cases hB : bareB [a, b] with
    | false =>
      go_wp2
      go_ret
      exact ⟨rfl, HW0.out⟩
    | true =>
    have HBB := Lib.hid (bare_two_of hB)
    have hza := HBB.out.1.1
    have hzb := HBB.out.2.1
    clear hB
    go_wp2_with fail
    refine (args_right A n c gs w0 HN.out HM.out (namesLain_below HX.out HW0.out)).mono ?_
    rintro e w1 ⟨r, rfl, hr, hb1⟩
    have HW1 := Lib.hid (nx1 HW0.out hb1)
    have HR := Lib.hid hr
    clear hb1 hr
    cases r with
    | false =>
      go_wp2
      go_ret
      exact ⟨rfl, HW1.out⟩
    | true =>
    have HR2 := Lib.hid (HR.out rfl)
    clear HR
    go_wp2_with fail
    refine (mark_any kd 1 ⟨#[]⟩ w1 hkd (by decide) (by decide)).mono ?_
    rintro e w2 ⟨rfl, hb2⟩
    have HW2 := Lib.hid (nx1 HW1.out hb2)
    clear hb2
    have hk5 := kind_five kd
    have HT := Lib.hid (plain_ok HBB.out.1 HBB.out.2)
    have HNC := Lib.hid (plain_no58 HBB.out.1 HBB.out.2)
    generalize kd % 5 = k at hk5 ⊢
    generalize mkB k ⟨#[]⟩ 1 = mk0 at ⊢
    go_wp2_with fail
    generalize hq : a ++ (⟨#[63]⟩ : ByteArray) ++ b = q at HT HNC ⊢
    have HQ := Lib.hid hq
    clear hq
    refine (compiled_any k hk5 _ w2 HT.out (pow10_below HP.out HW2.out)).mono ?_
    rintro e w3 hc
    obtain ⟨sv, rfl, ho, hb3⟩ := cpOk_some (plain_found HNC.out k []).compiled hc
    have HW3 := Lib.hid (nx1 HW2.out hb3)
    obtain ⟨a2, c2, hsv⟩ := ownsRow_form ho
    have hsv2 : sv = .slice a2 0 c2 := hsv
    subst hsv2
    rw [show (⟨q.data.toList.toArray⟩ : ByteArray) = q from rfl]
    clear ho hb3 hc hsv
    have HNO := Lib.hid (namesOk_of (namesLain_below HX.out HW3.out) HR2.out)
    have hNN := HN.out
    subst hNN
    go_wp2_with fail
    refine (namedOf_any k hk5 _ A c gs _ [] (fun _ => []) NoneIn w3 HT.out (pow10_below HP.out HW3.out) HNO.out (fun us _ _ => plain_found HNC.out k _) (says_none gs w3)).mono ?_
    rintro e w4 ⟨x, rfl, ⟨a3, c3, rfl⟩, hb4⟩
    have HW4 := Lib.hid (nx1 HW3.out hb4)
    clear hb4
    rw [show (⟨q.data.toList.toArray⟩ : ByteArray) = q from rfl]
    go_wp2_with fail
    go_ret
    exact ⟨rfl, HW4.out⟩
  · rcases Nat.lt_or_ge 2147483647 a.size with h | h
    · have hsa : (2147483647 : Int) < a.size := by omega
      clear hs
      go_enter Tryd.func10, Tryd.ntmps10
      go_wp2_with fail
      go_ret
      exact ⟨rfl, Below.refl _ _⟩
    · have hsa : ¬ (2147483647 : Int) < a.size := by omega
      rcases Nat.lt_or_ge 2147483647 b.size with h2 | h2
      · have hsb : (2147483647 : Int) < b.size := by omega
        clear hs
        go_enter Tryd.func10, Tryd.ntmps10
        go_wp2_with fail
        go_ret
        exact ⟨rfl, Below.refl _ _⟩
      · have hsb : ¬ (2147483647 : Int) < b.size := by omega
        have hsn : (2147483647 : Int) < n := by omega
        clear hs
        go_enter Tryd.func10, Tryd.ntmps10
        go_wp2_with fail
        go_ret
        exact ⟨rfl, Below.refl _ _⟩
end Go.Proofs.YtpjadgdimkdblaaDoor
