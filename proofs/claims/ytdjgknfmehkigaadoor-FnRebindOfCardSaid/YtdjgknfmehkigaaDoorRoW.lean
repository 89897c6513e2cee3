/- FnRebindOf walked: it answers true whatever the number and the texts are, and only makes new memory. -/
import Derived.Test.YtdjgknfmehkigaaDoorBindO
import Derived.OpenShut
namespace Go.Proofs.YtdjgknfmehkigaaDoor
open Go.RowKit
set_option linter.unusedVariables false

theorem nxo {w0 w w1 : World} (h : Below w0.heap.size w0 w) (hb : Below w.heap.size w w1) : Below w0.heap.size w0 w1 := h.trans (hb.mono h.size)
set_option maxHeartbeats 4000000 in
set_option maxRecDepth 100000 in
theorem rebOf_any (kd : Int) (A : Option Addr) (n c : Nat) (ss : List ByteArray) (w : World) (hkd : (Lit.int .u8 kd).wf = true) (hn : ss.length = n) (hm : n ≤ maxLen) (hx : StrsAt w A ss) (hz : ∀ i, i < n → (ss.getD i ByteArray.empty).size ≤ maxLen) :
    Calls Tryd.prog 4 #[.int .u8 kd, .slice A n c] w fun e w' => e = .returned (.bool true) ∧ Below w.heap.size w w' := by
  have hbd := Go.bounds_u8 hkd
  obtain ⟨m, hkm⟩ : ∃ m : Nat, kd % 9 = m := ⟨(kd % 9).toNat, by omega⟩
  have hm9 : m < 9 := by omega
  have hm9i : (m : Int) < 9 := by omega
  have hm0i : (0 : Int) ≤ m := by omega
  have HX := Lib.hid hx
  have HN := Lib.hid hn
  have HZ := Lib.hid hz
  have hm2 := hm
  unfold maxLen at hm2
  have HM := Lib.hid hm
  clear hx hn hz hkd hm
  go_enter Tryd.func4, Tryd.ntmps4
  go_wp2_with fail
  refine (fits2_any A n c ss _ HN.out HM.out HX.out).mono ?_
  rintro e w' ⟨r, rfl, hr, rfl⟩
  cases r with
  | false =>
    go_wp2
    go_ret
    exact ⟨rfl, Below.refl _ _⟩
  | true =>
  clear hr
  go_wp2_with fail
  refine (bare_at A n c ss _ HN.out HM.out HX.out HZ.out).mono ?_
  rintro e w' ⟨rfl, rfl⟩
  cases hB : bareB ss with
  | false =>
    go_wp2
    go_ret
    exact ⟨rfl, Below.refl _ _⟩
  | true =>
  have HBB := Lib.hid (bareB_iff.1 hB)
  have hn20 : n ≤ 20 := by rw [← HN.out]; exact HBB.out.2
  have HBR := Lib.hid (show ∀ i, i < n → bare1 (ss.getD i ByteArray.empty) from fun i hi => HBB.out.1 i (by rw [HN.out]; exact hi))
  have HSZ := Lib.hid (show ∀ i, i < n → (ss.getD i ByteArray.empty).size ≤ 100 from fun i hi => (HBR.out i hi).1)
  clear hB HBB
  go_wp2_with fail
  rw [drv_lst m hm9]
  have HBOX := Lib.hid (of_boxes w (.cells #[.string ⟨#[112, 111, 115, 116, 103, 114, 101, 115]⟩, .string ⟨#[112, 103, 120]⟩, .string ⟨#[99, 111, 99, 107, 114, 111, 97, 99, 104]⟩, .string ⟨#[109, 121, 115, 113, 108]⟩, .string ⟨#[115, 113, 108, 105, 116, 101, 51]⟩, .string ⟨#[115, 113, 108, 115, 101, 114, 118, 101, 114]⟩, .string ⟨#[111, 99, 105, 56]⟩, .string ⟨#[103, 111, 100, 114, 111, 114]⟩, .string ⟨#[110, 111, 98, 111, 100, 121]⟩] 9) m hm9 9 22 3)
  have HWB := Lib.hid (show Below w.heap.size w ((((w.alloc (.cells #[.string ⟨#[112, 111, 115, 116, 103, 114, 101, 115]⟩, .string ⟨#[112, 103, 120]⟩, .string ⟨#[99, 111, 99, 107, 114, 111, 97, 99, 104]⟩, .string ⟨#[109, 121, 115, 113, 108]⟩, .string ⟨#[115, 113, 108, 105, 116, 101, 51]⟩, .string ⟨#[115, 113, 108, 115, 101, 114, 118, 101, 114]⟩, .string ⟨#[111, 99, 105, 56]⟩, .string ⟨#[103, 111, 100, 114, 111, 114]⟩, .string ⟨#[110, 111, 98, 111, 100, 121]⟩] 9)).alloc (.cells #[.string ⟨#[36]⟩, .string ⟨#[36]⟩, .string ⟨#[36]⟩, .string ⟨#[]⟩, .string ⟨#[]⟩, .string ⟨#[64, 112]⟩, .string ⟨#[58, 97, 114, 103]⟩, .string ⟨#[58, 97, 114, 103]⟩, .string ⟨#[]⟩] 9)).alloc (.cells #[.slice (some ⟨w.heap.size + 1, 0, none⟩) 9 9] 22)).alloc (.cells #[.int .i64 m] 3)) from
    ((((Below.refl _ w).alloc (Nat.le_refl _) _).alloc (by simp only [World.size_alloc]; omega) _).alloc (by simp only [World.size_alloc]; omega) _).alloc (by simp only [World.size_alloc]; omega) _)
  generalize ((((w.alloc (.cells #[.string ⟨#[112, 111, 115, 116, 103, 114, 101, 115]⟩, .string ⟨#[112, 103, 120]⟩, .string ⟨#[99, 111, 99, 107, 114, 111, 97, 99, 104]⟩, .string ⟨#[109, 121, 115, 113, 108]⟩, .string ⟨#[115, 113, 108, 105, 116, 101, 51]⟩, .string ⟨#[115, 113, 108, 115, 101, 114, 118, 101, 114]⟩, .string ⟨#[111, 99, 105, 56]⟩, .string ⟨#[103, 111, 100, 114, 111, 114]⟩, .string ⟨#[110, 111, 98, 111, 100, 121]⟩] 9)).alloc (.cells #[.string ⟨#[36]⟩, .string ⟨#[36]⟩, .string ⟨#[36]⟩, .string ⟨#[]⟩, .string ⟨#[]⟩, .string ⟨#[64, 112]⟩, .string ⟨#[58, 97, 114, 103]⟩, .string ⟨#[58, 97, 114, 103]⟩, .string ⟨#[]⟩] 9)).alloc (.cells #[.slice (some ⟨w.heap.size + 1, 0, none⟩) 9 9] 22)).alloc (.cells #[.int .i64 m] 3)) = wB at HBOX HWB ⊢
  have HSG := Lib.hid (sgn_size m hm9)
  refine (bindOf_any m hm9 wB).mono ?_
  rintro e w' ⟨rfl, rfl⟩
  go_wp2_with fail
  refine (between_q A n c ss wB HN.out hn20 (strsAt_below HX.out HWB.out) HSZ.out).mono ?_
  rintro e w2 ⟨rfl, hb2⟩
  have HW2 := Lib.hid (nxo HWB.out hb2)
  have HBOX2 := Lib.hid (boxes_below HBOX.out hb2)
  clear hb2 HBOX
  go_wp2_with fail
  refine (rebound_of m hm9 ss n w2 hn20 HBR.out).mono ?_
  rintro e w3 ⟨rfl, hb3⟩
  have HW3 := Lib.hid (nxo HW2.out hb3)
  have HBOX3 := Lib.hid (boxes_below HBOX2.out hb3)
  clear hb3 HBOX2 HW2
  go_wp2_with fail
  refine (between_ro A n c ss _ _ _ m (sgnN m) w3 HN.out hn20 (strsAt_below HX.out HW3.out) HSZ.out hm9 HSG.out HBOX3.out).mono ?_
  rintro e w4 ⟨rfl, hb4⟩
  have HW4 := Lib.hid (nxo HW3.out hb4)
  clear hb4 HBOX3 HW3
  go_wp2_with fail
  refine (bindOf_any 0 (by decide) w4).mono ?_
  rintro e w' ⟨rfl, rfl⟩
  go_wp2_with fail
  go_ret
  exact ⟨rfl, HW4.out⟩
end Go.Proofs.YtdjgknfmehkigaaDoor
