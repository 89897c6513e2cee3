/- FnRebindEach walked, the kind with the number 2 of three. -/
import Derived.Test.YtdjgknfmehkigaaDoorRbC
namespace Go.Proofs.YtdjgknfmehkigaaDoor
open Go.RowKit
set_option linter.unusedVariables false

set_option maxHeartbeats 16000000 in
set_option maxRecDepth 100000 in
theorem rebEach_2 (kd : Int) (hk : kd % 3 = 2) (A : Option Addr) (n c : Nat) (ss : List ByteArray) (w : World) (hkd : (Lit.int .u8 kd).wf = true) (hn : ss.length = n) (hm : n ≤ maxLen) (hx : StrsAt w A ss) (hz : ∀ i, i < n → (ss.getD i ByteArray.empty).size ≤ maxLen) :
    Calls Tryd.prog 3 #[.int .u8 kd, .slice A n c] w fun e w' => e = .returned (.bool true) ∧ Below w.heap.size w w' := by
  have hbd := Go.bounds_u8 hkd
  have HX := Lib.hid hx
  have HN := Lib.hid hn
  have HZ := Lib.hid hz
  have hm2 := hm
  unfold maxLen at hm2
  have HM := Lib.hid hm
  clear hx hn hz hkd hm
  · go_enter Tryd.func3, Tryd.ntmps3
    go_wp2_with fail
    refine (fits2_any A n c ss _ HN.out HM.out HX.out).mono ?_
    rintro e w' ⟨r, rfl, hr, rfl⟩
    cases r with
    | false =>
      go_wp2
      go_ret
      exact ⟨rfl, Below.refl _ _⟩
    | true =>
    clear hr
    go_wp2_with fail
    refine (bare_at A n c ss _ HN.out HM.out HX.out HZ.out).mono ?_
    rintro e w' ⟨rfl, rfl⟩
    cases hB : bareB ss with
    | false =>
      go_wp2
      go_ret
      exact ⟨rfl, Below.refl _ _⟩
    | true =>
    have HBB := Lib.hid (bareB_iff.1 hB)
    have hn20 : n ≤ 20 := by rw [← HN.out]; exact HBB.out.2
    have HBR := Lib.hid (show ∀ i, i < n → bare1 (ss.getD i ByteArray.empty) from fun i hi => HBB.out.1 i (by rw [HN.out]; exact hi))
    clear hB HBB
    go_wp2_with fail
    have HSZ := Lib.hid (show ∀ i, i < n → (ss.getD i ByteArray.empty).size ≤ 100 from fun i hi => (HBR.out i hi).1)
    have HWB := Lib.hid (show Below w.heap.size w ((w.alloc (.cells #[.string ⟨#[36]⟩, .string ⟨#[58, 97, 114, 103]⟩, .string ⟨#[64, 112]⟩] 9)).alloc (.cells #[.string ⟨#[64, 112]⟩] 9)) from ((Below.refl _ _).alloc (Nat.le_refl _) _).alloc (by simp) _)
    have HBX := Lib.hid (show ((w.alloc (.cells #[.string ⟨#[36]⟩, .string ⟨#[58, 97, 114, 103]⟩, .string ⟨#[64, 112]⟩] 9)).alloc (.cells #[.string ⟨#[64, 112]⟩] 9)).cell? ⟨w.heap.size + 1, 0, none⟩ = some (.string ⟨#[64, 112]⟩) from by
      have h := heap_alloc_new (w.alloc (.cells #[.string ⟨#[36]⟩, .string ⟨#[58, 97, 114, 103]⟩, .string ⟨#[64, 112]⟩] 9)) (.cells #[.string ⟨#[64, 112]⟩] 9)
      rw [World.size_alloc] at h
      exact (cell_of_row _ _ _ _ _ _ h).trans rfl)
    generalize hwB : (w.alloc (.cells #[.string ⟨#[36]⟩, .string ⟨#[58, 97, 114, 103]⟩, .string ⟨#[64, 112]⟩] 9)).alloc (.cells #[.string ⟨#[64, 112]⟩] 9) = wB at HWB HBX
    generalize hb0 : w.heap.size + 1 = b0 at HBX
    clear hwB hb0
    have HXB := Lib.hid (strsAt_below HX.out HWB.out)
    have HCL := Lib.hid (show ∀ w1, Below ((wB.alloc (.cells #[.int .i64 2, .int .i64 3, .int .i64 4] 3)).drew).heap.size (wB.alloc (.cells #[.int .i64 2, .int .i64 3, .int .i64 4] 3)).drew w1 → w1.cell? ⟨wB.heap.size, 2, none⟩ = some (.int .i64 4) from fun w1 h => by
      have h1 := h.cell (p := ⟨wB.heap.size, 2, none⟩) (by simp)
      rw [h1]
      exact (cell_of_row _ _ _ _ _ _ (heap_alloc_new wB _)).trans rfl)
    go_region_with (first
      | (go_at_call 13; with_reducible refine (between_q A n c ss _ HN.out hn20 ?_ HSZ.out).mono ?_; (refine strsAt_below HXB.out ?_; (first | exact b_drew (b_refl _) | exact b_drew (b_alloc (b_refl _) _) | exact HQ3 | exact HQ2 | exact b_alloc HQ2 _ | exact HQ1 | exact b_alloc HQ1 _ | exact b_drew HQ1 | exact b_drew (b_alloc HQ1 _))); rintro e w1 ⟨rfl, hb1⟩; (try have hcl := HCL.out w1 hb1); have HQ1 := b_next (w0 := wB) (by (first | exact b_drew (b_refl _) | exact b_drew (b_alloc (b_refl _) _) | exact HQ3 | exact HQ2 | exact b_alloc HQ2 _ | exact HQ1 | exact b_alloc HQ1 _ | exact b_drew HQ1 | exact b_drew (b_alloc HQ1 _))) hb1; clear hb1)
      | (go_at_call 13; with_reducible refine (between_re A n c ss b0 ⟨#[64, 112]⟩ _ HN.out hn20 ?_ HSZ.out (by decide) ?_).mono ?_; (refine strsAt_below HXB.out ?_; (first | exact b_drew (b_refl _) | exact b_drew (b_alloc (b_refl _) _) | exact HQ3 | exact HQ2 | exact b_alloc HQ2 _ | exact HQ1 | exact b_alloc HQ1 _ | exact b_drew HQ1 | exact b_drew (b_alloc HQ1 _))); (refine ((Below.cell (w := wB) (B := wB.heap.size) ?_ (World.block_lt_of_cell? wB ⟨b0, 0, none⟩ HBX.out)).trans HBX.out); (first | exact b_drew (b_refl _) | exact b_drew (b_alloc (b_refl _) _) | exact HQ3 | exact HQ2 | exact b_alloc HQ2 _ | exact HQ1 | exact b_alloc HQ1 _ | exact b_drew HQ1 | exact b_drew (b_alloc HQ1 _))); rintro e w3 ⟨rfl, hb3⟩; have HQ3 := b_next (w0 := wB) (by (first | exact b_drew (b_refl _) | exact b_drew (b_alloc (b_refl _) _) | exact HQ3 | exact HQ2 | exact b_alloc HQ2 _ | exact HQ1 | exact b_alloc HQ1 _ | exact b_drew HQ1 | exact b_drew (b_alloc HQ1 _))) hb3; clear hb3)
      | (go_at_call 12; with_reducible refine (rebound_bet ss n 4 ⟨#[64, 112]⟩ _ (.inr (.inr ⟨rfl, rfl⟩)) hn20 HBR.out).mono ?_; rintro e w2 ⟨rfl, hb2⟩; have HQ2 := b_next (w0 := wB) (by (first | exact b_drew (b_refl _) | exact b_drew (b_alloc (b_refl _) _) | exact HQ3 | exact HQ2 | exact b_alloc HQ2 _ | exact HQ1 | exact b_alloc HQ1 _ | exact b_drew HQ1 | exact b_drew (b_alloc HQ1 _))) hb2; clear hb2)
      | (go_at_call 12; with_reducible refine (one_mark _).mono ?_; rintro e w4 ⟨rfl, hb4⟩; have HQ4 := b_next (w0 := wB) (by (first | exact b_drew (b_refl _) | exact b_drew (b_alloc (b_refl _) _) | exact HQ3 | exact HQ2 | exact b_alloc HQ2 _ | exact HQ1 | exact b_alloc HQ1 _ | exact b_drew HQ1 | exact b_drew (b_alloc HQ1 _))) hb4; clear hb4))
    all_goals
      go_wp2_with fail
      go_ret
      exact ⟨rfl, b_last HWB.out HQ4⟩
end Go.Proofs.YtdjgknfmehkigaaDoor
