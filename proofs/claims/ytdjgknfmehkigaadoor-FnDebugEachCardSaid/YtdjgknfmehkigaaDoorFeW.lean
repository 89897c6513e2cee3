/- FnFormEach walked: it answers true whatever the number and the texts are, and only makes new memory. -/
import Derived.Test.YtdjgknfmehkigaaDoorFull
import Derived.Test.YtdjgknfmehkigaaDoorBetF
namespace Go.Proofs.YtdjgknfmehkigaaDoor
open Go.RowKit
set_option linter.unusedVariables false

/-- Question marks between texts of which the inner ones are not empty, in a form. -/
theorem rep_bet (f : Int) (sg : ByteArray) (ss : List ByteArray) (n : Nat) (w : World) (hf : FormSg f sg) (hn : ss.length = n) (hm : n ≤ 20) (hb : ∀ i, i < n → bare1 (ss.getD i ByteArray.empty)) (hfull : fullP ss) :
    Calls Tryd.prog 21 #[.int .i64 f, .string (betS qf ss n)] w fun e w' => e = .returned (.tuple #[.string (betS (sf sg) ss n), .bool true]) ∧ Below w.heap.size w w' := by
  have h1 := reb_bet sg ss n hb []
  have h2 := cnt_bet ss n hb []
  rw [List.append_nil] at h1 h2
  have h3 := bet_size qf ss (fun _ _ => (by decide : 1 ≤ 12)) n hm (fun i hi => (hb i hi).1)
  refine (rep_any f sg (betS qf ss n) w hf (by omega) (by rw [h2]; simp [cntQ]; omega) (sep_full ss n hn hb hfull)).mono ?_
  rintro e w' ⟨rfl, hb⟩
  refine ⟨?_, hb⟩
  have e : (⟨(rebL sg.data.toList (betS qf ss n).data.toList 0).toArray⟩ : ByteArray) = betS (sf sg) ss n := by
    apply ext_list
    show rebL _ _ _ = _
    rw [h1]
    simp [rebL]
  rw [e]
theorem formSg_size {f : Int} {sg : ByteArray} (h : FormSg f sg) : sg.size ≤ 10 := by
  rcases h with ⟨_, rfl⟩ | ⟨_, rfl⟩ | ⟨_, rfl⟩ <;> decide
theorem nx {w0 w w1 : World} (h : Below w0.heap.size w0 w) (hb : Below w.heap.size w w1) : Below w0.heap.size w0 w1 := h.trans (hb.mono h.size)
theorem box_cell (w : World) (v : Value) (T : TypeId) : (w.alloc (.cells #[v] T)).cell? ⟨w.heap.size, 0, none⟩ = some v := (cell_of_row _ _ _ _ _ _ (heap_alloc_new w _)).trans rfl
set_option maxHeartbeats 4000000 in
set_option maxRecDepth 100000 in
theorem formEach_any (kd : Int) (A : Option Addr) (n c : Nat) (ss : List ByteArray) (w : World) (hkd : (Lit.int .u8 kd).wf = true) (hn : ss.length = n) (hm : n ≤ maxLen) (hx : StrsAt w A ss) (hz : ∀ i, i < n → (ss.getD i ByteArray.empty).size ≤ maxLen) :
    Calls Tryd.prog 6 #[.int .u8 kd, .slice A n c] w fun e w' => e = .returned (.bool true) ∧ Below w.heap.size w w' := by
  have HX := Lib.hid hx
  have HN := Lib.hid hn
  have HZ := Lib.hid hz
  have hm2 := hm
  unfold maxLen at hm2
  have HM := Lib.hid hm
  clear hx hn hz hm
  go_enter Tryd.func6, Tryd.ntmps6
  go_wp2_with fail
  refine (fits2_any A n c ss _ HN.out HM.out HX.out).mono ?_
  rintro e w' ⟨r, rfl, hr, rfl⟩
  cases r with
  | false =>
    go_wp2
    go_ret
    exact ⟨rfl, Below.refl _ _⟩
  | true =>
  clear hr
  go_wp2_with fail
  refine (bare_at A n c ss _ HN.out HM.out HX.out HZ.out).mono ?_
  rintro e w' ⟨rfl, rfl⟩
  cases hB : bareB ss with
  | false =>
    go_wp2
    go_ret
    exact ⟨rfl, Below.refl _ _⟩
  | true =>
  have HBB := Lib.hid (bareB_iff.1 hB)
  have hn20 : n ≤ 20 := by rw [← HN.out]; exact HBB.out.2
  have HBR := Lib.hid (show ∀ i, i < n → bare1 (ss.getD i ByteArray.empty) from fun i hi => HBB.out.1 i (by rw [HN.out]; exact hi))
  have HSZ := Lib.hid (show ∀ i, i < n → (ss.getD i ByteArray.empty).size ≤ 100 from fun i hi => (HBR.out i hi).1)
  clear hB HBB
  go_wp2_with fail
  refine (full_at A n c ss _ HN.out hn20 HX.out).mono ?_
  rintro e w' ⟨rfl, rfl⟩
  cases hF : fullB ss with
  | false =>
    go_wp2
    go_ret
    exact ⟨rfl, Below.refl _ _⟩
  | true =>
  have HF := Lib.hid (fullB_iff.1 hF)
  clear hF
  go_wp2_with fail
  refine (sign_at kd _ hkd).mono ?_
  rintro e w1 ⟨f, sg, hfs, rfl, hb1⟩
  have HFS := Lib.hid hfs
  have HB1 := Lib.hid hb1
  have hs10 := formSg_size hfs
  clear hb1 hfs hkd
  go_wp2_with fail
  have HWB := Lib.hid (show Below w.heap.size w (w1.alloc (.cells #[.string sg] 9)) from HB1.out.alloc HB1.out.size _)
  have HBX := Lib.hid (box_cell w1 (.string sg) 9)
  generalize w1.alloc (.cells #[.string sg] 9) = wB at HWB HBX ⊢
  generalize w1.heap.size = b0 at HBX ⊢
  clear HB1
  refine (between_q A n c ss wB HN.out hn20 (strsAt_below HX.out HWB.out) HSZ.out).mono ?_
  rintro e w2 ⟨rfl, hb2⟩
  have HW2 := Lib.hid (nx HWB.out hb2)
  have HBX2 := Lib.hid ((hb2.cell (p := ⟨b0, 0, none⟩) (World.block_lt_of_cell? wB _ HBX.out)).trans HBX.out)
  clear hb2
  go_wp2_with fail
  refine (rep_bet f sg ss n w2 HFS.out HN.out hn20 HBR.out HF.out).mono ?_
  rintro e w3 ⟨rfl, hb3⟩
  have HW3 := Lib.hid (nx HW2.out hb3)
  have HBX3 := Lib.hid ((hb3.cell (p := ⟨b0, 0, none⟩) (World.block_lt_of_cell? w2 _ HBX2.out)).trans HBX2.out)
  clear hb3
  go_wp2_with fail
  refine (between_fe A n c ss b0 sg w3 HN.out hn20 (strsAt_below HX.out HW3.out) HSZ.out hs10 HBX3.out).mono ?_
  rintro e w4 ⟨rfl, hb4⟩
  have HW4 := Lib.hid (nx HW3.out hb4)
  clear hb4
  go_wp2_with fail
  go_ret
  exact ⟨rfl, HW4.out⟩
end Go.Proofs.YtdjgknfmehkigaaDoor
