/- mark9 and told9 walked. -/
import Derived.Test.YtpjadgdimkdblaaDoorCmp
import Derived.Test.YtpjadgdimkdblaaDoorCnL
import Derived.Test.YtpjadgdimkdblaaDoorDig
import Derived.OpenShut
namespace Go.Proofs.YtpjadgdimkdblaaDoor
open Go.RowKit
set_option linter.unusedVariables false

theorem nx1 {w0 w w1 : World} (h : Below w0.heap.size w0 w) (hb : Below w.heap.size w w1) : Below w0.heap.size w0 w1 := h.trans (hb.mono h.size)
def mkB (k : Int) (nm : ByteArray) (j : Nat) : ByteArray := ⟨(mkK k nm.data.toList j).toArray⟩
theorem mkB_dollar (nm : ByteArray) (j : Nat) : mkB 2 nm j = (⟨#[36]⟩ : ByteArray) ++ ⟨(Lib.decDigits j).toArray⟩ := by
  apply ext_list
  rw [app_list]
  rfl
theorem mkB_at (nm : ByteArray) (j : Nat) : mkB 4 nm j = (⟨#[64, 112]⟩ : ByteArray) ++ ⟨(Lib.decDigits j).toArray⟩ := by
  apply ext_list
  rw [app_list]
  rfl
theorem mkB_name (nm : ByteArray) (j : Nat) : mkB 3 nm j = (⟨#[58]⟩ : ByteArray) ++ nm := by
  apply ext_list
  rw [app_list]
  rfl
set_option maxHeartbeats 2000000 in
theorem mark_any (kd : Int) (j : Nat) (nm : ByteArray) (w : World) (hkd : (Lit.int .u8 kd).wf = true) (hj : j < 100) (hnm : nm.size ≤ 100000) :
    Calls Tryd.prog 15 #[.int .u8 kd, .int .i64 j, .string nm] w fun e w' => e = .returned (.tuple #[.int .i64 (kd % 5), .string (mkB (kd % 5) nm j)]) ∧ Below w.heap.size w w' := by
  have hbd := Go.bounds_u8 hkd
  have hds := dec_sz j hj
  have h5 : kd % 5 = 0 ∨ kd % 5 = 1 ∨ kd % 5 = 2 ∨ kd % 5 = 3 ∨ kd % 5 = 4 := by omega
  clear hkd
  rcases h5 with h | h | h | h | h
  · rw [h]
    go_enter Tryd.func15, Tryd.ntmps15
    go_wp2_with fail
    go_ret2
    exact ⟨rfl, Below.refl _ _⟩
  · rw [h]
    go_enter Tryd.func15, Tryd.ntmps15
    go_wp2_with fail
    go_ret2
    exact ⟨rfl, Below.refl _ _⟩
  · rw [h, mkB_dollar]
    go_enter Tryd.func15, Tryd.ntmps15
    go_wp2_with fail
    refine (digits9_small j hj w).mono ?_
    rintro e w2 ⟨rfl, hb⟩
    have HB := Lib.hid hb
    clear hb
    generalize hdd : (ByteArray.mk (Lib.decDigits j).toArray) = ds at hds ⊢
    have HDD := Lib.hid hdd
    clear hdd
    go_wp2_with fail
    go_ret2
    exact ⟨by rw [HDD.out]; rfl, HB.out⟩
  · rw [h, mkB_name]
    go_enter Tryd.func15, Tryd.ntmps15
    go_wp2_with fail
    go_ret2
    exact ⟨rfl, Below.refl _ _⟩
  · rw [h, mkB_at]
    go_enter Tryd.func15, Tryd.ntmps15
    go_wp2_with fail
    refine (digits9_small j hj w).mono ?_
    rintro e w2 ⟨rfl, hb⟩
    have HB := Lib.hid hb
    clear hb
    generalize hdd : (ByteArray.mk (Lib.decDigits j).toArray) = ds at hds ⊢
    have HDD := Lib.hid hdd
    clear hdd
    go_wp2_with fail
    go_ret2
    exact ⟨by rw [HDD.out]; rfl, HB.out⟩
theorem kind_five (kd : Int) : KindOk (kd % 5) := by
  unfold KindOk
  omega
theorem mkB_size (k : Int) (nm : ByteArray) (j : Nat) (hj : j < 100) : (mkB k nm j).size ≤ nm.size + 4 := by
  have h := mkK_small k nm.data.toList j hj
  rw [size_list] at h
  exact h
/-- A text is compiled as one text with one name. -/
theorem told_any (kd : Int) (q a nm z : ByteArray) (w : World) (hkd : (Lit.int .u8 kd).wf = true) (ht : TextOk q) (hp : Pow10 w) (ha : a.size ≤ 100000) (hnm : nm.size ≤ 100000) (hz : z.size ≤ 100000)
    (hcn : cn (mkK (kd % 5)) q.data.toList none [] [] = some ((a ++ mkB (kd % 5) nm 1 ++ z).data.toList, [nm.data.toList])) :
    Calls Tryd.prog 14 #[.int .u8 kd, .string q, .string a, .string nm, .string z] w fun e w' => e = .returned (.bool true) ∧ Below w.heap.size w w' := by
  have HT := Lib.hid ht
  have HCN := Lib.hid hcn
  have HP := Lib.hid hp
  have hms := mkB_size (kd % 5) nm 1 (by decide)
  clear ht hcn hp
  go_enter Tryd.func14, Tryd.ntmps14
  go_wp2_with fail
  refine (mark_any kd 1 nm w hkd (by decide) hnm).mono ?_
  rintro e w1 ⟨rfl, hb1⟩
  have HB1 := Lib.hid hb1
  clear hb1
  have hk5 := kind_five kd
  generalize kd % 5 = k at HCN hk5 hms ⊢
  go_wp2_with fail
  refine (compiled_any k hk5 q w1 HT.out (pow10_below HP.out HB1.out)).mono ?_
  rintro e w2 hc
  obtain ⟨sv, rfl, ho, hb2⟩ := cpOk_some HCN.out hc
  have HB2 := Lib.hid (nx1 HB1.out hb2)
  obtain ⟨g, cap, rfl⟩ : ∃ g cap, sv = .slice (some ⟨g, 0, none⟩) 1 cap := by
    rcases ho.2 with ⟨_, h0⟩ | ⟨g, cap, cur, hv, _⟩
    · simp at h0
    · exact ⟨g, cap, hv⟩
  have hc0 : w2.cell? ⟨g, 0, none⟩ = some (.string nm) := by
    have h := ho.cells (g := g) rfl 0 (.string nm) rfl
    have hadd : (⟨g, 0, none⟩ : Addr).add 0 = ⟨g, 0, none⟩ := by unfold Addr.add; split <;> simp_all
    rw [hadd] at h
    exact h
  clear ho hb2 hc
  have e1 : (⟨(a ++ mkB k nm 1 ++ z).data.toList.toArray⟩ : ByteArray) = a ++ mkB k nm 1 ++ z := rfl
  rw [e1]
  generalize mkB k nm 1 = m at hms ⊢
  go_wp2_with fail
  go_ret
  exact ⟨rfl, HB2.out⟩
end Go.Proofs.YtpjadgdimkdblaaDoor
