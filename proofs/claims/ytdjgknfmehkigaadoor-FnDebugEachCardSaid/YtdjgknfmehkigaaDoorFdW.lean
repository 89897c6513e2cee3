/- FnFormDone walked: it answers true whatever the numbers and the texts are, and only makes new memory. -/
import Derived.Test.YtdjgknfmehkigaaDoorFeW
namespace Go.Proofs.YtdjgknfmehkigaaDoor
open Go.RowKit
set_option linter.unusedVariables false

theorem dec_digit : ∀ (i : Nat), ∀ c ∈ Lib.decDigits i, 48 ≤ c.toNat ∧ c.toNat ≤ 57 := by
  intro i
  induction i using Nat.strongRecOn with
  | _ i ih =>
    intro c hc
    rw [Lib.decDigits] at hc
    split at hc
    · rename_i h
      simp only [List.mem_singleton] at hc
      subst hc
      rw [UInt8.toNat_ofNat']
      omega
    · rename_i h
      rcases List.mem_append.1 hc with hc | hc
      · exact ih (i / 10) (by omega) c hc
      · simp only [List.mem_singleton] at hc
        subst hc
        rw [UInt8.toNat_ofNat']
        omega
theorem free_sf {f : Int} {sg : ByteArray} (hf : FormSg f sg) (i : Nat) : ∀ c ∈ (sf sg i).data.toList, (c.toNat : Int) ≠ 63 := by
  intro c hc
  unfold sf at hc
  rw [app_list] at hc
  rcases List.mem_append.1 hc with hc | hc
  · rcases hf with ⟨_, rfl⟩ | ⟨_, rfl⟩ | ⟨_, rfl⟩
    all_goals
      simp at hc
      first
        | (subst hc; decide)
        | (rcases hc with rfl | rfl <;> decide)
  · have := dec_digit i c hc
    omega
theorem free_bet (f : Nat → ByteArray) (ss : List ByteArray) (hf : ∀ i, ∀ c ∈ (f i).data.toList, (c.toNat : Int) ≠ 63) : ∀ k, (∀ i, i < k → bare1 (ss.getD i ByteArray.empty)) → ∀ c ∈ (betS f ss k).data.toList, (c.toNat : Int) ≠ 63
  | 0, _ => by simp [betS]
  | k + 1, h => by
    intro c hc
    by_cases h0 : k = 0
    · subst h0
      have e1 : (betS f ss (0 + 1)).data.toList = (ss.getD 0 ByteArray.empty).data.toList := by rw [betS_one, app_list]; rfl
      rw [e1] at hc
      exact free63 (h 0 (by omega)) c hc
    · rw [bet_list f ss k h0] at hc
      rcases List.mem_append.1 hc with hc | hc
      · exact free_bet f ss hf k (fun i hi => h i (by omega)) c hc
      · rcases List.mem_append.1 hc with hc | hc
        · exact hf k c hc
        · exact free63 (h k (by omega)) c hc
theorem cntQ_free {a : List UInt8} (h : ∀ c ∈ a, (c.toNat : Int) ≠ 63) : cntQ a = 0 := by
  have := cntQ_skip a h []
  rw [List.append_nil] at this
  rw [this]
  rfl
theorem rebL_free (sg : List UInt8) {a : List UInt8} (h : ∀ c ∈ a, (c.toNat : Int) ≠ 63) (j : Nat) : rebL sg a j = a := by
  have := rebL_skip sg a h [] j
  rw [List.append_nil] at this
  rw [this, rebL, List.append_nil]
theorem rep_free (f : Int) (sg q : ByteArray) (w : World) (hf : FormSg f sg) (hq : q.size ≤ 100000) (hfree : ∀ c ∈ q.data.toList, (c.toNat : Int) ≠ 63) :
    Calls Tryd.prog 21 #[.int .i64 f, .string q] w fun e w' => e = .returned (.tuple #[.string q, .bool true]) ∧ Below w.heap.size w w' := by
  have h := rep_any f sg q w hf hq (by rw [cntQ_free hfree]; omega) (sepQ_free hfree)
  rw [rebL_free _ hfree] at h
  exact h
theorem meth_question (w : World) : Sem.run Tryd.prog (method 233 69 (.agg #[]) "ReplacePlaceholders") w = .ok (79, .agg #[]) w := by kernel_rfl
theorem question_form (q : ByteArray) (w : World) :
    Calls Tryd.prog 79 #[.agg #[], .string q] w fun e w' => e = .returned (.tuple #[.string q, .nilIface]) ∧ Below w.heap.size w w' := by
  go_enter Tryd.func79, Tryd.ntmps79
  go_wp2_with fail
  try go_quiet (fail)
  go_wp2_with fail
  go_ret2
  exact ⟨rfl, (((Below.refl w.heap.size w).alloc (Nat.le_refl _) _))⟩
set_option maxRecDepth 100000 in
set_option maxHeartbeats 1000000 in
theorem rep_1 (q : ByteArray) (w : World) :
    Calls Tryd.prog 21 #[.int .i64 1, .string q] w fun e w' => e = .returned (.tuple #[.string q, .bool true]) ∧ Below w.heap.size w w' := by
  have hmeth := meth_question
  go_enter Tryd.func21, Tryd.ntmps21
  go_wp2_with fail
  refine (formOf_0 w).mono ?_
  rintro e w1 ⟨rfl, rfl⟩
  go_wp2_with fail
  refine (question_form q w).mono ?_
  rintro e w1 ⟨rfl, hb⟩
  have HB := Lib.hid hb
  clear hb
  go_wp2_with fail
  go_quiet (fail)
  go_wp2_with fail
  go_ret2
  exact ⟨rfl, HB.out.trans (below_drewN _ _ _)⟩
set_option maxHeartbeats 4000000 in
set_option maxRecDepth 100000 in
theorem formDone_any (x y : Int) (A : Option Addr) (n c : Nat) (ss : List ByteArray) (w : World) (hx8 : (Lit.int .u8 x).wf = true) (hy8 : (Lit.int .u8 y).wf = true) (hn : ss.length = n) (hm : n ≤ maxLen) (hx : StrsAt w A ss) (hz : ∀ i, i < n → (ss.getD i ByteArray.empty).size ≤ maxLen) :
    Calls Tryd.prog 5 #[.int .u8 x, .int .u8 y, .slice A n c] w fun e w' => e = .returned (.bool true) ∧ Below w.heap.size w w' := by
  have HX := Lib.hid hx
  have HN := Lib.hid hn
  have HZ := Lib.hid hz
  have hm2 := hm
  unfold maxLen at hm2
  have HM := Lib.hid hm
  clear hx hn hz hm
  go_enter Tryd.func5, Tryd.ntmps5
  go_wp2_with fail
  refine (fits2_any A n c ss _ HN.out HM.out HX.out).mono ?_
  rintro e w' ⟨r, rfl, hr, rfl⟩
  cases r with
  | false =>
    go_wp2
    go_ret
    exact ⟨rfl, Below.refl _ _⟩
  | true =>
  clear hr
  go_wp2_with fail
  refine (bare_at A n c ss _ HN.out HM.out HX.out HZ.out).mono ?_
  rintro e w' ⟨rfl, rfl⟩
  cases hB : bareB ss with
  | false =>
    go_wp2
    go_ret
    exact ⟨rfl, Below.refl _ _⟩
  | true =>
  have HBB := Lib.hid (bareB_iff.1 hB)
  have hn20 : n ≤ 20 := by rw [← HN.out]; exact HBB.out.2
  have HBR := Lib.hid (show ∀ i, i < n → bare1 (ss.getD i ByteArray.empty) from fun i hi => HBB.out.1 i (by rw [HN.out]; exact hi))
  have HSZ := Lib.hid (show ∀ i, i < n → (ss.getD i ByteArray.empty).size ≤ 100 from fun i hi => (HBR.out i hi).1)
  clear hB HBB
  go_wp2_with fail
  refine (full_at A n c ss _ HN.out hn20 HX.out).mono ?_
  rintro e w' ⟨rfl, rfl⟩
  cases hF : fullB ss with
  | false =>
    go_wp2
    go_ret
    exact ⟨rfl, Below.refl _ _⟩
  | true =>
  have HF := Lib.hid (fullB_iff.1 hF)
  clear hF
  go_wp2_with fail
  refine (sign_at x _ hx8).mono ?_
  rintro e w1 ⟨f, sg, hfs, rfl, hb1⟩
  have HFS := Lib.hid hfs
  have HW1 := Lib.hid hb1
  clear hb1 hfs hx8
  go_wp2_with fail
  refine (sign_at y w1 hy8).mono ?_
  rintro e w2 ⟨g, sh, hgs, rfl, hb2⟩
  have HGS := Lib.hid hgs
  have HW2 := Lib.hid (nx HW1.out hb2)
  clear hb2 hgs hy8 HW1
  go_wp2_with fail
  refine (between_q A n c ss w2 HN.out hn20 (strsAt_below HX.out HW2.out) HSZ.out).mono ?_
  rintro e w3 ⟨rfl, hb3⟩
  have HW3 := Lib.hid (nx HW2.out hb3)
  clear hb3 HW2
  go_wp2_with fail
  refine (rep_bet f sg ss n w3 HFS.out HN.out hn20 HBR.out HF.out).mono ?_
  rintro e w4 ⟨rfl, hb4⟩
  have HW4 := Lib.hid (nx HW3.out hb4)
  have HFR := Lib.hid (free_bet (sf sg) ss (free_sf HFS.out) n HBR.out)
  have HZS := Lib.hid (bet_size (sf sg) ss (fun k hk => sf_size (formSg_size HFS.out) hk) n hn20 HSZ.out)
  clear hb4 HW3
  generalize betS (sf sg) ss n = a at HFR HZS ⊢
  have hza : a.size ≤ 2400 := by have := HZS.out; omega
  go_wp2_with fail
  refine (rep_free g sh a w4 HGS.out (by omega) HFR.out).mono ?_
  rintro e w5 ⟨rfl, hb5⟩
  have HW5 := Lib.hid (nx HW4.out hb5)
  clear hb5 HW4
  go_wp2_with fail
  refine (rep_1 a w5).mono ?_
  rintro e w6 ⟨rfl, hb6⟩
  have HW6 := Lib.hid (nx HW5.out hb6)
  clear hb6 HW5
  go_wp2_with fail
  go_ret
  exact ⟨rfl, HW6.out⟩
end Go.Proofs.YtdjgknfmehkigaaDoor
