/- far9 and spoken9 walked: how a number of 64 bits, and a value that is no list, are written. -/
import Derived.Test.YtdjgknfmehkigaaDoorDig
import Derived.Test.YtdjgknfmehkigaaDoorText
import Derived.Test.YtdjgknfmehkigaaDoorStrE
import Derived.Lib.ItoaLen
namespace Go.Proofs.YtdjgknfmehkigaaDoor
open Go.RowKit
set_option linter.unusedVariables false

theorem far_len {n : Nat} (h : n < 18446744073709551616) : (Lib.decDigits n).length ≤ 20 := by
  rw [Lib.decDigits_length]
  exact Lib.nDigits_le20 n h
set_option maxHeartbeats 1000000 in
set_option maxRecDepth 100000 in
theorem far_any (n : Nat) (hn : n < 18446744073709551616) (w : World) :
    Calls Tryd.prog 34 #[.int .u64 n] w fun e w' => e = .returned (.string ⟨(Lib.decDigits n).toArray⟩) ∧ Below w.heap.size w w' := by
  have HLN := Lib.hid (far_len hn)
  go_enter Tryd.func34, Tryd.ntmps34
  go_wp2_with fail
  go_loopw [0, 3] (fun nv ov wr => ∃ (m : Nat) (s : ByteArray) (l : List UInt8), nv = .int .u64 m ∧ ov = .string s ∧ m < 18446744073709551616 ∧ s.size ≤ 20 ∧ Hid (s.data.toList = l) ∧ Hid (Lib.decDigits n = Lib.decDigits m ++ l) ∧ Hid (Below w.heap.size w wr)) (fun nv _ _ => (intOf nv).toNat)
  case atStart => exact ⟨n, ⟨#[]⟩, [], rfl, rfl, hn, (by decide : (0 : Nat) ≤ 20), Lib.hid rfl, Lib.hid (by simp), Lib.hid (Below.refl _ _)⟩
  case round =>
    obtain ⟨m, s, l, rfl, rfl, hm, hl, HL, HD, HB⟩ := hrel
    have hmi : (m : Int) < 18446744073709551616 := by omega
    have hm0 : (0 : Int) ≤ m := by omega
    by_cases h9 : 9 < m
    · have h9i : (9 : Int) < m := by omega
      have hconv := conv_one wr (48 + (m : Int) % 10) (by omega) (by omega)
      have hz := dg_size (48 + (m : Int) % 10)
      have HDS := Lib.hid (dig_step HD.out HL.out h9)
      go_wp2_with fail
      go_roundw
      case rel =>
        refine ⟨m / 10, _, _, by go_num, rfl, by omega, ?_, Lib.hid rfl, HDS, Lib.hid (HB.out.alloc HB.out.size _)⟩
        have h1 := congrArg List.length HDS.out
        have h2 := HLN.out
        rw [List.length_append, size_list] at h1
        omega
      case measure => simp [intOf]; omega
    · have h9i : ¬ (9 : Int) < m := by omega
      have hconv := conv_one wr (48 + (m : Int)) (by omega) (by omega)
      have hz := dg_size (48 + (m : Int))
      have HDE := Lib.hid (dig_end HD.out HL.out h9)
      go_wp2_with fail
      go_ret
      exact ⟨ret_string1 HDE.out, HB.out.alloc HB.out.size _⟩
theorem shown_pos {x : VRec} {m : Nat} (hk : x.k = 1) (hn : x.n = m) : shownB x = ⟨(Lib.decDigits m).toArray⟩ := by
  unfold shownB
  rw [if_neg (by omega), if_pos hk, hn]
  have : Lib.itoa (m : Int) = Lib.decDigits m := by unfold Lib.itoa; rw [if_neg (by omega)]; rfl
  rw [this]
theorem shown_neg {x : VRec} {m : Nat} (hk : x.k = 1) (hn : x.n = -(m : Int)) (hm : 0 < m) : shownB x = (⟨#[45]⟩ : ByteArray) ++ ⟨(Lib.decDigits m).toArray⟩ := by
  unfold shownB
  rw [if_neg (by omega), if_pos hk, hn]
  apply ext_list
  rw [app_list]
  unfold Lib.itoa
  rw [if_pos (by omega)]
  have : (-(m : Int)).natAbs = m := by omega
  rw [this]
  rfl
set_option maxHeartbeats 2000000 in
theorem spoken_any (x : VRec) (w : World) (h0 : 0 ≤ x.k) (h4 : x.k ≤ 4) (hn : -9223372036854775808 ≤ x.n ∧ x.n ≤ 9223372036854775807) :
    Calls Tryd.prog 26 #[x.agg] w fun e w' => e = .returned (.string (shownB x)) ∧ Below w.heap.size w w' := by
  obtain ⟨k, n, t, A, m, c⟩ := x
  simp only at h0 h4 hn
  unfold VRec.agg
  simp only []
  have h : k = 0 ∨ k = 1 ∨ k = 2 ∨ k = 3 ∨ k = 4 := by omega
  rcases h with rfl | rfl | rfl | rfl | rfl
  case inr.inl =>
    rcases Int.lt_or_le n 0 with hneg | hpos
    · obtain ⟨u, rfl⟩ : ∃ u : Nat, n = -(u : Int) := ⟨n.natAbs, by omega⟩
      have hu0 : 0 < u := by omega
      have HSH := Lib.hid (shown_neg (x := ⟨1, -(u : Int), t, A, m, c⟩) rfl rfl hu0)
      have hu : u ≤ 9223372036854775808 := by omega
      have HLN := Lib.hid (far_len (n := u) (by omega))
      by_cases hu2 : u = 9223372036854775808
      · subst hu2
        go_enter Tryd.func26, Tryd.ntmps26
        go_wp2_with fail
        rw [show IntKind.u64.wrap (wrap64 9223372036854775808) = ((9223372036854775808 : Nat) : Int) from by kernel_rfl]
        refine (far_any 9223372036854775808 (by decide) _).mono ?_
        rintro e w2 ⟨rfl, hb2⟩
        have HB2 := Lib.hid (((Below.refl w.heap.size w).alloc (Nat.le_refl _) _).trans (hb2.mono (by simp)))
        have hz : (ByteArray.mk (Lib.decDigits 9223372036854775808).toArray).size ≤ 20 := by have := HLN.out; simpa [ByteArray.size] using this
        clear hb2
        generalize hds : (ByteArray.mk (Lib.decDigits 9223372036854775808).toArray) = ds at hz ⊢
        have HDS := Lib.hid hds
        clear hds
        go_wp2_with fail
        go_ret
        exact ⟨ret_string1 (by rw [← HDS.out]; exact HSH.out.symm), HB2.out⟩
      · have hlt : -9223372036854775808 < -(u : Int) := by omega
        go_enter Tryd.func26, Tryd.ntmps26
        go_wp2_with fail
        refine (far_any u (by omega) _).mono ?_
        rintro e w2 ⟨rfl, hb2⟩
        have HB2 := Lib.hid (((Below.refl w.heap.size w).alloc (Nat.le_refl _) _).trans (hb2.mono (by simp)))
        have hz : (ByteArray.mk (Lib.decDigits u).toArray).size ≤ 20 := by have := HLN.out; simpa [ByteArray.size] using this
        clear hb2
        generalize hds : (ByteArray.mk (Lib.decDigits u).toArray) = ds at hz ⊢
        have HDS := Lib.hid hds
        clear hds
        go_wp2_with fail
        go_ret
        exact ⟨ret_string1 (by rw [← HDS.out]; exact HSH.out.symm), HB2.out⟩
    · obtain ⟨u, rfl⟩ : ∃ u : Nat, n = u := ⟨n.toNat, by omega⟩
      have HSH := Lib.hid (shown_pos (x := ⟨1, (u : Int), t, A, m, c⟩) rfl rfl)
      go_enter Tryd.func26, Tryd.ntmps26
      go_wp2_with fail
      refine (far_any u (by omega) _).mono ?_
      rintro e w2 ⟨rfl, hb2⟩
      have HB2 := Lib.hid (((Below.refl w.heap.size w).alloc (Nat.le_refl _) _).trans (hb2.mono (by simp)))
      clear hb2
      go_wp2_with fail
      go_ret
      exact ⟨ret_string1 HSH.out.symm, HB2.out⟩
  all_goals
    go_enter Tryd.func26, Tryd.ntmps26
    go_wp2_with fail
    go_ret
    exact ⟨rfl, (Below.refl _ _).alloc (Nat.le_refl _) _⟩
end Go.Proofs.YtdjgknfmehkigaaDoor
