/- compileNamedQuery walked, for the kind 1 of placeholders: it answers as the plain law says. -/
import Derived.Test.YtpjadgdimkdblaaDoorCnD
namespace Go.Proofs.YtpjadgdimkdblaaDoor
open Go.RowKit
set_option linter.unusedVariables false

set_option maxHeartbeats 40000000 in
set_option maxRecDepth 100000 in
theorem cn_1 (b n c : Nat) (q : ByteArray) (w : World) (hn : q.size = n) (hb : b < w.heap.size) (hcell : ∀ i, i < n → w.cell? ⟨b, i, none⟩ = some (.int .u8 ((q.data.toList.getD i 0).toNat : Int))) (hq : n ≤ 100000) (h58 : cnt58 q.data.toList ≤ 98) (hasc : asc q) (hp : Pow10 w) :
    Calls Tryd.prog 43 #[.slice (some ⟨b, 0, none⟩) n c, .int .i64 1] w (CnOk 1 q w) := by
  obtain ⟨i0, hi0, hz0, hz1, hz2⟩ := info_parts Tryd.infoByte
  obtain ⟨j0, hj0, hy0, hy1, hy2⟩ := info_parts Tryd.infoString
  have HN := Lib.hid hn
  have HC := Lib.hid hcell
  have HA := Lib.hid hasc
  have HP := Lib.hid hp
  have HCS := Lib.hid (cnp_start (mkK 1) q h58)
  clear hn hcell h58 hasc hp
  have hm1 := mk_names
  have hm2 := mk_name
  go_enter Tryd.func43, Tryd.ntmps43
  go_wp2_with (at_make; refine wpList_make_own _ rfl _ _ 59 rfl w.heap.size 5 i0 (.int .u8 0) 1 Tryd.underlying59 hi0 hz0 hz1 .i64 .i64 _ n rfl rfl rfl (by rw [hz2]; omega) (by unfold maxLen; omega) (by simp) ?_; intro w1 hown1 hg1; refine Hid.out ?_)
  refine Lib.hid ?_
  have HST := Lib.hid (o3_start (by rw [World.size_alloc] at hown1; exact hown1) hg1 (.cells tenB 5))
  clear hown1 hg1
  go_wp2_with fail
  generalize w1.alloc (.cells tenB 5) = w2 at HST ⊢
  go_loopw [4, 5, 6, 7, 8, 10, 11, 28] (fun qv sv' ev rv' iv cv nv' kv wr => (∃ (rv sv : Value) (k : Nat) (L : List UInt8) (ns : List (List UInt8)), rv = rv' ∧ sv = sv' ∧ qv = .string ⟨#[]⟩ ∧ ev = .nilIface ∧ iv = .bool false ∧ cv = .int .i64 1 ∧ kv = .int .i64 k ∧ k ≤ n ∧ Hid (CnA (mkK 1) q w k rv sv L ns wr)) ∨ (∃ (rv sv nv : Value) (k : Nat) (L nm : List UInt8) (ns : List (List UInt8)), rv = rv' ∧ sv = sv' ∧ nv = nv' ∧ qv = .string ⟨#[]⟩ ∧ ev = .nilIface ∧ iv = .bool true ∧ cv = .int .i64 1 ∧ kv = .int .i64 k ∧ k ≤ n ∧ Hid (CnB (mkK 1) q w k rv nv sv L nm ns wr))) (fun _ _ _ _ _ _ _ kv _ => n - (intOf kv).toNat)
  case atStart => exact .inl ⟨_, _, 0, [], [], rfl, rfl, rfl, rfl, rfl, rfl, rfl, Nat.zero_le _, Lib.hid ⟨HST.out.1, HST.out.2, HCS.out⟩⟩
  case round =>
    clear HST hm1 hm2
    rcases hrel with ⟨rv, sv, k, L, ns, rfl, rfl, rfl, rfl, rfl, rfl, rfl, hk, HS⟩ | ⟨rv, sv, nv, k, L, nm, ns, rfl, rfl, rfl, rfl, rfl, rfl, rfl, rfl, hk, HS⟩
    · as_aux_lemma =>
      have HO := Lib.hid HS.out.1
      have HL := Lib.hid HS.out.2.1
      have HP0 := Lib.hid HS.out.2.2
      have hz := HL.out.size
      have hLb : L.length ≤ 600000 := by have := HP0.out.2.2.1; simp only at this; omega
      have h0 : (0 : Int) ≤ k := by omega
      by_cases hlt : k < n
      · have hkn : (k : Int) < n := by omega
        have hcl := (HL.out.cell (p := ⟨b, k, none⟩) hb).trans (HC.out k hlt)
        obtain ⟨t, hd, hte⟩ := drop_cons_of HN.out hlt
        generalize q.data.toList.getD k 0 = cb at hcl hd
        have HD := Lib.hid hd
        clear hd hte
        by_cases h58 : cb = 58
        · have hbc : ((cb.toNat : Int) == 58) = true := by rw [h58]; rfl
          have HCN := Lib.hid (cnp_colon HP0.out HD.out h58)
          clear h58
          go_wp2_with fail
          go_roundw
          case rel => exact .inr ⟨_, _, _, k + 1, L, [], ns, rfl, rfl, rfl, rfl, rfl, rfl, rfl, by go_num, by omega, Lib.hid ⟨HO.out.begin hz, by simp [Value.ownBlock], HL.out.alloc hz _, HCN.out⟩⟩
          case measure => simp [intOf]; omega
        · have hbc : ((cb.toNat : Int) == 58) = false := ne_58 h58
          have HCN := Lib.hid (cnp_text HP0.out HD.out h58)
          clear h58
          go_wp2_with (at_builtin; refine Hid.out ?_)
          refine Lib.hid ?_
          refine wpList_append_own_at _ rfl _ _ 59 rfl w.heap.size 5 i0 (.int .u8 0) 1 1 Tryd.underlying59 hi0 hz0 hz1 hz2 rfl (by decide) rv L.length (Lib.byteCells L) rfl (HO.out.r.alloc _) ⟨wr.heap.size, 0, none⟩ 1 1 (Lib.byteCells [cb]) rfl rfl (bytes_new wr [cb] _) (bytes_one _) (by unfold maxLen; omega) (by omega) (by simp; omega) ?_
          intro v3 w3 hown hg _ hat
          have HO3 := Lib.hid (O3.grow_r HO.out (b_one wr _) (own_bytes hown rfl) hg hat)
          have HL3 := Lib.hid (b_app HL.out _ hg (fun g hg => (HO.out.r.lt g hg).1))
          have hz3 := HL3.out.size
          clear hown hg hat
          go_wp2_with fail
          go_roundw
          case rel => exact .inl ⟨_, _, k + 1, L ++ [cb], ns, rfl, rfl, rfl, rfl, rfl, rfl, by go_num, by omega, Lib.hid ⟨HO3.out, HL3.out, HCN.out⟩⟩
          case measure => simp [intOf]; omega
      · obtain rfl : k = n := by omega
        have HFI : Hid (cn (mkK 1) q.data.toList none [] [] = some (L, ns)) := Lib.hid (cnp_fin HN.out HP0.out)
        have hconv := conv_own (l := L) HO.out.r rfl
        go_wp2_with fail
        go_ret3
        exact cnOk_some HFI.out HO.out.s HL.out
    · have HO := Lib.hid HS.out.1
      have HNV := Lib.hid HS.out.2.1
      have HL := Lib.hid HS.out.2.2.1
      have HP0 := Lib.hid HS.out.2.2.2
      have hz := HL.out.size
      have hLb : L.length + nm.length ≤ 600000 := by have := HP0.out.2.2.1; simp only at this; omega
      have hnsb : ns.length + 1 < 100 := by have := HP0.out.2.1; simp only at this; omega
      obtain ⟨hk0, hp1, hp2⟩ := HP0.out.2.2.2 nm rfl
      obtain ⟨j, hj⟩ : ∃ j, k = j + 1 := ⟨k - 1, by omega⟩
      have hjk : (k : Int) - 1 = j := by omega
      have hki : (0 : Int) < k := by omega
      have hjz : (0 : Int) ≤ j := by omega
      have hjn : (j : Int) < n := by omega
      have hprev := (HL.out.cell (p := ⟨b, j, none⟩) hb).trans (HC.out j (by omega))
      rw [show k - 1 = j by omega] at hp1 hp2
      generalize q.data.toList.getD j 0 = pb at hprev hp1 hp2
      have HP1 := Lib.hid hp1
      have HP2 := Lib.hid hp2
      have HJ := Lib.hid hj
      clear hp1 hp2 hj hk0
      by_cases hlt : k < n
      · have hkn : (k : Int) < n := by omega
        have hcl := (HL.out.cell (p := ⟨b, k, none⟩) hb).trans (HC.out k hlt)
        have hca := asc_getD HA.out k
        obtain ⟨t, hd, hte⟩ := drop_cons_of HN.out hlt
        generalize q.data.toList.getD k 0 = cb at hcl hd hca
        have HD := Lib.hid hd
        have HTE := Lib.hid hte
        have HCA := Lib.hid hca
        clear hd hte hca
        by_cases h58 : cb = 58
        · have hbc : ((cb.toNat : Int) == 58) = true := by rw [h58]; rfl
          by_cases hnm : nm = []
          · have hpc : ((pb.toNat : Int) == 58) = true := by rw [HP1.out hnm]; rfl
            have HCN := Lib.hid (cnp_two (by rw [← hnm]; exact HP0.out) HD.out h58)
            clear h58 hnm
            go_wp2_with (at_builtin; refine Hid.out ?_)
            refine Lib.hid ?_
            refine wpList_append_own_at _ rfl _ _ 59 rfl w.heap.size 5 i0 (.int .u8 0) 1 1 Tryd.underlying59 hi0 hz0 hz1 hz2 rfl (by decide) rv L.length (Lib.byteCells L) rfl (HO.out.r.alloc _) ⟨wr.heap.size, 0, none⟩ 1 1 (Lib.byteCells [58]) rfl rfl (bytes_new wr [58] _) (bytes_one _) (by unfold maxLen; omega) (by omega) (by simp; omega) ?_
            intro v3 w3 hown hg _ hat
            have HO3 := Lib.hid (O3.grow_r HO.out (b_one wr _) (own_bytes hown rfl) hg hat)
            have HL3 := Lib.hid (b_app HL.out _ hg (fun g hg => (HO.out.r.lt g hg).1))
            have hz3 := HL3.out.size
            clear hown hg hat
            go_wp2_with fail
            go_roundw
            case rel => exact .inl ⟨_, _, k + 1, L ++ [58], ns, rfl, rfl, rfl, rfl, rfl, rfl, by go_num, by omega, Lib.hid ⟨HO3.out.shut, HL3.out, HCN.out⟩⟩
            case measure => simp [intOf]; omega
          · have hpc : ((pb.toNat : Int) == 58) = false := ne_58 (HP2.out hnm)
            have HCN := Lib.hid (cnp_bad HP0.out HD.out h58 hnm)
            have HPW := Lib.hid (pow10_below HP.out HL.out)
            clear h58 hnm
            go_wp2_with fail
            refine (Tryd.strconv_Itoa k (by omega) (by omega) wr HPW.out).mono ?_
            rintro e w3 ⟨rfl, k3, os3, rfl⟩
            have HL3 := Lib.hid (HL.out.trans ((below_grow2 wr k3 os3).mono hz))
            have hsz3 : (ByteArray.mk (Lib.itoa (k : Int)).toArray).size ≤ 21 := by have := Lib.itoa_length_le (k : Int) (by omega) (by omega); simpa [ByteArray.size] using this
            generalize (ByteArray.mk (Lib.itoa (k : Int)).toArray) = ds at hsz3 ⊢
            generalize Sort.grow (wr.drewN k3) os3 = w3 at HL3 ⊢
            go_wp2_with fail
            refine (errNew_any _ w3).mono ?_
            rintro e w4 ⟨rfl, hb4⟩
            have HL4 := Lib.hid (HL3.out.trans (hb4.mono HL3.out.size))
            clear hb4
            go_wp2_with fail
            go_ret3
            exact cnOk_none HCN.out HL4.out
        have hbc : ((cb.toNat : Int) == 58) = false := ne_58 h58
        obtain ⟨g, cap, hnv⟩ := slice_of HO.out.n HNV.out
        subst hnv
        by_cases has : cb = 61 ∧ nm = []
        · have hb61 : ((cb.toNat : Int) == 61) = true := by rw [has.1]; rfl
          have hnl : ((nm.length : Int) == 0) = true := by rw [has.2]; rfl
          have HCN := Lib.hid (cnp_assign (by rw [← has.2]; exact HP0.out) HD.out has.1)
          clear h58 has
          go_wp2_with (at_builtin; refine Hid.out ?_)
          refine Lib.hid ?_
          refine wpList_append_own_at _ rfl _ _ 59 rfl w.heap.size 5 i0 (.int .u8 0) 1 1 Tryd.underlying59 hi0 hz0 hz1 hz2 rfl (by decide) rv L.length (Lib.byteCells L) rfl (HO.out.r.alloc _) ⟨wr.heap.size, 0, none⟩ 2 2 (Lib.byteCells [58, 61]) rfl rfl (bytes_new wr [58, 61] _) (bytes_one _) (by unfold maxLen; omega) (by omega) (by simp; omega) ?_
          intro v3 w3 hown hg _ hat
          have HO3 := Lib.hid (O3.grow_r HO.out (b_one wr _) (own_bytes hown rfl) hg hat)
          have HL3 := Lib.hid (b_app HL.out _ hg (fun g hg => (HO.out.r.lt g hg).1))
          have hz3 := HL3.out.size
          clear hown hg hat
          go_wp2_with fail
          go_roundw
          case rel => exact .inl ⟨_, _, k + 1, L ++ [58, 61], ns, rfl, rfl, rfl, rfl, rfl, rfl, by go_num, by omega, Lib.hid ⟨HO3.out.shut, HL3.out, HCN.out⟩⟩
          case measure => simp [intOf]; omega
        have h61 : ((cb.toNat : Int) == 61) = false ∨ (((cb.toNat : Int) == 61) = true ∧ ((nm.length : Int) == 0) = false) := not_assign has
        have HAS := Lib.hid has
        have H58 := Lib.hid h58
        clear has h58 hprev
        by_cases hN : isN cb = true ∧ t ≠ []
        · have HCN := Lib.hid (cnp_more HP0.out HD.out H58.out HAS.out hN.1 hN.2)
          have hkl : ((k : Int) == (n : Int) - 1) = false := by rw [beq_eq_false_iff_ne]; intro e; exact hN.2 (HTE.out.2 (by omega))
          have hkl2 : ((k : Int) != (n : Int) - 1) = true := by rw [bne_iff_ne]; intro e; exact hN.2 (HTE.out.2 (by omega))
          have hN2 := isN_cases hN.1
          clear hN
          rcases h61 with h61 | ⟨h61, hnl⟩
          all_goals as_aux_lemma =>
            go_wp2_with fail
            refine (allowed_any cb HCA.out wr).mono ?_
            rintro e w' ⟨rfl, rfl⟩
            rcases hN2 with hA | ⟨hA, hx⟩ | ⟨hA, hx1, hx⟩
            all_goals
              rw [hA]
              go_wp2_with (at_builtin; refine Hid.out ?_)
              refine Lib.hid ?_
              refine wpList_append_own_at _ rfl _ _ 59 rfl w.heap.size 5 i0 (.int .u8 0) 1 1 Tryd.underlying59 hi0 hz0 hz1 hz2 rfl (by decide) (.slice (some ⟨g, 0, none⟩) nm.length cap) nm.length (Lib.byteCells nm) rfl (HO.out.n.alloc _) ⟨wr.heap.size, 0, none⟩ 1 1 (Lib.byteCells [cb]) rfl rfl (bytes_new wr [cb] _) (bytes_one _) (by unfold maxLen; omega) (by omega) (by simp; omega) ?_
              intro v3 w3 hown hg _ hat
              have HO3 := Lib.hid (O3.grow_n HO.out (b_one wr _) (own_bytes hown rfl) hg hat)
              have HL3 := Lib.hid (b_app HL.out _ hg (fun g hg => (HO.out.n.lt g hg).1))
              have hz3 := HL3.out.size
              have HV3 := Lib.hid (ne_of_at hat (by simp [Value.ownBlock]))
              clear hown hg hat
              go_wp2_with fail
              go_roundw
              case rel => exact .inr ⟨_, _, _, k + 1, L, nm ++ [cb], ns, rfl, rfl, rfl, rfl, rfl, rfl, rfl, by go_num, by omega, Lib.hid ⟨HO3.out, HV3.out, HL3.out, HCN.out⟩⟩
              case measure => simp [intOf]; omega
        obtain ⟨m', hm'⟩ : ∃ m' : Nat, (ns.length : Int) + 1 = m' := ⟨ns.length + 1, by omega⟩
        have HMM := Lib.hid (show m' = ns.length + 1 by omega)
        have hm100 : m' < 100 := by omega
        have hlm := hLb
        have HNN := Lib.hid hN
        clear hN
        by_cases hT : t = []
        · have hkl : ((k : Int) == (n : Int) - 1) = true := by rw [beq_iff_eq]; have := HTE.out.1 hT; omega
          have hkl2 : ((k : Int) != (n : Int) - 1) = false := by rw [bne_eq_false_iff_eq]; have := HTE.out.1 hT; omega
          have HT := Lib.hid hT
          by_cases hA : isA cb = true
          · have HCN := Lib.hid (cnp_last HP0.out HD.out H58.out HAS.out hT hA (by have := mkK_small 1 (nm ++ [cb]) (ns.length + 1) hnsb; simp only [List.length_append, List.length_cons, List.length_nil] at this ⊢; omega))
            rw [show mkK 1 (nm ++ [cb]) (ns.length + 1) = [63] from rfl] at HCN
            clear hT
            rcases h61 with h61 | ⟨h61, hnl⟩
            all_goals as_aux_lemma =>
              go_wp2_with fail
              refine (allowed_any cb HCA.out _).mono ?_
              rintro e w' ⟨rfl, rfl⟩
              rw [hA]
              go_wp2_with fail
              refine (allowed_any cb HCA.out _).mono ?_
              rintro e w' ⟨rfl, rfl⟩
              rw [hA]
              go_wp2_with (at_builtin; refine Hid.out ?_)
              refine Lib.hid ?_
              refine wpList_append_own_at _ rfl _ _ 59 rfl w.heap.size 5 i0 (.int .u8 0) 1 1 Tryd.underlying59 hi0 hz0 hz1 hz2 rfl (by decide) (.slice (some ⟨g, 0, none⟩) nm.length cap) nm.length (Lib.byteCells nm) rfl (HO.out.n.alloc _) ⟨wr.heap.size, 0, none⟩ 1 1 (Lib.byteCells [cb]) rfl rfl (bytes_new wr [cb] _) (bytes_one _) (by unfold maxLen; omega) (by omega) (by simp; omega) ?_
              intro v3 w3 hown hg _ hat
              have HO3 := Lib.hid (O3.grow_n HO.out (b_one wr _) (own_bytes hown rfl) hg hat)
              have HL3 := Lib.hid (b_app HL.out _ hg (fun g hg => (HO.out.n.lt g hg).1))
              have hz3 := HL3.out.size
              have HV3 := Lib.hid (ne_of_at hat (by simp [Value.ownBlock]))
              clear hown hg hat
              have hln : (nm ++ [cb]).length ≤ 600001 := by rw [List.length_append]; simp only [List.length_cons, List.length_nil]; omega
              generalize hnm2 : nm ++ [cb] = nm2 at HO3 HCN hln
              have HNM2 := Lib.hid hnm2
              clear hnm2
              have hconv := conv_own (w := w3) (l := nm2) HO3.out.n rfl
              go_wp2_with (at_builtin; refine Hid.out ?_)
              refine Lib.hid ?_
              refine wpList_append_own_at _ rfl _ _ 28 rfl w.heap.size 9 j0 (.string ByteArray.empty) 1 16 Tryd.underlying28 hj0 hy0 hy1 hy2 rfl (by decide) sv ns.length (ns.map fun x => Value.string ⟨x.toArray⟩) rfl (HO3.out.s.alloc _) ⟨w3.heap.size, 0, none⟩ 1 1 [.string ⟨(nm2).toArray⟩] rfl rfl (cell_one_new _ _ _) (str_one _) (by unfold maxLen; omega) (by omega) (by simp; omega) ?_
              intro v5 w5 hown hg _ hat
              have HO5 := Lib.hid (O3.grow_s HO3.out (b_one w3 _) (own_names hown) hg hat)
              have HL5 := Lib.hid (b_app HL3.out _ hg (fun g hg => (HO3.out.s.lt g hg).1))
              have hz5 := HL5.out.size
              clear hown hg hat hconv
              go_wp2_with (at_builtin; refine Hid.out ?_)
              refine Lib.hid ?_
              refine wpList_append_own_at _ rfl _ _ 59 rfl w.heap.size 5 i0 (.int .u8 0) 1 1 Tryd.underlying59 hi0 hz0 hz1 hz2 rfl (by decide) rv L.length (Lib.byteCells L) rfl (HO5.out.r.alloc _) ⟨w5.heap.size, 0, none⟩ 1 1 (Lib.byteCells [63]) rfl rfl (bytes_new w5 [63] _) (bytes_one _) (by unfold maxLen; omega) (by omega) (by simp; omega) ?_
              intro v6 w6 hown hg _ hat
              have HO6 := Lib.hid (O3.grow_r HO5.out (b_one w5 _) (own_bytes hown rfl) hg hat)
              have HL6 := Lib.hid (b_app HL5.out _ hg (fun g hg => (HO5.out.r.lt g hg).1))
              have hz6 := HL6.out.size
              clear hown hg hat
              go_wp2_with fail
              refine (allowed_any cb HCA.out _).mono ?_
              rintro e w' ⟨rfl, rfl⟩
              rw [hA]
              go_wp2_with fail
              go_roundw
              case rel => exact .inl ⟨_, _, k + 1, _, ns ++ [nm2], rfl, rfl, rfl, rfl, rfl, rfl, by go_num, by omega, Lib.hid ⟨HO6.out.shut, HL6.out, by have := HCN.out; simpa using this⟩⟩
              case measure => simp [intOf]; omega
          · have hA : isA cb = false := by simpa using hA
            have hdots := dots cb
            have HCN := Lib.hid (cnp_end HP0.out HD.out H58.out HAS.out HNN.out (by rw [hA]; simp) (mkK_small 1 nm (ns.length + 1) hnsb))
            rw [show mkK 1 nm (ns.length + 1) = [63] from rfl] at HCN
            clear hT
            rcases h61 with h61 | ⟨h61, hnl⟩ <;> rcases hdots with hx1 | ⟨hx1, hx2⟩ | ⟨hx1, hx2⟩
            all_goals as_aux_lemma =>
              go_wp2_with fail
              refine (allowed_any cb HCA.out _).mono ?_
              rintro e w' ⟨rfl, rfl⟩
              rw [hA]
              go_wp2_with fail
              refine (allowed_any cb HCA.out _).mono ?_
              rintro e w' ⟨rfl, rfl⟩
              rw [hA]
              have hconv := conv_own (w := wr) (l := nm) HO.out.n rfl
              go_wp2_with (at_builtin; refine Hid.out ?_)
              refine Lib.hid ?_
              refine wpList_append_own_at _ rfl _ _ 28 rfl w.heap.size 9 j0 (.string ByteArray.empty) 1 16 Tryd.underlying28 hj0 hy0 hy1 hy2 rfl (by decide) sv ns.length (ns.map fun x => Value.string ⟨x.toArray⟩) rfl (HO.out.s.alloc _) ⟨wr.heap.size, 0, none⟩ 1 1 [.string ⟨(nm).toArray⟩] rfl rfl (cell_one_new _ _ _) (str_one _) (by unfold maxLen; omega) (by omega) (by simp; omega) ?_
              intro v5 w5 hown hg _ hat
              have HO5 := Lib.hid (O3.grow_s HO.out (b_one wr _) (own_names hown) hg hat)
              have HL5 := Lib.hid (b_app HL.out _ hg (fun g hg => (HO.out.s.lt g hg).1))
              have hz5 := HL5.out.size
              clear hown hg hat hconv
              go_wp2_with (at_builtin; refine Hid.out ?_)
              refine Lib.hid ?_
              refine wpList_append_own_at _ rfl _ _ 59 rfl w.heap.size 5 i0 (.int .u8 0) 1 1 Tryd.underlying59 hi0 hz0 hz1 hz2 rfl (by decide) rv L.length (Lib.byteCells L) rfl (HO5.out.r.alloc _) ⟨w5.heap.size, 0, none⟩ 1 1 (Lib.byteCells [63]) rfl rfl (bytes_new w5 [63] _) (bytes_one _) (by unfold maxLen; omega) (by omega) (by simp; omega) ?_
              intro v6 w6 hown hg _ hat
              have HO6 := Lib.hid (O3.grow_r HO5.out (b_one w5 _) (own_bytes hown rfl) hg hat)
              have HL6 := Lib.hid (b_app HL5.out _ hg (fun g hg => (HO5.out.r.lt g hg).1))
              have hz6 := HL6.out.size
              clear hown hg hat
              go_wp2_with fail
              refine (allowed_any cb HCA.out _).mono ?_
              rintro e w' ⟨rfl, rfl⟩
              rw [hA]
              have hlz : ((L ++ [63])).length ≤ 1300000 := by simp only [List.length_append, List.length_cons, List.length_nil]; omega
              go_wp2_with (at_builtin; refine Hid.out ?_)
              refine Lib.hid ?_
              refine wpList_append_own_at _ rfl _ _ 59 rfl w.heap.size 5 i0 (.int .u8 0) 1 1 Tryd.underlying59 hi0 hz0 hz1 hz2 rfl (by decide) v6 (L ++ [63]).length (Lib.byteCells (L ++ [63])) rfl (HO6.out.r.alloc _) ⟨w6.heap.size, 0, none⟩ 1 1 (Lib.byteCells [cb]) rfl rfl (bytes_new w6 [cb] _) (bytes_one _) (by unfold maxLen; omega) (by omega) (by simp; omega) ?_
              intro v9 w9 hown hg _ hat
              have HO9 := Lib.hid (O3.grow_r HO6.out (b_one w6 _) (own_bytes hown rfl) hg hat)
              have HL9 := Lib.hid (b_app HL6.out _ hg (fun g hg => (HO6.out.r.lt g hg).1))
              have hz9 := HL9.out.size
              clear hown hg hat
              go_wp2_with fail
              go_roundw
              case rel => exact .inl ⟨_, _, k + 1, _, ns ++ [nm], rfl, rfl, rfl, rfl, rfl, rfl, by go_num, by omega, Lib.hid ⟨HO9.out.shut, HL9.out, by have := HCN.out; simpa using this⟩⟩
              case measure => simp [intOf]; omega
        · have hNf : isN cb = false := by cases h : isN cb with | false => rfl | true => exact absurd ⟨h, hT⟩ HNN.out
          obtain ⟨hA, hx1, hx2⟩ := isN_not hNf
          have hkl : ((k : Int) == (n : Int) - 1) = false := by rw [beq_eq_false_iff_ne]; intro e; exact hT (HTE.out.2 (by omega))
          have hkl2 : ((k : Int) != (n : Int) - 1) = true := by rw [bne_iff_ne]; intro e; exact hT (HTE.out.2 (by omega))
          have HCN := Lib.hid (cnp_end HP0.out HD.out H58.out HAS.out HNN.out (fun e => hT e.1) (mkK_small 1 nm (ns.length + 1) hnsb))
          rw [show mkK 1 nm (ns.length + 1) = [63] from rfl] at HCN
          clear hT hNf
          rcases h61 with h61 | ⟨h61, hnl⟩
          all_goals as_aux_lemma =>
            go_wp2_with fail
            refine (allowed_any cb HCA.out _).mono ?_
            rintro e w' ⟨rfl, rfl⟩
            rw [hA]
            have hconv := conv_own (w := wr) (l := nm) HO.out.n rfl
            go_wp2_with (at_builtin; refine Hid.out ?_)
            refine Lib.hid ?_
            refine wpList_append_own_at _ rfl _ _ 28 rfl w.heap.size 9 j0 (.string ByteArray.empty) 1 16 Tryd.underlying28 hj0 hy0 hy1 hy2 rfl (by decide) sv ns.length (ns.map fun x => Value.string ⟨x.toArray⟩) rfl (HO.out.s.alloc _) ⟨wr.heap.size, 0, none⟩ 1 1 [.string ⟨(nm).toArray⟩] rfl rfl (cell_one_new _ _ _) (str_one _) (by unfold maxLen; omega) (by omega) (by simp; omega) ?_
            intro v5 w5 hown hg _ hat
            have HO5 := Lib.hid (O3.grow_s HO.out (b_one wr _) (own_names hown) hg hat)
            have HL5 := Lib.hid (b_app HL.out _ hg (fun g hg => (HO.out.s.lt g hg).1))
            have hz5 := HL5.out.size
            clear hown hg hat hconv
            go_wp2_with (at_builtin; refine Hid.out ?_)
            refine Lib.hid ?_
            refine wpList_append_own_at _ rfl _ _ 59 rfl w.heap.size 5 i0 (.int .u8 0) 1 1 Tryd.underlying59 hi0 hz0 hz1 hz2 rfl (by decide) rv L.length (Lib.byteCells L) rfl (HO5.out.r.alloc _) ⟨w5.heap.size, 0, none⟩ 1 1 (Lib.byteCells [63]) rfl rfl (bytes_new w5 [63] _) (bytes_one _) (by unfold maxLen; omega) (by omega) (by simp; omega) ?_
            intro v6 w6 hown hg _ hat
            have HO6 := Lib.hid (O3.grow_r HO5.out (b_one w5 _) (own_bytes hown rfl) hg hat)
            have HL6 := Lib.hid (b_app HL5.out _ hg (fun g hg => (HO5.out.r.lt g hg).1))
            have hz6 := HL6.out.size
            clear hown hg hat
            have hlz : ((L ++ [63])).length ≤ 1300000 := by simp only [List.length_append, List.length_cons, List.length_nil]; omega
            go_wp2_with (at_builtin; refine Hid.out ?_)
            refine Lib.hid ?_
            refine wpList_append_own_at _ rfl _ _ 59 rfl w.heap.size 5 i0 (.int .u8 0) 1 1 Tryd.underlying59 hi0 hz0 hz1 hz2 rfl (by decide) v6 (L ++ [63]).length (Lib.byteCells (L ++ [63])) rfl (HO6.out.r.alloc _) ⟨w6.heap.size, 0, none⟩ 1 1 (Lib.byteCells [cb]) rfl rfl (bytes_new w6 [cb] _) (bytes_one _) (by unfold maxLen; omega) (by omega) (by simp; omega) ?_
            intro v9 w9 hown hg _ hat
            have HO9 := Lib.hid (O3.grow_r HO6.out (b_one w6 _) (own_bytes hown rfl) hg hat)
            have HL9 := Lib.hid (b_app HL6.out _ hg (fun g hg => (HO6.out.r.lt g hg).1))
            have hz9 := HL9.out.size
            clear hown hg hat
            go_wp2_with fail
            go_roundw
            case rel => exact .inl ⟨_, _, k + 1, _, ns ++ [nm], rfl, rfl, rfl, rfl, rfl, rfl, by go_num, by omega, Lib.hid ⟨HO9.out.shut, HL9.out, by have := HCN.out; simpa using this⟩⟩
            case measure => simp [intOf]; omega
      · obtain rfl : k = n := by omega
        have HFI : Hid (cn (mkK 1) q.data.toList none [] [] = some (L, ns)) := Lib.hid (cnp_fin2 HN.out HP0.out)
        have hconv := conv_own (l := L) HO.out.r rfl
        clear hprev
        go_wp2_with fail
        go_ret3
        exact cnOk_some HFI.out HO.out.s HL.out
end Go.Proofs.YtpjadgdimkdblaaDoor
