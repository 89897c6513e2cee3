/- bindAnyArgs, bindArray, bindNamedMapper and BindNamed walked, over a list of maps that have all names. Every world. -/
import Derived.Test.YtpjadgdimkdblaaDoorNo
import Derived.Test.YtpjadgdimkdblaaDoorFix
import Derived.Test.YtpjadgdimkdblaaDoorReb
namespace Go.Proofs.YtpjadgdimkdblaaDoor
open Go.RowKit Go.Maps
set_option linter.unusedVariables false

theorem ta_am (v : Value) (w : World) : (Instr.typeAssert (.iface 71 v) 20 72 true).run Tryd.prog w = .ok (.tuple #[.map none, .bool false]) w := by kernel_rfl
theorem ta_aa (v : Value) (w : World) : (Instr.typeAssert (.iface 71 v) 20 71 true).run Tryd.prog w = .ok (.tuple #[v, .bool true]) w := by kernel_rfl
def mapV (b : Nat) : Value := .iface 72 (.map (some b))
theorem anyArgs_map (B : Nat) (sv : Value) (b m : Nat) (ns : List ByteArray) (l : List (ByteArray × Value)) (us : List Value) (w : World) (hn : us.length = ns.length) (hm : ns.length ≤ 100000) (hrow : w.ownsRow B 9 1 sv ns.length (ns.map .string))
    (hs : ∀ i, i < ns.length → (ns.getD i ByteArray.empty).size ≤ maxLen) (hmap : w.ownsMap Tryd.prog 9 RV b m (mapD l)) (hl : ∀ i, i < ns.length → lookN l (ns.getD i ByteArray.empty) = some (us.getD i .nilIface)) (hf : ∀ i, i < ns.length → oneForm (us.getD i .nilIface)) :
    Calls Tryd.prog 64 #[sv, mapV b] w (BmOk us w) := by
  have hta := ta_mm
  have HR := Lib.hid hrow
  have HS := Lib.hid hs
  have HM := Lib.hid hmap
  have HL := Lib.hid hl
  have HF := Lib.hid hf
  obtain ⟨a, c, rfl⟩ := ownsRow_form hrow
  clear hrow hs hmap hl hf
  unfold mapV
  go_enter Tryd.func64, Tryd.ntmps64
  go_wp2_with fail
  refine (bm_row B _ b m ns l us _ hn hm HR.out HS.out HM.out HL.out HF.out).mono ?_
  rintro e w' ⟨v, rfl, ho, hb⟩
  have HO := Lib.hid ho
  have HB := Lib.hid hb
  clear ho hb
  go_wp2_with fail
  go_ret2
  exact ⟨v, rfl, HO.out, HB.out⟩
/-- The text for so many rows, and for a kind of placeholders. -/
def FixTo (q1 : ByteArray) (K : Nat) (q2 : ByteArray) : Prop :=
  (K = 1 ∧ q2 = q1) ∨ ∃ K1 i j e cl t, K = K1 + 2 ∧ ValAt q1 i j e ∧ closing (q1.extract e q1.size) = cl ∧ cl ≠ 0 ∧ e + cl + 1 = t ∧ t ≤ q1.size ∧ q2 = ⟨(fixL q1.data.toList e t (K1 + 1) ++ q1.data.toList.drop t).toArray⟩
def RebTo (k : Int) (q2 q3 : ByteArray) : Prop :=
  (k = 1 ∧ q3 = q2) ∨ ∃ sg, ((k = 2 ∧ sg = [36]) ∨ (k = 3 ∧ sg = [58, 97, 114, 103]) ∨ (k = 4 ∧ sg = [64, 112])) ∧ q2.size ≤ 100000 ∧ cntQ q2.data.toList ≤ 99 ∧ q3 = ⟨(rebL sg q2.data.toList 0).toArray⟩
/-- The list of maps lies, and each has the names. -/
structure ArrIn (w : World) (A : Option Addr) (bs : List Nat) (ls : List (List (ByteArray × Value))) (ns : List (List UInt8)) (uss : List (List Value)) : Prop where
  cells : ∀ i, i < bs.length → ∃ g, A = some ⟨g, 0, none⟩ ∧ g < w.heap.size ∧ w.cell? ⟨g, i, none⟩ = some (mapV (bs.getD i 0))
  maps : ∀ i, i < bs.length → ∃ m, w.ownsMap Tryd.prog 9 RV (bs.getD i 0) m (mapD (ls.getD i []))
  lens : uss.length = bs.length
  len : ∀ i, i < bs.length → (uss.getD i []).length = ns.length
  look : ∀ i, i < bs.length → ∀ j, j < ns.length → lookN (ls.getD i []) ⟨(ns.getD j []).toArray⟩ = some ((uss.getD i []).getD j .nilIface)
  form : ∀ i, i < bs.length → ∀ j, j < ns.length → oneForm ((uss.getD i []).getD j .nilIface)
theorem take_flat (uss : List (List Value)) (i : Nat) (h : i < uss.length) : (uss.take (i + 1)).flatten = (uss.take i).flatten ++ uss.getD i [] := by
  have e : uss.take (i + 1) = uss.take i ++ [uss.getD i []] := by
    rw [List.take_add_one, List.getD_eq_getElem?_getD, List.getElem?_eq_getElem h]
    rfl
  rw [e, List.flatten_append]
  simp
theorem flat_len {uss : List (List Value)} {N : Nat} (h : ∀ i, i < uss.length → (uss.getD i []).length = N) : ∀ i, i ≤ uss.length → ((uss.take i).flatten).length = i * N
  | 0, _ => by simp
  | i + 1, hi => by
    rw [take_flat uss i (by omega), List.length_append, flat_len h i (by omega), h i (by omega), Nat.succ_mul]
theorem one_form {u : Value} (h : oneForm u) : u.oneCell' = true := by
  rcases h with rfl | ⟨t, x, rfl⟩ <;> rfl
theorem one_all {us : List Value} (h : ∀ j, j < us.length → oneForm (us.getD j .nilIface)) : ∀ u ∈ us, u.oneCell' = true := by
  intro u hu
  obtain ⟨j, hj, rfl⟩ := List.getElem_of_mem hu
  have := h j hj
  rw [List.getD_eq_getElem?_getD, List.getElem?_eq_getElem hj] at this
  exact one_form this
def ArrSo (q3 : ByteArray) (us : List Value) (w : World) (e : Ending) (w' : World) : Prop :=
  ∃ v, e = .returned (.tuple #[.string q3, v, .nilIface]) ∧ w'.ownsRow w.heap.size 20 1 v us.length us ∧ Below w.heap.size w w'
theorem name_get (ns : List (List UInt8)) (i : Nat) : (ns.map fun x => (⟨x.toArray⟩ : ByteArray)).getD i ByteArray.empty = ⟨(ns.getD i []).toArray⟩ := by
  rw [List.getD_eq_getElem?_getD, List.getD_eq_getElem?_getD, List.getElem?_map]
  cases ns[i]? <;> rfl
set_option maxHeartbeats 4000000 in
set_option maxRecDepth 100000 in
theorem bindArray_any (k : Int) (hk : k = 1 ∨ k = 2 ∨ k = 3 ∨ k = 4) (q q1 q2 q3 : ByteArray) (ns : List (List UInt8)) (A : Option Addr) (K c : Nat) (bs : List Nat) (ls : List (List (ByteArray × Value))) (uss : List (List Value)) (w : World) (ht : TextOk q) (hp : Pow10 w)
    (hcomp : cn (mkK 1) q.data.toList none [] [] = some (q1.data.toList, ns)) (hasc : asc q1) (hqs : q1.size ≤ 100000) (hK : bs.length = K) (h1 : 1 ≤ K) (h2 : K ≤ 100) (hN1 : 1 ≤ ns.length) (hN : ns.length ≤ 100) (hsh : ∀ i, i < ns.length → (ns.getD i []).length ≤ maxLen)
    (hin : ArrIn w A bs ls ns uss) (hfix : FixTo q1 K q2) (hreb : RebTo k q2 q3) :
    Calls Tryd.prog 55 #[.int .i64 k, .string q, .slice A K c] w (ArrSo q3 uss.flatten w) := by
  obtain ⟨i0, hi0, hz0, hz1, hz2⟩ := info_parts Tryd.infoIface
  have hcv := Lib.run_convert_string_bytes (P := Tryd.prog) w 9 59 5 q (u := .string) Tryd.underlying9 Tryd.underlying59 Tryd.underlying5
  have HB := Lib.hid (Lib.bytesWorld_below w 5 q)
  have HC := Lib.hid (fun j hj => Lib.bytesWorld_cell w 5 q j hj)
  have HS := Lib.hid (Lib.bytesWorld_size w 5 q)
  have HIN := Lib.hid hin
  have HFX := Lib.hid hfix
  have HRB := Lib.hid hreb
  have HCM := Lib.hid hcomp
  have HAS := Lib.hid hasc
  have HSH := Lib.hid hsh
  have HP := Lib.hid hp
  have HT := Lib.hid ht
  have HK := Lib.hid hK
  have HKK := Lib.hid hk
  clear hin hfix hreb hcomp hasc hsh hp ht hK hk
  generalize Lib.bytesWorld w 5 q = W1 at hcv HB HC HS
  have hK0 : ((K : Int) == 0) = false := by rw [beq_eq_false_iff_ne]; omega
  go_enter Tryd.func55, Tryd.ntmps55
  go_wp2_with fail
  refine (cn_any 1 (by unfold KindOk; omega) w.heap.size q.size _ q W1 rfl (by rw [HS.out]; omega) HC.out HT.out.size HT.out.colons HT.out.ascii (pow10_below HP.out HB.out)).mono ?_
  rintro e w2 h
  unfold CnOk at h
  rw [HCM.out] at h
  obtain ⟨sv, rfl, ho, hb⟩ := h
  have HB2 := Lib.hid (HB.out.trans (hb.mono HB.out.size))
  have HO2 := Lib.hid (ownsRow_down ho HB.out.size)
  obtain ⟨sa, sc, rfl⟩ := ownsRow_form ho
  rw [show (⟨q1.data.toList.toArray⟩ : ByteArray) = q1 from rfl]
  obtain ⟨P, hP⟩ : ∃ P : Nat, (ns.length : Int) * (K : Int) = P := ⟨ns.length * K, by simp⟩
  have hPb : P ≤ 10000 := by
    have h3 : ns.length * K ≤ 100 * 100 := Nat.mul_le_mul hN h2
    have h4 : (P : Int) = ((ns.length * K : Nat) : Int) := by rw [← hP]; simp
    omega
  clear hb ho hcv
  go_wp2_with (at_make; refine wpList_make_own _ rfl _ _ 71 rfl w2.heap.size 20 i0 .nilIface 1 Tryd.underlying71 hi0 hz0 hz1 .i64 .i64 _ P rfl rfl rfl (by rw [hz2]; omega) (by unfold maxLen; omega) (by simp) ?_; intro w3 hown3 hg3; refine Hid.out ?_)
  refine Lib.hid ?_
  generalize (Value.slice (some _) 0 P) = sv3 at hown3 ⊢
  have HO3 := Lib.hid hown3
  have HB3 := Lib.hid ((Below.refl w2.heap.size w2).grown hg3 (Nat.le_refl _) (fun k hk => by cases hk))
  clear hown3 hg3
  go_wp2
  go_loopw [13, 14] (fun v' x wr => ∃ (v : Value) (i : Nat), v = v' ∧ i ≤ K ∧ x = .int .i64 i ∧ Hid (wr.ownsRow w2.heap.size 20 1 v ((uss.take i).flatten).length ((uss.take i).flatten) ∧ Below w2.heap.size w2 wr)) (fun _ x _ => K - (intOf x).toNat)
  case atStart => exact ⟨_, 0, rfl, Nat.zero_le _, rfl, Lib.hid ⟨by simpa using HO3.out, HB3.out⟩⟩
  case round =>
    obtain ⟨v, i, rfl, hi, rfl, HS3⟩ := hrel
    clear HO3 HB3
    have hsz := HS3.out.2.size
    have h0 : (0 : Int) ≤ i := by omega
    have hfl : ((uss.take i).flatten).length ≤ 10000 := by
      rw [flat_len (N := ns.length) (fun j hj => HIN.out.len j (by rw [← HIN.out.lens]; exact hj)) i (by rw [HIN.out.lens, HK.out]; exact hi)]
      have h3 : i * ns.length ≤ 100 * 100 := Nat.mul_le_mul (by omega) hN
      omega
    have HBW := Lib.hid (HB2.out.trans (HS3.out.2.mono HB2.out.size))
    rcases Nat.lt_or_ge i K with hlt | hge
    · have hkn : (i : Int) < K := by omega
      have hib : i < bs.length := by rw [HK.out]; exact hlt
      obtain ⟨g, rfl, hg, hc⟩ := HIN.out.cells i hib
      have hcell := (HBW.out.cell (p := ⟨g, i, none⟩) hg).trans hc
      obtain ⟨m, hm⟩ := HIN.out.maps i hib
      have HMM := Lib.hid (hm.kept (grown_none HBW.out) (by simp))
      have HRW := Lib.hid (HO2.out.kept (grown_none HS3.out.2) (none_or _))
      have HTF := Lib.hid (take_flat uss i (by rw [HIN.out.lens]; exact hib))
      have hul := HIN.out.len i hib
      have HLK := Lib.hid (HIN.out.look i hib)
      have HFM := Lib.hid (HIN.out.form i hib)
      generalize bs.getD i 0 = b at hcell HMM
      generalize uss.getD i [] = us at HTF hul HLK HFM
      generalize ls.getD i [] = l at HMM HLK
      clear hc hm hg
      unfold mapV at hcell
      go_wp2_with fail
      refine (anyArgs_map w.heap.size _ b m (ns.map fun x => ⟨x.toArray⟩) l us _ (by simpa using hul) (by simp; omega) (by simpa [List.map_map, Function.comp_def] using HRW.out) (fun j hj => ?_) HMM.out (fun j hj => ?_) (fun j hj => HFM.out j (by simpa using hj))).mono ?_
      · have h := HSH.out j (by simpa using hj)
        rw [name_get]
        exact h
      · have h := HLK.out j (by simpa using hj)
        rw [name_get]
        exact h
      rintro e w4 ⟨v4, rfl, ho4, hb4⟩
      obtain ⟨g4, c4, rfl⟩ : ∃ g4 c4, v4 = .slice (some ⟨g4, 0, none⟩) us.length c4 := by
        rcases ho4.2 with ⟨_, h1⟩ | ⟨g, cap, cur, hv, _⟩
        · omega
        · exact ⟨g, cap, hv⟩
      have HO4 := Lib.hid ho4
      have HB4 := Lib.hid (HS3.out.2.trans (hb4.mono hsz))
      have HV4 := Lib.hid (HS3.out.1.kept (grown_none hb4) (none_or _))
      have hsz4 := HB4.out.size
      have HON := Lib.hid (one_all (us := us) (fun j hj => HFM.out j (by omega)))
      clear ho4 hb4
      go_wp2_with (at_builtin; go_must (refine wpList_append_own_at _ rfl _ _ 71 rfl w2.heap.size 20 i0 .nilIface 1 16 Tryd.underlying71 hi0 hz0 hz1 hz2 rfl (by decide) _ ((uss.take i).flatten).length _ rfl HV4.out ⟨g4, 0, none⟩ ns.length c4 us rfl (by rw [hul]; simp) (fun j u h => HO4.out.cells (g := g4) rfl j u h) HON.out (by unfold maxLen; omega) (by omega) hsz4 ?_); intro v5 w5 hown5 hg5 _ _; refine Hid.out ?_)
      refine Lib.hid ?_
      have HS5 := Lib.hid (show w5.ownsRow w2.heap.size 20 1 v5 ((uss.take (i + 1)).flatten).length ((uss.take (i + 1)).flatten) ∧ Below w2.heap.size w2 w5 from ⟨by rw [HTF.out, List.length_append, hul]; exact hown5, HB4.out.grown hg5 hsz4 (fun j hj => (HV4.out.lt j hj).1)⟩)
      clear hown5 hg5
      go_wp2
      go_roundw
      case rel => exact ⟨_, i + 1, rfl, by omega, by go_num, HS5⟩
      case measure => simp [intOf]; omega
    · obtain rfl : i = K := by omega
      have HOF := Lib.hid (show wr.ownsRow w.heap.size 20 1 v uss.flatten.length uss.flatten from by
        have h := HS3.out.1
        rw [List.take_of_length_le (by rw [HIN.out.lens, HK.out]; omega)] at h
        exact ownsRow_down h HB2.out.size)
      have HBK := Lib.hid (fun (w' : World) (h : Below wr.heap.size wr w') => (show w'.ownsRow w.heap.size 20 1 v uss.flatten.length uss.flatten ∧ Below w.heap.size w w' from ⟨HOF.out.kept (grown_none h) (none_or _), HBW.out.trans (h.mono HBW.out.size)⟩))
      clear hfl hsz
      rcases HFX.out with ⟨hi1, rfl⟩ | ⟨K1, i', j', e', cl, t, hi1, hv, hcl, hc0, hte, htn, hq2⟩
      · subst hi1
        rcases HRB.out with ⟨rfl, rfl⟩ | ⟨sg, hkk, hs2, hc2, rfl⟩
        · go_wp2
          go_ret3
          exact ⟨v, rfl, HOF.out, HBW.out⟩
        · have hkne : (k != 1) = true := by rw [bne_iff_ne]; omega
          go_wp2_with fail
          refine (reb_any _ k sg _ hkk hs2 hc2).mono ?_
          rintro e w6 ⟨rfl, hb6⟩
          have HE := Lib.hid (HBK.out w6 hb6)
          clear hb6
          go_wp2
          go_ret3
          exact ⟨v, rfl, HE.out.1, HE.out.2⟩
      · have hi2 : (1 : Int) < (i : Int) := by omega
        have HFB := Lib.hid (fixBound_any q1 i (K1 + 1) i' j' e' cl t wr hqs HAS.out hv (by omega) h2 hcl hc0 hte htn)
        have HQ2 := Lib.hid hq2
        clear hi1 hv hcl hc0 hte htn hq2 HFX
        go_wp2_with fail
        refine HFB.out.mono ?_
        rintro e w6 ⟨rfl, hb6⟩
        rw [← HQ2.out]
        have HE := Lib.hid (HBK.out w6 hb6)
        have HB6 := Lib.hid hb6
        clear hb6
        rcases HRB.out with ⟨rfl, rfl⟩ | ⟨sg, hkk, hs2, hc2, rfl⟩
        · go_wp2
          go_ret3
          exact ⟨v, rfl, HE.out.1, HE.out.2⟩
        · have hkne : (k != 1) = true := by rw [bne_iff_ne]; omega
          go_wp2_with fail
          refine (reb_any _ k sg _ hkk hs2 hc2).mono ?_
          rintro e w7 ⟨rfl, hb7⟩
          have HE7 := Lib.hid (HBK.out w7 (HB6.out.trans (hb7.mono HB6.out.size)))
          clear hb7
          go_wp2
          go_ret3
          exact ⟨v, rfl, HE7.out.1, HE7.out.2⟩
set_option maxHeartbeats 1000000 in
theorem bindMapper_list (k : Int) (hk : k = 1 ∨ k = 2 ∨ k = 3 ∨ k = 4) (q q1 q2 q3 : ByteArray) (ns : List (List UInt8)) (A : Option Addr) (K c : Nat) (bs : List Nat) (ls : List (List (ByteArray × Value))) (uss : List (List Value)) (w : World) (ht : TextOk q) (hp : Pow10 w)
    (hcomp : cn (mkK 1) q.data.toList none [] [] = some (q1.data.toList, ns)) (hasc : asc q1) (hqs : q1.size ≤ 100000) (hK : bs.length = K) (h1 : 1 ≤ K) (h2 : K ≤ 100) (hN1 : 1 ≤ ns.length) (hN : ns.length ≤ 100) (hsh : ∀ i, i < ns.length → (ns.getD i []).length ≤ maxLen)
    (hin : ArrIn w A bs ls ns uss) (hfix : FixTo q1 K q2) (hreb : RebTo k q2 q3) :
    Calls Tryd.prog 45 #[.int .i64 k, .string q, .iface 71 (.slice A K c)] w (ArrSo q3 uss.flatten w) := by
  have h3 := ta_am
  have h4 := ta_aa
  have HC := Lib.hid (bindArray_any k hk q q1 q2 q3 ns A K c bs ls uss w ht hp hcomp hasc hqs hK h1 h2 hN1 hN hsh hin hfix hreb)
  clear hk ht hp hcomp hasc hqs hK h1 h2 hN1 hN hsh hin hfix hreb
  go_enter Tryd.func45, Tryd.ntmps45
  go_wp2_with fail
  refine HC.out.mono ?_
  rintro e w3 ⟨v, rfl, ho, hb⟩
  have HB3 := Lib.hid hb
  have HO3 := Lib.hid ho
  clear ho hb
  go_wp2_with fail
  go_ret3
  exact ⟨v, rfl, HO3.out, HB3.out⟩
set_option maxHeartbeats 1000000 in
theorem bindNamed_list (k : Int) (hk : k = 1 ∨ k = 2 ∨ k = 3 ∨ k = 4) (q q1 q2 q3 : ByteArray) (ns : List (List UInt8)) (A : Option Addr) (K c : Nat) (bs : List Nat) (ls : List (List (ByteArray × Value))) (uss : List (List Value)) (w : World) (ht : TextOk q) (hp : Pow10 w)
    (hcomp : cn (mkK 1) q.data.toList none [] [] = some (q1.data.toList, ns)) (hasc : asc q1) (hqs : q1.size ≤ 100000) (hK : bs.length = K) (h1 : 1 ≤ K) (h2 : K ≤ 100) (hN1 : 1 ≤ ns.length) (hN : ns.length ≤ 100) (hsh : ∀ i, i < ns.length → (ns.getD i []).length ≤ maxLen)
    (hin : ArrIn w A bs ls ns uss) (hfix : FixTo q1 K q2) (hreb : RebTo k q2 q3) :
    Calls Tryd.prog 38 #[.int .i64 k, .string q, .iface 71 (.slice A K c)] w (ArrSo q3 uss.flatten w) := by
  have HC := Lib.hid (bindMapper_list k hk q q1 q2 q3 ns A K c bs ls uss w ht hp hcomp hasc hqs hK h1 h2 hN1 hN hsh hin hfix hreb)
  clear hk ht hp hcomp hasc hqs hK h1 h2 hN1 hN hsh hin hfix hreb
  go_enter Tryd.func38, Tryd.ntmps38
  go_wp2_with fail
  refine HC.out.mono ?_
  rintro e w3 ⟨v, rfl, ho, hb⟩
  have HB3 := Lib.hid hb
  have HO3 := Lib.hid ho
  clear ho hb
  go_wp2_with fail
  go_ret3
  exact ⟨v, rfl, HO3.out, HB3.out⟩
end Go.Proofs.YtpjadgdimkdblaaDoor
