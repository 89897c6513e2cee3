/- FnRowsKind walked: it answers true whatever the names, the lists and the kind are, and only makes new memory. -/
import Derived.Test.YtpjadgdimkdblaaDoorRkL
import Derived.OpenShut
namespace Go.Proofs.YtpjadgdimkdblaaDoor
open Go.RowKit
set_option linter.unusedVariables false

theorem nxK {w0 w w1 : World} (h : Below w0.heap.size w0 w) (hb : Below w.heap.size w w1) : Below w0.heap.size w0 w1 := h.trans (hb.mono h.size)
theorem digits9_kk (j : Int) (i : Nat) (hj : j = (i : Int)) (hi : i < 100) (w : World) :
    Calls Tryd.prog 24 #[.int .i64 j] w fun e w' => e = .returned (.string ⟨(Lib.decDigits i).toArray⟩) ∧ Below w.heap.size w w' := by
  subst hj
  exact digits9_small i hi w
theorem lsAt_below {w w' : World} {A : Option Addr} {ls : List LRec} (h : LsAt w A ls) (hb : Below w.heap.size w w') : LsAt w' A ls := by
  rcases h with e | ⟨b, off, e, h1, h2⟩
  · exact .inl e
  · refine .inr ⟨b, off, e, Nat.lt_of_lt_of_le h1 hb.size, fun i hi => ?_⟩
    obtain ⟨h3, h4⟩ := h2 i hi
    exact ⟨(hb.cell (p := ⟨b, off + i, none⟩) h1).trans h3, h4.1, h4.2.1, h4.2.2.1, listAt_below h4.2.2.2 hb⟩
def gapV : List UInt8 := [32] ++ (valW ++ [32])
theorem gapV_plain : ∀ c ∈ gapV, plainC c := by unfold gapV valW; decide
theorem w32 : ∀ c ∈ ([32] : List UInt8), isW (c.toNat : Int) := by intro c hc; simp at hc; subst hc; exact .inl rfl
set_option maxHeartbeats 8000000 in
set_option maxRecDepth 100000 in
theorem rowsKind_0 (A : Option Addr) (n c : Nat) (ss : List ByteArray) (A2 : Option Addr) (n2 c2 : Nat) (ls : List LRec) (kd : Int) (hk3 : kd % 3 = 0) (w : World) (hp : Pow10 w) (hn : ss.length = n) (hm : n ≤ maxLen) (hx : StrsAt w A ss) (hz : ∀ i, i < n → (ss.getD i ByteArray.empty).size ≤ maxLen) (hn2 : ls.length = n2) (hm2 : n2 ≤ maxLen) (_ : A2 = none → c2 = 0) (hx2 : LsAt w A2 ls) (hkd : (Lit.int .u8 kd).wf = true) :
    Calls Tryd.prog 7 #[.slice A n c, .slice A2 n2 c2, .int .u8 kd] w fun e w' => e = .returned (.bool true) ∧ Below w.heap.size w w' := by
  have HP := Lib.hid hp
  have HX := Lib.hid hx
  have HN := Lib.hid hn
  have HZ := Lib.hid hz
  have HX2 := Lib.hid hx2
  have HN2 := Lib.hid hn2
  have hm' := hm
  unfold maxLen at hm hm2
  have hbd := Go.bounds_u8 hkd
  clear hp hx hn hz hx2 hn2
  go_enter Tryd.func7, Tryd.ntmps7
  go_wp2_with fail
  refine (fits2_any A n c ss w HN.out hm' HX.out).mono ?_
  rintro e w' ⟨r, rfl, hr, rfl⟩
  cases r with
  | false =>
    clear hr
    go_wp2
    go_ret
    exact ⟨rfl, Below.refl _ _⟩
  | true =>
  have hnn := hr rfl
  clear hr
  by_cases h2 : (2147483647 : Int) < n2
  · go_wp2
    go_ret
    exact ⟨rfl, Below.refl _ _⟩
  go_wp2_with fail
  refine (rows9_any A n c ss A2 n2 c2 ls w HN.out hnn HX.out HZ.out HN2.out (by omega) HX2.out).mono ?_
  rintro e w1 ⟨a3, n3, c3, r, rfl, hb1, hr⟩
  have HW1 := Lib.hid hb1
  have HR := Lib.hid hr
  clear hr hb1
  cases r with
  | false =>
    go_wp2
    go_ret
    exact ⟨rfl, HW1.out⟩
  | true =>
  obtain ⟨hn3, hg, rs, hrs, hgs⟩ := HR.out rfl
  obtain rfl : n3 = n2 := by rw [hn3, HN2.out]
  have HG := Lib.hid hg
  have hn1 : 1 ≤ n := by rw [← HN.out]; exact hg.some1
  have hn6 : n ≤ 6 := by rw [← HN.out]; exact hg.few1
  have hk1 : 1 ≤ n3 := by rw [← HN2.out]; exact hg.some2
  have hk8 : n3 ≤ 8 := by rw [← HN2.out]; exact hg.few2
  have HKR := Lib.hid (kind_rows hg (by rw [← hn3]; rw [← hn3] at hrs; exact hrs) hgs)
  clear hn3 hg hrs hgs HR
  go_wp2_with fail
  have HBA := Lib.hid (fun (X : Obj) => HW1.out.alloc HW1.out.size X)
  refine (insert9_any A n c n3 ss ⟨#[32, 86, 65, 76, 85, 69, 83, 32]⟩ _ HN.out hn6 (strsAt_below HX.out (HBA.out _)) (name_size HG.out) hk8 (by decide)).mono ?_
  rintro e w2 ⟨t, u, rfl, ht, hu, hb2⟩
  have HW2 := Lib.hid (((Below.refl w1.heap.size w1).alloc (Nat.le_refl _) _).trans (hb2.mono (by simp)))
  have HT := Lib.hid (show t.data.toList = headI ss.length gapV ++ 40 :: (ask ss ++ [41]) from ht)
  have HU := Lib.hid (show u.data.toList = wantI (headI ss.length gapV) (marksI ss.length ++ [41]) n3 from hu)
  have huz := want_small (by rw [HN.out]; exact hn6) hk8 (by decide) HU.out
  have HCQ := Lib.hid (show cntQ u.data.toList ≤ 99 by rw [HU.out]; exact cntQ_want (by rw [HN.out]; exact hn6) hk8 gapV_plain)
  clear ht hu hb2 HBA
  go_wp2_with fail
  go_loopw [13, 14, 51] (fun v' m' i w' => ∃ (i' m : Nat) (v : ByteArray) (wr : World), i' ≤ u.size ∧ wr = w' ∧ v' = .string v ∧ m' = .int .i64 m ∧ i = .int .i64 i' ∧ v.size ≤ 2400 ∧ m ≤ 99 ∧ Hid (KindSo [36] u i' m v ∧ Below w1.heap.size w1 wr)) (fun _ _ i _ => u.size - (intOf i).toNat)
  case atStart => exact ⟨0, 0, _, _, Nat.zero_le _, rfl, rfl, rfl, rfl, by decide, by omega, Lib.hid ⟨kind_start _ u HCQ.out, HW2.out⟩⟩
  case round =>
    obtain ⟨i, m, v, wr, hi, rfl, rfl, rfl, rfl, hv, hm99, HS⟩ := hrel
    have h0i : (0 : Int) ≤ i := by omega
    have hszr := HS.out.2.size
    by_cases hlt : i < u.size
    · have hin : (i : Int) < u.size := by omega
      by_cases h63 : ((u[i]'hlt).toNat : Int) = 63
      · have hb63 : (((u[i]'hlt).toNat : Int) == 63) = true := by rw [beq_iff_eq]; exact h63
        have HM := Lib.hid (fun (sb ds : ByteArray) => kind_mark (sb := sb) (ds := ds) HS.out.1 hlt h63)
        have hm100 : m + 1 < 100 := (HM.out ⟨#[36]⟩ ⟨(Lib.decDigits (m + 1)).toArray⟩ rfl (by decide) rfl).1
        clear h63
        go_wp2_with fail
        refine (digits9_kk _ (m + 1) (by omega) hm100 _).mono ?_
        rintro e w3 ⟨rfl, hb3⟩
        have hds : (⟨(Lib.decDigits (m + 1)).toArray⟩ : ByteArray).size ≤ 2 := dec2i (m + 1) hm100
        have HD := Lib.hid (show (⟨(Lib.decDigits (m + 1)).toArray⟩ : ByteArray).data.toList = Lib.decDigits (m + 1) from rfl)
        generalize (⟨(Lib.decDigits (m + 1)).toArray⟩ : ByteArray) = ds at hds HD
        have HK := Lib.hid (HM.out ⟨#[36]⟩ ds rfl (by decide) HD.out).2
        have HB3 := Lib.hid (HS.out.2.trans (hb3.mono hszr))
        have hvz := HK.out.2.2
        clear hb3
        go_wp2_with fail
        go_roundw
        case rel => exact ⟨i + 1, m + 1, _, _, by omega, rfl, rfl, by go_num, by go_num, by omega, by omega, Lib.hid ⟨HK.out, HB3.out⟩⟩
        case measure => simp [intOf]; omega
      · have hb63 : (((u[i]'hlt).toNat : Int) == 63) = false := by rw [beq_eq_false_iff_ne]; exact h63
        have HK := Lib.hid (kind_plain HS.out.1 hlt h63)
        have hvz := HK.out.2.2
        have hex : (u.extract i (i + 1)).size = 1 := by rw [← size_list, one_byte u i hlt]; rfl
        clear h63
        go_wp2_with fail
        go_roundw
        case rel => exact ⟨i + 1, m, _, _, by omega, rfl, rfl, rfl, by go_num, by omega, by omega, Lib.hid ⟨HK.out, HS.out.2⟩⟩
        case measure => simp [intOf]; omega
    · obtain rfl : i = u.size := by omega
      have HV := Lib.hid (kind_end HS.out.1)
      have HBA := Lib.hid (fun (X : Obj) => HS.out.2.alloc HS.out.2.size X)
      have HPW := Lib.hid (pow10_below HP.out HW1.out)
      have HGV := Lib.hid gapV_plain
      have HSH := Lib.hid (show ∀ i, i < (ss.map fun s => s.data.toList).length → ((ss.map fun s => s.data.toList).getD i []).length ≤ maxLen from fun i hi => by
        rw [List.length_map] at hi
        have h := name_size HG.out i hi
        have e : (ss.map fun s => s.data.toList).getD i [] = (ss.getD i ByteArray.empty).data.toList := by
          rw [List.getD_eq_getElem?_getD, List.getD_eq_getElem?_getD, List.getElem?_map, List.getElem?_eq_getElem hi]
          rfl
        rw [e, size_list]
        unfold maxLen
        omega)
      have HMN := Lib.hid (fun (wx : World) (hb : Below w1.heap.size w1 wx) => manyOf_any 2 (.inr (.inl rfl)) t ⟨(boundI ss.length gapV).toArray⟩ u v (ss.map fun s => s.data.toList) a3 n3 c3 rs (ls.map LRec.xs) (flR ls ls.length) wx (fl_whole ls) (i_ok (by rw [HN.out]; exact hn6) (names_ok HG.out) gapV_plain (by decide) HT.out) (pow10_below HPW.out hb)
        (by rw [HT.out]; exact i_cn (by rw [HN.out]; exact hn1) (by rw [HN.out]; exact hn6) (names_ok HG.out) gapV_plain) (i_asc (by rw [HN.out]; exact hn6) gapV_plain rfl) (i_size (by rw [HN.out]; exact hn6) (by decide)) (by rw [HKR.out.2.2, HN2.out]) hk1 (by omega) (by rw [List.length_map, HN.out]; exact hn1) (by rw [List.length_map, HN.out]; omega) HSH.out
        (rows_below HKR.out.1 hb) HKR.out.2.1 (i_fix (g1 := [32]) (wd := valW) (g2 := [32]) (by rw [HN.out]; exact hn6) hk1 w32 valW_ok w32 rfl HU.out) (.inr ⟨[36], .inl ⟨rfl, rfl⟩, by omega, HCQ.out, HV.out⟩))
      go_wp2_with fail
      refine (HMN.out _ (HBA.out _)).mono ?_
      rintro e w4 ⟨x4, rfl, ho4, hb4⟩
      have HB4 := Lib.hid (nxK (HBA.out _) hb4)
      have HW4 := Lib.hid (HW1.out.trans (HB4.out.mono HW1.out.size))
      have HFL := Lib.hid (flR_len (rows_len HG.out) ls.length (Nat.le_refl _))
      have HO4 := Lib.hid ho4
      rw [HFL.out, HN2.out, HN.out] at HO4
      clear ho4 hb4
      go_wp2_with fail
      refine (all9_any A2 n3 c2 n ls _ HN2.out hk8 (lsAt_below HX2.out HW4.out) (fun i hi => by rw [← HN.out]; exact rows_len HG.out i hi) hn6).mono ?_
      rintro e w5 ⟨v9, rfl, ho9, hb5⟩
      have HFN := Lib.hid (show (flR ls n3).length = n3 * n by have h := HFL.out; rw [HN2.out, HN.out] at h; exact h)
      obtain ⟨A9, c9, rfl, hl9⟩ := listAt_own ho9 HFN.out
      have HL9 := Lib.hid hl9
      have HO5 := Lib.hid (HO4.out.kept (grown_none hb5) (none_or _))
      have HW5 := Lib.hid (nxK HW4.out hb5)
      have HRT := Lib.hid (flat_right HG.out)
      rw [HN2.out] at HRT
      have h48 : n3 * n ≤ 48 := by
        have : n3 * n ≤ 8 * 6 := Nat.mul_le_mul hk8 hn6
        omega
      clear ho9 hb5 hl9
      go_wp2_with fail
      refine (equal_backs _ x4 A9 (n3 * n) c9 (flR ls n3) _ HFN.out (by omega) HO5.out HL9.out (fun i hi => HRT.out i (by rw [HFN.out]; exact hi))).mono ?_
      rintro e w6 ⟨rfl, hb6⟩
      have HW6 := Lib.hid (nxK HW5.out hb6)
      clear hb6
      go_wp2
      go_ret
      exact ⟨rfl, HW6.out⟩
set_option maxHeartbeats 8000000 in
set_option maxRecDepth 100000 in
theorem rowsKind_1 (A : Option Addr) (n c : Nat) (ss : List ByteArray) (A2 : Option Addr) (n2 c2 : Nat) (ls : List LRec) (kd : Int) (hk3 : kd % 3 = 1) (w : World) (hp : Pow10 w) (hn : ss.length = n) (hm : n ≤ maxLen) (hx : StrsAt w A ss) (hz : ∀ i, i < n → (ss.getD i ByteArray.empty).size ≤ maxLen) (hn2 : ls.length = n2) (hm2 : n2 ≤ maxLen) (_ : A2 = none → c2 = 0) (hx2 : LsAt w A2 ls) (hkd : (Lit.int .u8 kd).wf = true) :
    Calls Tryd.prog 7 #[.slice A n c, .slice A2 n2 c2, .int .u8 kd] w fun e w' => e = .returned (.bool true) ∧ Below w.heap.size w w' := by
  have HP := Lib.hid hp
  have HX := Lib.hid hx
  have HN := Lib.hid hn
  have HZ := Lib.hid hz
  have HX2 := Lib.hid hx2
  have HN2 := Lib.hid hn2
  have hm' := hm
  unfold maxLen at hm hm2
  have hbd := Go.bounds_u8 hkd
  clear hp hx hn hz hx2 hn2
  go_enter Tryd.func7, Tryd.ntmps7
  go_wp2_with fail
  refine (fits2_any A n c ss w HN.out hm' HX.out).mono ?_
  rintro e w' ⟨r, rfl, hr, rfl⟩
  cases r with
  | false =>
    clear hr
    go_wp2
    go_ret
    exact ⟨rfl, Below.refl _ _⟩
  | true =>
  have hnn := hr rfl
  clear hr
  by_cases h2 : (2147483647 : Int) < n2
  · go_wp2
    go_ret
    exact ⟨rfl, Below.refl _ _⟩
  go_wp2_with fail
  refine (rows9_any A n c ss A2 n2 c2 ls w HN.out hnn HX.out HZ.out HN2.out (by omega) HX2.out).mono ?_
  rintro e w1 ⟨a3, n3, c3, r, rfl, hb1, hr⟩
  have HW1 := Lib.hid hb1
  have HR := Lib.hid hr
  clear hr hb1
  cases r with
  | false =>
    go_wp2
    go_ret
    exact ⟨rfl, HW1.out⟩
  | true =>
  obtain ⟨hn3, hg, rs, hrs, hgs⟩ := HR.out rfl
  obtain rfl : n3 = n2 := by rw [hn3, HN2.out]
  have HG := Lib.hid hg
  have hn1 : 1 ≤ n := by rw [← HN.out]; exact hg.some1
  have hn6 : n ≤ 6 := by rw [← HN.out]; exact hg.few1
  have hk1 : 1 ≤ n3 := by rw [← HN2.out]; exact hg.some2
  have hk8 : n3 ≤ 8 := by rw [← HN2.out]; exact hg.few2
  have HKR := Lib.hid (kind_rows hg (by rw [← hn3]; rw [← hn3] at hrs; exact hrs) hgs)
  clear hn3 hg hrs hgs HR
  go_wp2_with fail
  have HBA := Lib.hid (fun (X : Obj) => HW1.out.alloc HW1.out.size X)
  refine (insert9_any A n c n3 ss ⟨#[32, 86, 65, 76, 85, 69, 83, 32]⟩ _ HN.out hn6 (strsAt_below HX.out (HBA.out _)) (name_size HG.out) hk8 (by decide)).mono ?_
  rintro e w2 ⟨t, u, rfl, ht, hu, hb2⟩
  have HW2 := Lib.hid (((Below.refl w1.heap.size w1).alloc (Nat.le_refl _) _).trans (hb2.mono (by simp)))
  have HT := Lib.hid (show t.data.toList = headI ss.length gapV ++ 40 :: (ask ss ++ [41]) from ht)
  have HU := Lib.hid (show u.data.toList = wantI (headI ss.length gapV) (marksI ss.length ++ [41]) n3 from hu)
  have huz := want_small (by rw [HN.out]; exact hn6) hk8 (by decide) HU.out
  have HCQ := Lib.hid (show cntQ u.data.toList ≤ 99 by rw [HU.out]; exact cntQ_want (by rw [HN.out]; exact hn6) hk8 gapV_plain)
  clear ht hu hb2 HBA
  go_wp2_with fail
  go_loopw [13, 14, 51] (fun v' m' i w' => ∃ (i' m : Nat) (v : ByteArray) (wr : World), i' ≤ u.size ∧ wr = w' ∧ v' = .string v ∧ m' = .int .i64 m ∧ i = .int .i64 i' ∧ v.size ≤ 2400 ∧ m ≤ 99 ∧ Hid (KindSo [58, 97, 114, 103] u i' m v ∧ Below w1.heap.size w1 wr)) (fun _ _ i _ => u.size - (intOf i).toNat)
  case atStart => exact ⟨0, 0, _, _, Nat.zero_le _, rfl, rfl, rfl, rfl, by decide, by omega, Lib.hid ⟨kind_start _ u HCQ.out, HW2.out⟩⟩
  case round =>
    obtain ⟨i, m, v, wr, hi, rfl, rfl, rfl, rfl, hv, hm99, HS⟩ := hrel
    have h0i : (0 : Int) ≤ i := by omega
    have hszr := HS.out.2.size
    by_cases hlt : i < u.size
    · have hin : (i : Int) < u.size := by omega
      by_cases h63 : ((u[i]'hlt).toNat : Int) = 63
      · have hb63 : (((u[i]'hlt).toNat : Int) == 63) = true := by rw [beq_iff_eq]; exact h63
        have HM := Lib.hid (fun (sb ds : ByteArray) => kind_mark (sb := sb) (ds := ds) HS.out.1 hlt h63)
        have hm100 : m + 1 < 100 := (HM.out ⟨#[58, 97, 114, 103]⟩ ⟨(Lib.decDigits (m + 1)).toArray⟩ rfl (by decide) rfl).1
        clear h63
        go_wp2_with fail
        refine (digits9_kk _ (m + 1) (by omega) hm100 _).mono ?_
        rintro e w3 ⟨rfl, hb3⟩
        have hds : (⟨(Lib.decDigits (m + 1)).toArray⟩ : ByteArray).size ≤ 2 := dec2i (m + 1) hm100
        have HD := Lib.hid (show (⟨(Lib.decDigits (m + 1)).toArray⟩ : ByteArray).data.toList = Lib.decDigits (m + 1) from rfl)
        generalize (⟨(Lib.decDigits (m + 1)).toArray⟩ : ByteArray) = ds at hds HD
        have HK := Lib.hid (HM.out ⟨#[58, 97, 114, 103]⟩ ds rfl (by decide) HD.out).2
        have HB3 := Lib.hid (HS.out.2.trans (hb3.mono hszr))
        have hvz := HK.out.2.2
        clear hb3
        go_wp2_with fail
        go_roundw
        case rel => exact ⟨i + 1, m + 1, _, _, by omega, rfl, rfl, by go_num, by go_num, by omega, by omega, Lib.hid ⟨HK.out, HB3.out⟩⟩
        case measure => simp [intOf]; omega
      · have hb63 : (((u[i]'hlt).toNat : Int) == 63) = false := by rw [beq_eq_false_iff_ne]; exact h63
        have HK := Lib.hid (kind_plain HS.out.1 hlt h63)
        have hvz := HK.out.2.2
        have hex : (u.extract i (i + 1)).size = 1 := by rw [← size_list, one_byte u i hlt]; rfl
        clear h63
        go_wp2_with fail
        go_roundw
        case rel => exact ⟨i + 1, m, _, _, by omega, rfl, rfl, rfl, by go_num, by omega, by omega, Lib.hid ⟨HK.out, HS.out.2⟩⟩
        case measure => simp [intOf]; omega
    · obtain rfl : i = u.size := by omega
      have HV := Lib.hid (kind_end HS.out.1)
      have HBA := Lib.hid (fun (X : Obj) => HS.out.2.alloc HS.out.2.size X)
      have HPW := Lib.hid (pow10_below HP.out HW1.out)
      have HGV := Lib.hid gapV_plain
      have HSH := Lib.hid (show ∀ i, i < (ss.map fun s => s.data.toList).length → ((ss.map fun s => s.data.toList).getD i []).length ≤ maxLen from fun i hi => by
        rw [List.length_map] at hi
        have h := name_size HG.out i hi
        have e : (ss.map fun s => s.data.toList).getD i [] = (ss.getD i ByteArray.empty).data.toList := by
          rw [List.getD_eq_getElem?_getD, List.getD_eq_getElem?_getD, List.getElem?_map, List.getElem?_eq_getElem hi]
          rfl
        rw [e, size_list]
        unfold maxLen
        omega)
      have HMN := Lib.hid (fun (wx : World) (hb : Below w1.heap.size w1 wx) => manyOf_any 3 (.inr (.inr (.inl rfl))) t ⟨(boundI ss.length gapV).toArray⟩ u v (ss.map fun s => s.data.toList) a3 n3 c3 rs (ls.map LRec.xs) (flR ls ls.length) wx (fl_whole ls) (i_ok (by rw [HN.out]; exact hn6) (names_ok HG.out) gapV_plain (by decide) HT.out) (pow10_below HPW.out hb)
        (by rw [HT.out]; exact i_cn (by rw [HN.out]; exact hn1) (by rw [HN.out]; exact hn6) (names_ok HG.out) gapV_plain) (i_asc (by rw [HN.out]; exact hn6) gapV_plain rfl) (i_size (by rw [HN.out]; exact hn6) (by decide)) (by rw [HKR.out.2.2, HN2.out]) hk1 (by omega) (by rw [List.length_map, HN.out]; exact hn1) (by rw [List.length_map, HN.out]; omega) HSH.out
        (rows_below HKR.out.1 hb) HKR.out.2.1 (i_fix (g1 := [32]) (wd := valW) (g2 := [32]) (by rw [HN.out]; exact hn6) hk1 w32 valW_ok w32 rfl HU.out) (.inr ⟨[58, 97, 114, 103], .inr (.inl ⟨rfl, rfl⟩), by omega, HCQ.out, HV.out⟩))
      go_wp2_with fail
      refine (HMN.out _ (HBA.out _)).mono ?_
      rintro e w4 ⟨x4, rfl, ho4, hb4⟩
      have HB4 := Lib.hid (nxK (HBA.out _) hb4)
      have HW4 := Lib.hid (HW1.out.trans (HB4.out.mono HW1.out.size))
      have HFL := Lib.hid (flR_len (rows_len HG.out) ls.length (Nat.le_refl _))
      have HO4 := Lib.hid ho4
      rw [HFL.out, HN2.out, HN.out] at HO4
      clear ho4 hb4
      go_wp2_with fail
      refine (all9_any A2 n3 c2 n ls _ HN2.out hk8 (lsAt_below HX2.out HW4.out) (fun i hi => by rw [← HN.out]; exact rows_len HG.out i hi) hn6).mono ?_
      rintro e w5 ⟨v9, rfl, ho9, hb5⟩
      have HFN := Lib.hid (show (flR ls n3).length = n3 * n by have h := HFL.out; rw [HN2.out, HN.out] at h; exact h)
      obtain ⟨A9, c9, rfl, hl9⟩ := listAt_own ho9 HFN.out
      have HL9 := Lib.hid hl9
      have HO5 := Lib.hid (HO4.out.kept (grown_none hb5) (none_or _))
      have HW5 := Lib.hid (nxK HW4.out hb5)
      have HRT := Lib.hid (flat_right HG.out)
      rw [HN2.out] at HRT
      have h48 : n3 * n ≤ 48 := by
        have : n3 * n ≤ 8 * 6 := Nat.mul_le_mul hk8 hn6
        omega
      clear ho9 hb5 hl9
      go_wp2_with fail
      refine (equal_backs _ x4 A9 (n3 * n) c9 (flR ls n3) _ HFN.out (by omega) HO5.out HL9.out (fun i hi => HRT.out i (by rw [HFN.out]; exact hi))).mono ?_
      rintro e w6 ⟨rfl, hb6⟩
      have HW6 := Lib.hid (nxK HW5.out hb6)
      clear hb6
      go_wp2
      go_ret
      exact ⟨rfl, HW6.out⟩
set_option maxHeartbeats 8000000 in
set_option maxRecDepth 100000 in
theorem rowsKind_2 (A : Option Addr) (n c : Nat) (ss : List ByteArray) (A2 : Option Addr) (n2 c2 : Nat) (ls : List LRec) (kd : Int) (hk3 : kd % 3 = 2) (w : World) (hp : Pow10 w) (hn : ss.length = n) (hm : n ≤ maxLen) (hx : StrsAt w A ss) (hz : ∀ i, i < n → (ss.getD i ByteArray.empty).size ≤ maxLen) (hn2 : ls.length = n2) (hm2 : n2 ≤ maxLen) (_ : A2 = none → c2 = 0) (hx2 : LsAt w A2 ls) (hkd : (Lit.int .u8 kd).wf = true) :
    Calls Tryd.prog 7 #[.slice A n c, .slice A2 n2 c2, .int .u8 kd] w fun e w' => e = .returned (.bool true) ∧ Below w.heap.size w w' := by
  have HP := Lib.hid hp
  have HX := Lib.hid hx
  have HN := Lib.hid hn
  have HZ := Lib.hid hz
  have HX2 := Lib.hid hx2
  have HN2 := Lib.hid hn2
  have hm' := hm
  unfold maxLen at hm hm2
  have hbd := Go.bounds_u8 hkd
  clear hp hx hn hz hx2 hn2
  go_enter Tryd.func7, Tryd.ntmps7
  go_wp2_with fail
  refine (fits2_any A n c ss w HN.out hm' HX.out).mono ?_
  rintro e w' ⟨r, rfl, hr, rfl⟩
  cases r with
  | false =>
    clear hr
    go_wp2
    go_ret
    exact ⟨rfl, Below.refl _ _⟩
  | true =>
  have hnn := hr rfl
  clear hr
  by_cases h2 : (2147483647 : Int) < n2
  · go_wp2
    go_ret
    exact ⟨rfl, Below.refl _ _⟩
  go_wp2_with fail
  refine (rows9_any A n c ss A2 n2 c2 ls w HN.out hnn HX.out HZ.out HN2.out (by omega) HX2.out).mono ?_
  rintro e w1 ⟨a3, n3, c3, r, rfl, hb1, hr⟩
  have HW1 := Lib.hid hb1
  have HR := Lib.hid hr
  clear hr hb1
  cases r with
  | false =>
    go_wp2
    go_ret
    exact ⟨rfl, HW1.out⟩
  | true =>
  obtain ⟨hn3, hg, rs, hrs, hgs⟩ := HR.out rfl
  obtain rfl : n3 = n2 := by rw [hn3, HN2.out]
  have HG := Lib.hid hg
  have hn1 : 1 ≤ n := by rw [← HN.out]; exact hg.some1
  have hn6 : n ≤ 6 := by rw [← HN.out]; exact hg.few1
  have hk1 : 1 ≤ n3 := by rw [← HN2.out]; exact hg.some2
  have hk8 : n3 ≤ 8 := by rw [← HN2.out]; exact hg.few2
  have HKR := Lib.hid (kind_rows hg (by rw [← hn3]; rw [← hn3] at hrs; exact hrs) hgs)
  clear hn3 hg hrs hgs HR
  go_wp2_with fail
  have HBA := Lib.hid (fun (X : Obj) => HW1.out.alloc HW1.out.size X)
  refine (insert9_any A n c n3 ss ⟨#[32, 86, 65, 76, 85, 69, 83, 32]⟩ _ HN.out hn6 (strsAt_below HX.out (HBA.out _)) (name_size HG.out) hk8 (by decide)).mono ?_
  rintro e w2 ⟨t, u, rfl, ht, hu, hb2⟩
  have HW2 := Lib.hid (((Below.refl w1.heap.size w1).alloc (Nat.le_refl _) _).trans (hb2.mono (by simp)))
  have HT := Lib.hid (show t.data.toList = headI ss.length gapV ++ 40 :: (ask ss ++ [41]) from ht)
  have HU := Lib.hid (show u.data.toList = wantI (headI ss.length gapV) (marksI ss.length ++ [41]) n3 from hu)
  have huz := want_small (by rw [HN.out]; exact hn6) hk8 (by decide) HU.out
  have HCQ := Lib.hid (show cntQ u.data.toList ≤ 99 by rw [HU.out]; exact cntQ_want (by rw [HN.out]; exact hn6) hk8 gapV_plain)
  clear ht hu hb2 HBA
  go_wp2_with fail
  go_loopw [13, 14, 51] (fun v' m' i w' => ∃ (i' m : Nat) (v : ByteArray) (wr : World), i' ≤ u.size ∧ wr = w' ∧ v' = .string v ∧ m' = .int .i64 m ∧ i = .int .i64 i' ∧ v.size ≤ 2400 ∧ m ≤ 99 ∧ Hid (KindSo [64, 112] u i' m v ∧ Below w1.heap.size w1 wr)) (fun _ _ i _ => u.size - (intOf i).toNat)
  case atStart => exact ⟨0, 0, _, _, Nat.zero_le _, rfl, rfl, rfl, rfl, by decide, by omega, Lib.hid ⟨kind_start _ u HCQ.out, HW2.out⟩⟩
  case round =>
    obtain ⟨i, m, v, wr, hi, rfl, rfl, rfl, rfl, hv, hm99, HS⟩ := hrel
    have h0i : (0 : Int) ≤ i := by omega
    have hszr := HS.out.2.size
    by_cases hlt : i < u.size
    · have hin : (i : Int) < u.size := by omega
      by_cases h63 : ((u[i]'hlt).toNat : Int) = 63
      · have hb63 : (((u[i]'hlt).toNat : Int) == 63) = true := by rw [beq_iff_eq]; exact h63
        have HM := Lib.hid (fun (sb ds : ByteArray) => kind_mark (sb := sb) (ds := ds) HS.out.1 hlt h63)
        have hm100 : m + 1 < 100 := (HM.out ⟨#[64, 112]⟩ ⟨(Lib.decDigits (m + 1)).toArray⟩ rfl (by decide) rfl).1
        clear h63
        go_wp2_with fail
        refine (digits9_kk _ (m + 1) (by omega) hm100 _).mono ?_
        rintro e w3 ⟨rfl, hb3⟩
        have hds : (⟨(Lib.decDigits (m + 1)).toArray⟩ : ByteArray).size ≤ 2 := dec2i (m + 1) hm100
        have HD := Lib.hid (show (⟨(Lib.decDigits (m + 1)).toArray⟩ : ByteArray).data.toList = Lib.decDigits (m + 1) from rfl)
        generalize (⟨(Lib.decDigits (m + 1)).toArray⟩ : ByteArray) = ds at hds HD
        have HK := Lib.hid (HM.out ⟨#[64, 112]⟩ ds rfl (by decide) HD.out).2
        have HB3 := Lib.hid (HS.out.2.trans (hb3.mono hszr))
        have hvz := HK.out.2.2
        clear hb3
        go_wp2_with fail
        go_roundw
        case rel => exact ⟨i + 1, m + 1, _, _, by omega, rfl, rfl, by go_num, by go_num, by omega, by omega, Lib.hid ⟨HK.out, HB3.out⟩⟩
        case measure => simp [intOf]; omega
      · have hb63 : (((u[i]'hlt).toNat : Int) == 63) = false := by rw [beq_eq_false_iff_ne]; exact h63
        have HK := Lib.hid (kind_plain HS.out.1 hlt h63)
        have hvz := HK.out.2.2
        have hex : (u.extract i (i + 1)).size = 1 := by rw [← size_list, one_byte u i hlt]; rfl
        clear h63
        go_wp2_with fail
        go_roundw
        case rel => exact ⟨i + 1, m, _, _, by omega, rfl, rfl, rfl, by go_num, by omega, by omega, Lib.hid ⟨HK.out, HS.out.2⟩⟩
        case measure => simp [intOf]; omega
    · obtain rfl : i = u.size := by omega
      have HV := Lib.hid (kind_end HS.out.1)
      have HBA := Lib.hid (fun (X : Obj) => HS.out.2.alloc HS.out.2.size X)
      have HPW := Lib.hid (pow10_below HP.out HW1.out)
      have HGV := Lib.hid gapV_plain
      have HSH := Lib.hid (show ∀ i, i < (ss.map fun s => s.data.toList).length → ((ss.map fun s => s.data.toList).getD i []).length ≤ maxLen from fun i hi => by
        rw [List.length_map] at hi
        have h := name_size HG.out i hi
        have e : (ss.map fun s => s.data.toList).getD i [] = (ss.getD i ByteArray.empty).data.toList := by
          rw [List.getD_eq_getElem?_getD, List.getD_eq_getElem?_getD, List.getElem?_map, List.getElem?_eq_getElem hi]
          rfl
        rw [e, size_list]
        unfold maxLen
        omega)
      have HMN := Lib.hid (fun (wx : World) (hb : Below w1.heap.size w1 wx) => manyOf_any 4 (.inr (.inr (.inr rfl))) t ⟨(boundI ss.length gapV).toArray⟩ u v (ss.map fun s => s.data.toList) a3 n3 c3 rs (ls.map LRec.xs) (flR ls ls.length) wx (fl_whole ls) (i_ok (by rw [HN.out]; exact hn6) (names_ok HG.out) gapV_plain (by decide) HT.out) (pow10_below HPW.out hb)
        (by rw [HT.out]; exact i_cn (by rw [HN.out]; exact hn1) (by rw [HN.out]; exact hn6) (names_ok HG.out) gapV_plain) (i_asc (by rw [HN.out]; exact hn6) gapV_plain rfl) (i_size (by rw [HN.out]; exact hn6) (by decide)) (by rw [HKR.out.2.2, HN2.out]) hk1 (by omega) (by rw [List.length_map, HN.out]; exact hn1) (by rw [List.length_map, HN.out]; omega) HSH.out
        (rows_below HKR.out.1 hb) HKR.out.2.1 (i_fix (g1 := [32]) (wd := valW) (g2 := [32]) (by rw [HN.out]; exact hn6) hk1 w32 valW_ok w32 rfl HU.out) (.inr ⟨[64, 112], .inr (.inr ⟨rfl, rfl⟩), by omega, HCQ.out, HV.out⟩))
      go_wp2_with fail
      refine (HMN.out _ (HBA.out _)).mono ?_
      rintro e w4 ⟨x4, rfl, ho4, hb4⟩
      have HB4 := Lib.hid (nxK (HBA.out _) hb4)
      have HW4 := Lib.hid (HW1.out.trans (HB4.out.mono HW1.out.size))
      have HFL := Lib.hid (flR_len (rows_len HG.out) ls.length (Nat.le_refl _))
      have HO4 := Lib.hid ho4
      rw [HFL.out, HN2.out, HN.out] at HO4
      clear ho4 hb4
      go_wp2_with fail
      refine (all9_any A2 n3 c2 n ls _ HN2.out hk8 (lsAt_below HX2.out HW4.out) (fun i hi => by rw [← HN.out]; exact rows_len HG.out i hi) hn6).mono ?_
      rintro e w5 ⟨v9, rfl, ho9, hb5⟩
      have HFN := Lib.hid (show (flR ls n3).length = n3 * n by have h := HFL.out; rw [HN2.out, HN.out] at h; exact h)
      obtain ⟨A9, c9, rfl, hl9⟩ := listAt_own ho9 HFN.out
      have HL9 := Lib.hid hl9
      have HO5 := Lib.hid (HO4.out.kept (grown_none hb5) (none_or _))
      have HW5 := Lib.hid (nxK HW4.out hb5)
      have HRT := Lib.hid (flat_right HG.out)
      rw [HN2.out] at HRT
      have h48 : n3 * n ≤ 48 := by
        have : n3 * n ≤ 8 * 6 := Nat.mul_le_mul hk8 hn6
        omega
      clear ho9 hb5 hl9
      go_wp2_with fail
      refine (equal_backs _ x4 A9 (n3 * n) c9 (flR ls n3) _ HFN.out (by omega) HO5.out HL9.out (fun i hi => HRT.out i (by rw [HFN.out]; exact hi))).mono ?_
      rintro e w6 ⟨rfl, hb6⟩
      have HW6 := Lib.hid (nxK HW5.out hb6)
      clear hb6
      go_wp2
      go_ret
      exact ⟨rfl, HW6.out⟩
theorem rowsKind_any (A : Option Addr) (n c : Nat) (ss : List ByteArray) (A2 : Option Addr) (n2 c2 : Nat) (ls : List LRec) (kd : Int) (w : World) (hp : Pow10 w) (hn : ss.length = n) (hm : n ≤ maxLen) (hx : StrsAt w A ss) (hz : ∀ i, i < n → (ss.getD i ByteArray.empty).size ≤ maxLen) (hn2 : ls.length = n2) (hm2 : n2 ≤ maxLen) (hA2 : A2 = none → c2 = 0) (hx2 : LsAt w A2 ls) (hkd : (Lit.int .u8 kd).wf = true) :
    Calls Tryd.prog 7 #[.slice A n c, .slice A2 n2 c2, .int .u8 kd] w fun e w' => e = .returned (.bool true) ∧ Below w.heap.size w w' := by
  have h : kd % 3 = 0 ∨ kd % 3 = 1 ∨ kd % 3 = 2 := by omega
  rcases h with h | h | h
  · exact rowsKind_0 A n c ss A2 n2 c2 ls kd h w hp hn hm hx hz hn2 hm2 hA2 hx2 hkd
  · exact rowsKind_1 A n c ss A2 n2 c2 ls kd h w hp hn hm hx hz hn2 hm2 hA2 hx2 hkd
  · exact rowsKind_2 A n c ss A2 n2 c2 ls kd h w hp hn hm hx hz hn2 hm2 hA2 hx2 hkd
end Go.Proofs.YtpjadgdimkdblaaDoor
