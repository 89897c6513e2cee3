/- Rebind walked: it answers rebL. -/
import Derived.Test.YtpjadgdimkdblaaDoorRebS
import Derived.Test.YtpjadgdimkdblaaDoorAppI
import Derived.Test.YtpjadgdimkdblaaDoorWords
import Derived.Maps.AppendAt
import Derived.Laws.MakeOwn
import Derived.Lib.BufferRead
namespace Go.Proofs.YtpjadgdimkdblaaDoor
open Go.RowKit
set_option linter.unusedVariables false

theorem own_str {w : World} {B : Nat} {v : Value} {L M : List UInt8} {x : ByteArray} (h : w.ownsRow B 5 1 v (L.length + x.size) (Lib.byteCells L ++ Lib.strCells x)) (hx : x.data.toList = M) : w.ownsRow B 5 1 v (L ++ M).length (Lib.byteCells (L ++ M)) := by
  subst hx
  rw [List.length_append, size_list, Lib.byteCells_append]
  exact h
theorem own_bytes {w : World} {B n : Nat} {v : Value} {L M : List UInt8} (h : w.ownsRow B 5 1 v (L.length + n) (Lib.byteCells L ++ Lib.byteCells M)) (hn : n = M.length) : w.ownsRow B 5 1 v (L ++ M).length (Lib.byteCells (L ++ M)) := by
  subst hn
  rw [List.length_append, Lib.byteCells_append]
  exact h
theorem bytes_new (w : World) (l : List UInt8) (T : TypeId) : ∀ j u, (Lib.byteCells l)[j]? = some u → (w.alloc (.cells (Lib.byteCells l).toArray T)).cell? ((⟨w.heap.size, 0, none⟩ : Addr).add j) = some u := by
  intro j u hu
  have hadd : (⟨w.heap.size, 0, none⟩ : Addr).add j = ⟨w.heap.size, j, none⟩ := by unfold Addr.add; split <;> simp_all
  rw [hadd, cell_of_row _ _ _ _ _ _ (heap_alloc_new w _)]
  simpa using hu
theorem bytes_one (l : List UInt8) : ∀ u ∈ Lib.byteCells l, u.oneCell' = true := by
  intro u hu
  unfold Lib.byteCells at hu
  obtain ⟨x, _, rfl⟩ := List.mem_map.1 hu
  rfl
def strOf : Value → ByteArray
  | .string s => s
  | _ => ByteArray.empty
theorem conv_own {w : World} {B n : Nat} {v : Value} {l : List UInt8} (h : w.ownsRow B 5 1 v n (Lib.byteCells l)) (hn : l.length = n) : (convert 59 9 v).run Tryd.prog w = .ok (.string ⟨l.toArray⟩) w := by
  subst hn
  have hc := fun g => h.cells (g := g)
  rcases h.2 with ⟨hv, h0⟩ | ⟨g, cap, cur, hv, _⟩
  · subst hv
    have : l = [] := List.eq_nil_of_length_eq_zero h0
    subst this
    exact Lib.run_convert_nil_bytes (P := Tryd.prog) w 59 9 5 0 Tryd.underlying59 Tryd.underlying5 Tryd.underlying9
  · subst hv
    refine run_convert_bytes_back (P := Tryd.prog) w 59 9 5 ⟨g, 0, none⟩ cap l Tryd.underlying59 Tryd.underlying5 Tryd.underlying9 ?_
    intro j hj
    refine hc g rfl j _ ?_
    unfold Lib.byteCells
    rw [List.getElem?_map, List.getElem?_eq_getElem hj]
    rfl
set_option maxHeartbeats 2000000 in
set_option maxRecDepth 100000 in
theorem reb_any (q : ByteArray) (k : Int) (sg : List UInt8) (w : World) (hk : (k = 2 ∧ sg = [36]) ∨ (k = 3 ∧ sg = [58, 97, 114, 103]) ∨ (k = 4 ∧ sg = [64, 112])) (hq : q.size ≤ 100000) (hc : cntQ q.data.toList ≤ 99) :
    Calls Tryd.prog 41 #[.int .i64 k, .string q] w fun e w' => e = .returned (.string ⟨(rebL sg q.data.toList 0).toArray⟩) ∧ Below w.heap.size w w' := by
  obtain ⟨i0, hi0, hz0, hz1, hz2⟩ := info_parts Tryd.infoByte
  rcases hk with ⟨rfl, rfl⟩ | ⟨rfl, rfl⟩ | ⟨rfl, rfl⟩
  · go_enter Tryd.func41, Tryd.ntmps41
    go_wp2_with (at_make; refine wpList_make_own _ rfl _ _ 59 rfl w.heap.size 5 i0 (.int .u8 0) 1 Tryd.underlying59 hi0 hz0 hz1 .i64 .i64 _ (q.size + 10) rfl rfl rfl (by rw [hz2]; omega) (by unfold maxLen; omega) (by omega) ?_; intro w2 hown2 hg2; refine Hid.out ?_)
    refine Lib.hid ?_
    have HO2 := Lib.hid hown2
    have HB2 := Lib.hid ((Below.refl w.heap.size w).grown hg2 (by omega) (fun g hg => by cases hg))
    clear hown2 hg2
    go_wp2_with fail
    have hkn : (-1 : Int) ≠ 0 := by decide
    refine (x_idx q _ (by omega)).mono ?_
    rintro e w' ⟨rfl, rfl⟩
    go_wp2_with fail
    go_loopw [1, 5, 6, 7] (fun q' v i j wr => ∃ (s : ByteArray) (m : Nat) (L : List UInt8) (v' : Value), v' = v ∧ q' = .string s ∧ j = .int .i64 m ∧ s.size ≤ q.size ∧ m ≤ 99 ∧ i = .int .i64 (idxQ s.data.toList 0) ∧ Hid (RbSo q [36] w s m L v' wr)) (fun q' _ _ _ _ => (strOf q').size)
    case atStart => exact ⟨q, 0, [], _, rfl, rfl, rfl, Nat.le_refl _, by omega, rfl, Lib.hid ⟨HO2.out, HB2.out, rfl, by omega, by simp⟩⟩
    case round =>
      obtain ⟨s, m, L, v, rfl, rfl, rfl, hsq, hm, rfl, HS⟩ := hrel
      generalize hii : idxQ s.data.toList 0 = ii
      have HII := Lib.hid hii
      have hge := idxQ_ge s.data.toList 0
      rw [hii] at hge
      have hLs := HS.out.2.2.2.2
      have hsz := HS.out.2.1.size
      clear hii
      by_cases hi1 : ii = -1
      · subst hi1
        go_wp2_with (at_builtin; refine Hid.out ?_)
        refine Lib.hid ?_
        refine Lib.wpList_append_own_string _ rfl _ _ 59 9 rfl w.heap.size 5 i0 Tryd.underlying59 Tryd.underlying9 hi0 hz0 hz1 hz2 v L.length (Lib.byteCells L) rfl HS.out.1 s rfl (by unfold maxLen; omega) (by omega) hsz ?_
        intro v3 w3 hown3 hg3 _
        have HB3 := Lib.hid (HS.out.2.1.grown hg3 hsz (fun g hg => (HS.out.1.lt g hg).1))
        have HN := Lib.hid (rb_none HS.out HII.out)
        have hconv := conv_own (l := L ++ s.data.toList) (by rw [Lib.byteCells_append]; exact hown3) (by rw [List.length_append, size_list])
        clear hown3 hg3
        go_wp2_with fail
        go_ret
        exact ⟨ret_string1 (by rw [HN.out]), HB3.out⟩
      · obtain ⟨k, rfl⟩ : ∃ k : Nat, ii = k := ⟨ii.toNat, by omega⟩
        have hneg : ((k : Int) != -1) = true := by rw [bne_iff_ne]; omega
        obtain ⟨hm1, hks⟩ := rb_small HS.out HII.out
        clear hi1 hge
        have hk0 : (0 : Int) ≤ k := by omega
        have hks2 : (k : Int) ≤ s.size := by omega
        go_wp2_with (at_builtin; refine Hid.out ?_)
        refine Lib.hid ?_
        have hex : (s.extract 0 k).size ≤ s.size := by rw [← size_list, rb_front, List.length_take, size_list]; omega
        refine Lib.wpList_append_own_string _ rfl _ _ 59 9 rfl w.heap.size 5 i0 Tryd.underlying59 Tryd.underlying9 hi0 hz0 hz1 hz2 v L.length (Lib.byteCells L) rfl HS.out.1 (s.extract 0 k) rfl (by unfold maxLen; omega) (by omega) hsz ?_
        intro v3 w3 hown3 hg3 _
        have HB3 := Lib.hid (HS.out.2.1.grown hg3 hsz (fun g hg => (HS.out.1.lt g hg).1))
        have HO3 := Lib.hid (own_str hown3 (rb_front s k))
        have hl3 : (L ++ s.data.toList.take k).length ≤ 7 * q.size + 100000 := by rw [List.length_append, List.length_take, size_list]; omega
        generalize hL3 : L ++ s.data.toList.take k = L3 at HO3 hl3
        have HL3 := Lib.hid hL3
        have hz3 := HB3.out.size
        obtain ⟨m', hm'⟩ : ∃ m' : Nat, (m : Int) + 1 = m' := ⟨m + 1, by omega⟩
        have HMM := Lib.hid (show m' = m + 1 by omega)
        have hm100 : m' < 100 := by omega
        clear hown3 hg3 hL3
        go_wp2_with (at_builtin; refine Hid.out ?_)
        refine Lib.hid ?_
        refine wpList_append_own_at _ rfl _ _ 59 rfl w.heap.size 5 i0 (.int .u8 0) 1 1 Tryd.underlying59 hi0 hz0 hz1 hz2 rfl (by decide) v3 L3.length (Lib.byteCells L3) rfl (HO3.out.alloc _) ⟨w3.heap.size, 0, none⟩ 1 1 (Lib.byteCells [36]) rfl rfl (bytes_new w3 [36] _) (bytes_one _) (by unfold maxLen; omega) (by omega) (by simp; omega) ?_
        intro v4 w4 hown4 hg4 _ _
        have HB4 := Lib.hid ((HB3.out.alloc hz3 (.cells (Lib.byteCells [36]).toArray 5)).grown hg4 (by simp; omega) (fun g hg => (HO3.out.lt g hg).1))
        have HO4 := Lib.hid (own_bytes hown4 rfl)
        have hl4 : (L3 ++ [36]).length ≤ 7 * q.size + 100004 := by rw [List.length_append]; simp; omega
        generalize hL4 : L3 ++ [36] = L4 at HO4 hl4
        have HL4 := Lib.hid hL4
        have hz4 := HB4.out.size
        clear hown4 hg4 hL4
        go_wp2_with fail
        refine (appendInt_small w.heap.size L4.length m' hm100 v4 (Lib.byteCells L4) w4 HO4.out hz4 (by omega)).mono ?_
        rintro e w5 ⟨v5, rfl, hown5, hg5⟩
        have HB5 := Lib.hid (HB4.out.grown hg5 hz4 (fun g hg => (HO4.out.lt g hg).1))
        have HS2 : Hid (RbSo q [36] w (s.extract (k + 1) s.size) m' (L4 ++ Lib.decDigits m') v5 w5) := by
          have h5 := own_bytes hown5 rfl
          have e4 := HL4.out
          have e3 := HL3.out
          have em := HMM.out
          subst e4 e3 em
          exact Lib.hid (rb_step HS.out HII.out (by decide) (digits_len _ hm100) h5 HB5.out)
        clear hown5 hg5
        have hcs : (s.extract (k + 1) s.size).size = s.size - (k + 1) := by rw [← size_list, rb_cut, List.length_drop, size_list]
        go_wp2_with fail
        refine (x_idx (s.extract (k + 1) s.size) _ (by omega)).mono ?_
        rintro e w' ⟨rfl, rfl⟩
        go_wp2_with fail
        go_roundw
        case rel => exact ⟨_, m', _, v5, rfl, rfl, by go_num, by omega, by omega, by rw [cut_list], HS2⟩
        case measure => simp [strOf, hcs]; omega
  · go_enter Tryd.func41, Tryd.ntmps41
    go_wp2_with (at_make; refine wpList_make_own _ rfl _ _ 59 rfl w.heap.size 5 i0 (.int .u8 0) 1 Tryd.underlying59 hi0 hz0 hz1 .i64 .i64 _ (q.size + 10) rfl rfl rfl (by rw [hz2]; omega) (by unfold maxLen; omega) (by omega) ?_; intro w2 hown2 hg2; refine Hid.out ?_)
    refine Lib.hid ?_
    have HO2 := Lib.hid hown2
    have HB2 := Lib.hid ((Below.refl w.heap.size w).grown hg2 (by omega) (fun g hg => by cases hg))
    clear hown2 hg2
    go_wp2_with fail
    have hkn : (-1 : Int) ≠ 0 := by decide
    refine (x_idx q _ (by omega)).mono ?_
    rintro e w' ⟨rfl, rfl⟩
    go_wp2_with fail
    go_loopw [1, 5, 6, 7] (fun q' v i j wr => ∃ (s : ByteArray) (m : Nat) (L : List UInt8) (v' : Value), v' = v ∧ q' = .string s ∧ j = .int .i64 m ∧ s.size ≤ q.size ∧ m ≤ 99 ∧ i = .int .i64 (idxQ s.data.toList 0) ∧ Hid (RbSo q [58, 97, 114, 103] w s m L v' wr)) (fun q' _ _ _ _ => (strOf q').size)
    case atStart => exact ⟨q, 0, [], _, rfl, rfl, rfl, Nat.le_refl _, by omega, rfl, Lib.hid ⟨HO2.out, HB2.out, rfl, by omega, by simp⟩⟩
    case round =>
      obtain ⟨s, m, L, v, rfl, rfl, rfl, hsq, hm, rfl, HS⟩ := hrel
      generalize hii : idxQ s.data.toList 0 = ii
      have HII := Lib.hid hii
      have hge := idxQ_ge s.data.toList 0
      rw [hii] at hge
      have hLs := HS.out.2.2.2.2
      have hsz := HS.out.2.1.size
      clear hii
      by_cases hi1 : ii = -1
      · subst hi1
        go_wp2_with (at_builtin; refine Hid.out ?_)
        refine Lib.hid ?_
        refine Lib.wpList_append_own_string _ rfl _ _ 59 9 rfl w.heap.size 5 i0 Tryd.underlying59 Tryd.underlying9 hi0 hz0 hz1 hz2 v L.length (Lib.byteCells L) rfl HS.out.1 s rfl (by unfold maxLen; omega) (by omega) hsz ?_
        intro v3 w3 hown3 hg3 _
        have HB3 := Lib.hid (HS.out.2.1.grown hg3 hsz (fun g hg => (HS.out.1.lt g hg).1))
        have HN := Lib.hid (rb_none HS.out HII.out)
        have hconv := conv_own (l := L ++ s.data.toList) (by rw [Lib.byteCells_append]; exact hown3) (by rw [List.length_append, size_list])
        clear hown3 hg3
        go_wp2_with fail
        go_ret
        exact ⟨ret_string1 (by rw [HN.out]), HB3.out⟩
      · obtain ⟨k, rfl⟩ : ∃ k : Nat, ii = k := ⟨ii.toNat, by omega⟩
        have hneg : ((k : Int) != -1) = true := by rw [bne_iff_ne]; omega
        obtain ⟨hm1, hks⟩ := rb_small HS.out HII.out
        clear hi1 hge
        have hk0 : (0 : Int) ≤ k := by omega
        have hks2 : (k : Int) ≤ s.size := by omega
        go_wp2_with (at_builtin; refine Hid.out ?_)
        refine Lib.hid ?_
        have hex : (s.extract 0 k).size ≤ s.size := by rw [← size_list, rb_front, List.length_take, size_list]; omega
        refine Lib.wpList_append_own_string _ rfl _ _ 59 9 rfl w.heap.size 5 i0 Tryd.underlying59 Tryd.underlying9 hi0 hz0 hz1 hz2 v L.length (Lib.byteCells L) rfl HS.out.1 (s.extract 0 k) rfl (by unfold maxLen; omega) (by omega) hsz ?_
        intro v3 w3 hown3 hg3 _
        have HB3 := Lib.hid (HS.out.2.1.grown hg3 hsz (fun g hg => (HS.out.1.lt g hg).1))
        have HO3 := Lib.hid (own_str hown3 (rb_front s k))
        have hl3 : (L ++ s.data.toList.take k).length ≤ 7 * q.size + 100000 := by rw [List.length_append, List.length_take, size_list]; omega
        generalize hL3 : L ++ s.data.toList.take k = L3 at HO3 hl3
        have HL3 := Lib.hid hL3
        have hz3 := HB3.out.size
        obtain ⟨m', hm'⟩ : ∃ m' : Nat, (m : Int) + 1 = m' := ⟨m + 1, by omega⟩
        have HMM := Lib.hid (show m' = m + 1 by omega)
        have hm100 : m' < 100 := by omega
        clear hown3 hg3 hL3
        go_wp2_with (at_builtin; refine Hid.out ?_)
        refine Lib.hid ?_
        refine wpList_append_own_at _ rfl _ _ 59 rfl w.heap.size 5 i0 (.int .u8 0) 1 1 Tryd.underlying59 hi0 hz0 hz1 hz2 rfl (by decide) v3 L3.length (Lib.byteCells L3) rfl (HO3.out.alloc _) ⟨w3.heap.size, 0, none⟩ 4 4 (Lib.byteCells [58, 97, 114, 103]) rfl rfl (bytes_new w3 [58, 97, 114, 103] _) (bytes_one _) (by unfold maxLen; omega) (by omega) (by simp; omega) ?_
        intro v4 w4 hown4 hg4 _ _
        have HB4 := Lib.hid ((HB3.out.alloc hz3 (.cells (Lib.byteCells [58, 97, 114, 103]).toArray 5)).grown hg4 (by simp; omega) (fun g hg => (HO3.out.lt g hg).1))
        have HO4 := Lib.hid (own_bytes hown4 rfl)
        have hl4 : (L3 ++ [58, 97, 114, 103]).length ≤ 7 * q.size + 100004 := by rw [List.length_append]; simp; omega
        generalize hL4 : L3 ++ [58, 97, 114, 103] = L4 at HO4 hl4
        have HL4 := Lib.hid hL4
        have hz4 := HB4.out.size
        clear hown4 hg4 hL4
        go_wp2_with fail
        refine (appendInt_small w.heap.size L4.length m' hm100 v4 (Lib.byteCells L4) w4 HO4.out hz4 (by omega)).mono ?_
        rintro e w5 ⟨v5, rfl, hown5, hg5⟩
        have HB5 := Lib.hid (HB4.out.grown hg5 hz4 (fun g hg => (HO4.out.lt g hg).1))
        have HS2 : Hid (RbSo q [58, 97, 114, 103] w (s.extract (k + 1) s.size) m' (L4 ++ Lib.decDigits m') v5 w5) := by
          have h5 := own_bytes hown5 rfl
          have e4 := HL4.out
          have e3 := HL3.out
          have em := HMM.out
          subst e4 e3 em
          exact Lib.hid (rb_step HS.out HII.out (by decide) (digits_len _ hm100) h5 HB5.out)
        clear hown5 hg5
        have hcs : (s.extract (k + 1) s.size).size = s.size - (k + 1) := by rw [← size_list, rb_cut, List.length_drop, size_list]
        go_wp2_with fail
        refine (x_idx (s.extract (k + 1) s.size) _ (by omega)).mono ?_
        rintro e w' ⟨rfl, rfl⟩
        go_wp2_with fail
        go_roundw
        case rel => exact ⟨_, m', _, v5, rfl, rfl, by go_num, by omega, by omega, by rw [cut_list], HS2⟩
        case measure => simp [strOf, hcs]; omega
  · go_enter Tryd.func41, Tryd.ntmps41
    go_wp2_with (at_make; refine wpList_make_own _ rfl _ _ 59 rfl w.heap.size 5 i0 (.int .u8 0) 1 Tryd.underlying59 hi0 hz0 hz1 .i64 .i64 _ (q.size + 10) rfl rfl rfl (by rw [hz2]; omega) (by unfold maxLen; omega) (by omega) ?_; intro w2 hown2 hg2; refine Hid.out ?_)
    refine Lib.hid ?_
    have HO2 := Lib.hid hown2
    have HB2 := Lib.hid ((Below.refl w.heap.size w).grown hg2 (by omega) (fun g hg => by cases hg))
    clear hown2 hg2
    go_wp2_with fail
    have hkn : (-1 : Int) ≠ 0 := by decide
    refine (x_idx q _ (by omega)).mono ?_
    rintro e w' ⟨rfl, rfl⟩
    go_wp2_with fail
    go_loopw [1, 5, 6, 7] (fun q' v i j wr => ∃ (s : ByteArray) (m : Nat) (L : List UInt8) (v' : Value), v' = v ∧ q' = .string s ∧ j = .int .i64 m ∧ s.size ≤ q.size ∧ m ≤ 99 ∧ i = .int .i64 (idxQ s.data.toList 0) ∧ Hid (RbSo q [64, 112] w s m L v' wr)) (fun q' _ _ _ _ => (strOf q').size)
    case atStart => exact ⟨q, 0, [], _, rfl, rfl, rfl, Nat.le_refl _, by omega, rfl, Lib.hid ⟨HO2.out, HB2.out, rfl, by omega, by simp⟩⟩
    case round =>
      obtain ⟨s, m, L, v, rfl, rfl, rfl, hsq, hm, rfl, HS⟩ := hrel
      generalize hii : idxQ s.data.toList 0 = ii
      have HII := Lib.hid hii
      have hge := idxQ_ge s.data.toList 0
      rw [hii] at hge
      have hLs := HS.out.2.2.2.2
      have hsz := HS.out.2.1.size
      clear hii
      by_cases hi1 : ii = -1
      · subst hi1
        go_wp2_with (at_builtin; refine Hid.out ?_)
        refine Lib.hid ?_
        refine Lib.wpList_append_own_string _ rfl _ _ 59 9 rfl w.heap.size 5 i0 Tryd.underlying59 Tryd.underlying9 hi0 hz0 hz1 hz2 v L.length (Lib.byteCells L) rfl HS.out.1 s rfl (by unfold maxLen; omega) (by omega) hsz ?_
        intro v3 w3 hown3 hg3 _
        have HB3 := Lib.hid (HS.out.2.1.grown hg3 hsz (fun g hg => (HS.out.1.lt g hg).1))
        have HN := Lib.hid (rb_none HS.out HII.out)
        have hconv := conv_own (l := L ++ s.data.toList) (by rw [Lib.byteCells_append]; exact hown3) (by rw [List.length_append, size_list])
        clear hown3 hg3
        go_wp2_with fail
        go_ret
        exact ⟨ret_string1 (by rw [HN.out]), HB3.out⟩
      · obtain ⟨k, rfl⟩ : ∃ k : Nat, ii = k := ⟨ii.toNat, by omega⟩
        have hneg : ((k : Int) != -1) = true := by rw [bne_iff_ne]; omega
        obtain ⟨hm1, hks⟩ := rb_small HS.out HII.out
        clear hi1 hge
        have hk0 : (0 : Int) ≤ k := by omega
        have hks2 : (k : Int) ≤ s.size := by omega
        go_wp2_with (at_builtin; refine Hid.out ?_)
        refine Lib.hid ?_
        have hex : (s.extract 0 k).size ≤ s.size := by rw [← size_list, rb_front, List.length_take, size_list]; omega
        refine Lib.wpList_append_own_string _ rfl _ _ 59 9 rfl w.heap.size 5 i0 Tryd.underlying59 Tryd.underlying9 hi0 hz0 hz1 hz2 v L.length (Lib.byteCells L) rfl HS.out.1 (s.extract 0 k) rfl (by unfold maxLen; omega) (by omega) hsz ?_
        intro v3 w3 hown3 hg3 _
        have HB3 := Lib.hid (HS.out.2.1.grown hg3 hsz (fun g hg => (HS.out.1.lt g hg).1))
        have HO3 := Lib.hid (own_str hown3 (rb_front s k))
        have hl3 : (L ++ s.data.toList.take k).length ≤ 7 * q.size + 100000 := by rw [List.length_append, List.length_take, size_list]; omega
        generalize hL3 : L ++ s.data.toList.take k = L3 at HO3 hl3
        have HL3 := Lib.hid hL3
        have hz3 := HB3.out.size
        obtain ⟨m', hm'⟩ : ∃ m' : Nat, (m : Int) + 1 = m' := ⟨m + 1, by omega⟩
        have HMM := Lib.hid (show m' = m + 1 by omega)
        have hm100 : m' < 100 := by omega
        clear hown3 hg3 hL3
        go_wp2_with (at_builtin; refine Hid.out ?_)
        refine Lib.hid ?_
        refine wpList_append_own_at _ rfl _ _ 59 rfl w.heap.size 5 i0 (.int .u8 0) 1 1 Tryd.underlying59 hi0 hz0 hz1 hz2 rfl (by decide) v3 L3.length (Lib.byteCells L3) rfl (HO3.out.alloc _) ⟨w3.heap.size, 0, none⟩ 2 2 (Lib.byteCells [64, 112]) rfl rfl (bytes_new w3 [64, 112] _) (bytes_one _) (by unfold maxLen; omega) (by omega) (by simp; omega) ?_
        intro v4 w4 hown4 hg4 _ _
        have HB4 := Lib.hid ((HB3.out.alloc hz3 (.cells (Lib.byteCells [64, 112]).toArray 5)).grown hg4 (by simp; omega) (fun g hg => (HO3.out.lt g hg).1))
        have HO4 := Lib.hid (own_bytes hown4 rfl)
        have hl4 : (L3 ++ [64, 112]).length ≤ 7 * q.size + 100004 := by rw [List.length_append]; simp; omega
        generalize hL4 : L3 ++ [64, 112] = L4 at HO4 hl4
        have HL4 := Lib.hid hL4
        have hz4 := HB4.out.size
        clear hown4 hg4 hL4
        go_wp2_with fail
        refine (appendInt_small w.heap.size L4.length m' hm100 v4 (Lib.byteCells L4) w4 HO4.out hz4 (by omega)).mono ?_
        rintro e w5 ⟨v5, rfl, hown5, hg5⟩
        have HB5 := Lib.hid (HB4.out.grown hg5 hz4 (fun g hg => (HO4.out.lt g hg).1))
        have HS2 : Hid (RbSo q [64, 112] w (s.extract (k + 1) s.size) m' (L4 ++ Lib.decDigits m') v5 w5) := by
          have h5 := own_bytes hown5 rfl
          have e4 := HL4.out
          have e3 := HL3.out
          have em := HMM.out
          subst e4 e3 em
          exact Lib.hid (rb_step HS.out HII.out (by decide) (digits_len _ hm100) h5 HB5.out)
        clear hown5 hg5
        have hcs : (s.extract (k + 1) s.size).size = s.size - (k + 1) := by rw [← size_list, rb_cut, List.length_drop, size_list]
        go_wp2_with fail
        refine (x_idx (s.extract (k + 1) s.size) _ (by omega)).mono ?_
        rintro e w' ⟨rfl, rfl⟩
        go_wp2_with fail
        go_roundw
        case rel => exact ⟨_, m', _, v5, rfl, rfl, by go_num, by omega, by omega, by rw [cut_list], HS2⟩
        case measure => simp [strOf, hcs]; omega
end Go.Proofs.YtpjadgdimkdblaaDoor
