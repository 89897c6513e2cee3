/- replacePositionalPlaceholders walked, at texts in which no two question marks stand side by side: it answers rebL. -/
import Derived.Test.YtdjgknfmehkigaaDoorRebS
import Derived.Test.YtdjgknfmehkigaaDoorIdxS
import Derived.Test.YtdjgknfmehkigaaDoorShelf
import Derived.Test.YtdjgknfmehkigaaDoorDig
import Derived.Lib.BufferRead
namespace Go.Proofs.YtdjgknfmehkigaaDoor
open Go.RowKit
set_option linter.unusedVariables false

/-- No two question marks side by side. -/
def sepQ : List UInt8 → Bool
  | [] => true
  | c :: l => !((c.toNat : Int) == 63 && (match l with | [] => false | d :: _ => (d.toNat : Int) == 63)) && sepQ l
theorem sepQ_tail {c : UInt8} {l : List UInt8} (h : sepQ (c :: l) = true) : sepQ l = true := by
  unfold sepQ at h
  simp only [Bool.and_eq_true] at h
  exact h.2
theorem sepQ_app : ∀ (a l : List UInt8), sepQ (a ++ l) = true → sepQ l = true
  | [], _, h => h
  | _ :: a, l, h => sepQ_app a l (sepQ_tail h)
theorem sepQ_two {l : List UInt8} : sepQ (63 :: 63 :: l) = false := by
  unfold sepQ
  rfl
def RpP (q : ByteArray) (sg : List UInt8) (s : ByteArray) (j : Nat) (L : List UInt8) : Prop :=
  L ++ rebL sg s.data.toList j = rebL sg q.data.toList 0 ∧ j + cntQ s.data.toList ≤ 99 ∧ L.length + 7 * s.size ≤ 7 * q.size ∧ sepQ s.data.toList = true
theorem rp_none {q : ByteArray} {sg : List UInt8} {s : ByteArray} {j : Nat} {L : List UInt8} (h : RpP q sg s j L) (hi : idxQ s.data.toList 0 = -1) : L ++ s.data.toList = rebL sg q.data.toList 0 := by
  have h3 := h.1
  have := rebL_skip sg s.data.toList (idxQ_none _ 0 hi) [] j
  rw [List.append_nil] at this
  rw [this] at h3
  rw [← h3]
  simp [rebL]
theorem rp_small {q : ByteArray} {sg : List UInt8} {s : ByteArray} {j k : Nat} {L : List UInt8} (h : RpP q sg s j L) (hi : idxQ s.data.toList 0 = (k : Int)) : j + 1 < 100 ∧ k < s.size := by
  obtain ⟨h3, h4, h5, _⟩ := h
  obtain ⟨hk, he, hno⟩ := idxQ_some s.data.toList 0 k (by simpa using hi)
  rw [size_list] at hk
  rw [he, cntQ_skip _ hno, cntQ_mark] at h4
  omega
theorem rp_step {q : ByteArray} {sg : List UInt8} {s : ByteArray} {j k : Nat} {L : List UInt8} (h : RpP q sg s j L) (hi : idxQ s.data.toList 0 = (k : Int)) (hs : sg.length ≤ 4) (hd : (Lib.decDigits (j + 1)).length ≤ 2) :
    RpP q sg (s.extract (k + 1) s.size) (j + 1) (L ++ s.data.toList.take k ++ (sg ++ Lib.decDigits (j + 1))) := by
  obtain ⟨h3, h4, h5, h6⟩ := h
  obtain ⟨hk, he, hno⟩ := idxQ_some s.data.toList 0 k (by simpa using hi)
  rw [size_list] at hk
  refine ⟨?_, ?_, ?_, ?_⟩
  · rw [← h3, rb_cut]
    conv => rhs; rw [he, rebL_skip sg _ hno, rebL_mark]
    simp only [List.append_assoc]
  · rw [rb_cut]
    rw [he, cntQ_skip _ hno, cntQ_mark] at h4
    omega
  · have hsz : (s.extract (k + 1) s.size).size = s.size - (k + 1) := by rw [← size_list, rb_cut, List.length_drop, size_list]
    have htk : (s.data.toList.take k).length ≤ k := by rw [List.length_take]; omega
    simp only [List.length_append, hsz]
    omega
  · rw [rb_cut]
    rw [he] at h6
    exact sepQ_tail (sepQ_app _ _ h6)
theorem rp_two {q : ByteArray} {sg : List UInt8} {s : ByteArray} {j k : Nat} {L : List UInt8} (h : RpP q sg s j L) (hi : idxQ s.data.toList 0 = (k : Int)) : ((s.extract k (k + 2)).toList == [63, 63]) = false := by
  obtain ⟨_, _, _, h6⟩ := h
  obtain ⟨hk, he, hno⟩ := idxQ_some s.data.toList 0 k (by simpa using hi)
  rw [beq_eq_false_iff_ne]
  intro e
  rw [Go.ByteArray.toList_eq, cut_list] at e
  have hd : s.data.toList.drop k = 63 :: s.data.toList.drop (k + 1) := by
    have := congrArg (List.drop k) he
    have hl : (s.data.toList.take k).length = k := by rw [List.length_take]; omega
    rw [List.drop_append, hl, Nat.sub_self, List.drop_zero, List.drop_of_length_le (Nat.le_of_eq hl), List.nil_append] at this
    exact this
  rw [show k + 2 - k = 2 from by omega, hd] at e
  rw [he] at h6
  have h7 := sepQ_app _ _ h6
  cases hr : s.data.toList.drop (k + 1) with
  | nil => rw [hr] at e; simp at e
  | cons d l =>
    rw [hr] at e h7
    simp at e
    subst e
    rw [sepQ_two] at h7
    cases h7
/-- What the loop carries. -/
def RpSo (q : ByteArray) (sg : List UInt8) (w : World) (s : ByteArray) (j : Nat) (L : List UInt8) (wr : World) : Prop :=
  Lib.IsBuffer 85 5 w.heap.size w.heap.size (Lib.byteCells L) wr ∧ Below w.heap.size w wr ∧ RpP q sg s j L
theorem buf_str {B b : Nat} {L M : List UInt8} {x : ByteArray} {w : World} (h : Lib.IsBuffer 85 5 B b (Lib.byteCells L ++ Lib.byteCells x.data.toList) w) (hx : x.data.toList = M) : Lib.IsBuffer 85 5 B b (Lib.byteCells (L ++ M)) w := by
  subst hx
  rw [Lib.byteCells_append]
  exact h
theorem dec_len2 (i : Nat) (hi : i < 100) : (Lib.decDigits i).length ≤ 2 := by
  rw [Lib.decDigits]
  split
  · simp
  · rw [Lib.decDigits, dif_pos (by omega)]
    simp
def strOfS : Value → ByteArray
  | .string s => s
  | _ => ByteArray.empty
theorem below_drewN (B : Nat) (w : World) (n : Nat) : Below B w (w.drewN n) := ⟨rfl, rfl, rfl, Nat.le_refl _, fun _ _ => rfl⟩
set_option maxHeartbeats 2000000 in
set_option maxRecDepth 100000 in
theorem repl_any (q sg : ByteArray) (w : World) (hsg : sg.size ≤ 2) (hq : q.size ≤ 100000) (hc : cntQ q.data.toList ≤ 99) (hsep : sepQ q.data.toList = true) :
    Calls Tryd.prog 83 #[.string q, .string sg] w fun e w' => e = .returned (.tuple #[.string ⟨(rebL sg.data.toList q.data.toList 0).toArray⟩, .nilIface]) ∧ Below w.heap.size w w' := by
  have HS0 := Lib.hid (show RpSo q sg.data.toList w q 0 [] (w.alloc (.cells #[.slice none 0 0, .int .i64 0, .int .i8 0] 85)) from ⟨Lib.fresh_isBuffer _ _ w, (Below.refl _ w).alloc (Nat.le_refl _) _, rfl, by omega, by simp, hsep⟩)
  have hsl : sg.data.toList.length ≤ 2 := by rw [size_list]; exact hsg
  clear hsep
  go_enter Tryd.func83, Tryd.ntmps83
  go_wp2_with fail
  go_loopw [0, 7] (fun q' j wr => ∃ (s : ByteArray) (m : Nat) (L : List UInt8), q' = .string s ∧ j = .int .i64 m ∧ s.size ≤ q.size ∧ m ≤ 99 ∧ Hid (RpSo q sg.data.toList w s m L wr)) (fun q' _ _ => (strOfS q').size)
  case atStart => exact ⟨q, 0, [], rfl, rfl, Nat.le_refl _, by omega, HS0⟩
  case round =>
    obtain ⟨s, m, L, rfl, rfl, hsq, hm, HS⟩ := hrel
    have hsz := HS.out.2.1.size
    have hLl := HS.out.2.2.2.2.1
    go_wp2_with fail
    refine (s_idx s wr (by omega)).mono ?_
    rintro e w' ⟨rfl, rfl⟩
    generalize hii : idxQ s.data.toList 0 = ii
    have HII := Lib.hid hii
    have hge := idxQ_ge s.data.toList 0
    rw [hii] at hge
    clear hii
    by_cases hi1 : ii = -1
    · subst hi1
      have HN := Lib.hid (rp_none HS.out.2.2 HII.out)
      go_wp2_with fail
      refine (Tryd.Buffer_WriteString_k w.heap.size w.heap.size (Lib.byteCells L) s wr HS.out.1 hsz (Lib.byteCells_one _) (by rw [Lib.byteCells_length]; omega)).mono ?_
      rintro e w1 ⟨rfl, hb1, hbel1, _⟩
      have HB1 := Lib.hid (buf_str hb1 rfl)
      have HL1 := Lib.hid (HS.out.2.1.trans hbel1)
      clear hb1 hbel1
      go_wp2_with fail
      refine (Tryd.Buffer_String w.heap.size w.heap.size (L ++ s.data.toList) w1 HB1.out).mono ?_
      rintro e w2 ⟨rfl, nd, rfl⟩
      go_wp2_with fail
      go_ret2
      exact ⟨by rw [HN.out]; rfl, HL1.out.trans (below_drewN _ _ _)⟩
    · obtain ⟨k, rfl⟩ : ∃ k : Nat, ii = k := ⟨ii.toNat, by omega⟩
      have hneg : ((k : Int) == -1) = false := by rw [beq_eq_false_iff_ne]; omega
      obtain ⟨hm1, hks⟩ := rp_small HS.out.2.2 HII.out
      have htwo := rp_two HS.out.2.2 HII.out
      clear hi1 hge
      have hk0 : (0 : Int) ≤ k := by omega
      have hks2 : (k : Int) ≤ s.size := by omega
      obtain ⟨m', hm'⟩ : ∃ m' : Nat, (m : Int) + 1 = m' := ⟨m + 1, by omega⟩
      have HMM := Lib.hid (show m' = m + 1 by omega)
      have hm100 : m' < 100 := by omega
      have hdl := dec_len2 m' hm100
      have HST : Hid (RpP q sg.data.toList (s.extract (k + 1) s.size) m' (L ++ s.data.toList.take k ++ (sg.data.toList ++ Lib.decDigits m'))) := by
        have em := HMM.out
        subst em
        exact Lib.hid (rp_step HS.out.2.2 HII.out (by omega) hdl)
      have hcs : (s.extract (k + 1) s.size).size = s.size - (k + 1) := by rw [← size_list, rb_cut, List.length_drop, size_list]
      have hex : (s.extract 0 k).size ≤ k := by rw [← size_list, rb_front, List.length_take, size_list]; omega
      have hds : (ByteArray.mk (Lib.decDigits m').toArray).size ≤ 2 := by simpa [ByteArray.size] using hdl
      have HDL := Lib.hid (show (ByteArray.mk (Lib.decDigits m').toArray).data.toList = Lib.decDigits m' from rfl)
      generalize hdd : (ByteArray.mk (Lib.decDigits m').toArray) = dd at hds HDL
      have HDD := Lib.hid hdd
      clear hdd hdl
      have h1 : (1 : Int) < (s.size : Int) - k ∨ ¬ (1 : Int) < (s.size : Int) - k := by omega
      rcases h1 with h1 | h1
      all_goals
        go_wp2_with fail
        refine (Tryd.Buffer_WriteString_k w.heap.size w.heap.size (Lib.byteCells L) (s.extract 0 k) wr HS.out.1 hsz (Lib.byteCells_one _) (by rw [Lib.byteCells_length]; omega)).mono ?_
        rintro e w1 ⟨rfl, hb1, hbel1, _⟩
        have HB1 := Lib.hid (buf_str hb1 (rb_front s k))
        have HL1 := Lib.hid (HS.out.2.1.trans hbel1)
        have hsz1 := HL1.out.size
        have hl1 : (L ++ s.data.toList.take k).length ≤ 7 * q.size + 100000 := by rw [List.length_append, List.length_take, size_list]; omega
        clear hb1 hbel1
        go_wp2_with fail
        refine (Tryd.strconv_Itoa_small m' hm100 w1).mono ?_
        rintro e w2 ⟨rfl, hw⟩
        have HB2 : Hid (Lib.IsBuffer 85 5 w.heap.size w.heap.size (Lib.byteCells (L ++ s.data.toList.take k)) w2) := by rw [hw]; exact HB1
        have HL2 : Hid (Below w.heap.size w w2) := by rw [hw]; exact HL1
        have hsz2 := HL2.out.size
        clear hw HB1 HL1 hsz1
        rw [HDD.out]
        go_wp2_with fail
        refine (Tryd.Buffer_WriteString_k w.heap.size w.heap.size (Lib.byteCells (L ++ s.data.toList.take k)) (sg ++ dd) w2 HB2.out hsz2 (Lib.byteCells_one _) (by rw [Lib.byteCells_length, ByteArray.size_append']; omega)).mono ?_
        rintro e w3 ⟨rfl, hb3, hbel3, _⟩
        have HB3 := Lib.hid (buf_str hb3 (app_list sg dd))
        have HL3 := Lib.hid (HL2.out.trans hbel3)
        clear hb3 hbel3
        go_wp2_with fail
        go_roundw
        case rel => exact ⟨_, m', _, rfl, by go_num, by omega, by omega, Lib.hid ⟨by have h := HB3.out; rw [HDL.out] at h; exact h, HL3.out, HST.out⟩⟩
        case measure => simp [strOfS, hcs]; omega
end Go.Proofs.YtdjgknfmehkigaaDoor
