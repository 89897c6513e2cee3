/- DebugSqlizer and impl.Debug walked, at texts with as many question marks as arguments that are no lists. -/
import Derived.Test.YtdjgknfmehkigaaDoorDbgS
import Derived.Test.YtdjgknfmehkigaaDoorSql
import Derived.Test.YtdjgknfmehkigaaDoorFdW
import Derived.Lib.BufferOld
namespace Go.Proofs.YtdjgknfmehkigaaDoor
open Go.RowKit
set_option linter.unusedVariables false

def Plain (xs : List VRec) : Prop := ∀ i, i < xs.length → (0 ≤ (xs.getD i z0).k ∧ (xs.getD i z0).k ≤ 4) ∧ ((xs.getD i z0).k = 1 → -9223372036854775808 ≤ (xs.getD i z0).n ∧ (xs.getD i z0).n ≤ 9223372036854775807)
theorem meth_sql (v : Value) (w : World) : Sem.run Tryd.prog (method 233 90 v "ToSql") w = .ok (90, v) w := by kernel_rfl
theorem ta_dbg (v : Value) (w : World) : (Instr.typeAssert (.iface 90 v) 62 79 true).run Tryd.prog w = .ok (.tuple #[.nilIface, .bool false]) w := run_typeAssert_lacksB Tryd.underlying79 (by kernel_rfl) (by kernel_rfl) v _ w
theorem isBuffer_older {T e : TypeId} {B b : Nat} {l : List Value} {w w' : World} (h : Lib.IsBuffer T e B b l w) (hb : Below w.heap.size w w') : Lib.IsBuffer T e B b l w' :=
  h.old hb
set_option maxHeartbeats 8000000 in
set_option maxRecDepth 100000 in
theorem debugSql_any (q : ByteArray) (A : Option Addr) (n c : Nat) (xs : List VRec) (out : List UInt8) (w : World) (hn : xs.length = n) (hm : n ≤ 1000) (hx : ArgsAt w A xs) (hq : q.size ≤ 100000) (ho : out.length ≤ 1000000) (hd : Dbg q.data.toList (xs.map shownB) out) (hpl : Plain xs) (hp : Pow10 w) :
    Calls Tryd.prog 32 #[.iface 90 (.agg #[.string q, .slice A n c])] w fun e w' => e = .returned (.string ⟨out.toArray⟩) ∧ Below w.heap.size w w' := by
  have HX := Lib.hid hx
  have HN := Lib.hid hn
  have HD := Lib.hid hd
  have HPL := Lib.hid hpl
  have HP := Lib.hid hp
  have hmeth := meth_sql
  have hta := ta_dbg
  clear hx hn hd hpl hp
  go_enter Tryd.func32, Tryd.ntmps32
  go_wp2_with fail
  refine (toSql_any q A n c xs w HN.out (by omega) HX.out).mono ?_
  rintro e w0 ⟨rfl, hb0⟩
  have HB0 := Lib.hid hb0
  have HX0 := Lib.hid (argsAt_below HX.out hb0)
  have HP0 := Lib.hid (pow10_below HP.out hb0)
  clear hb0 HX HP
  have HS0 := Lib.hid (show DbSo xs out w0 q 0 [] (w0.alloc (.cells #[.slice none 0 0, .int .i64 0, .int .i8 0] 85)) from ⟨Lib.fresh_isBuffer _ _ w0, (Below.refl _ w0).alloc (Nat.le_refl _) _, out, rfl, by rw [List.drop_zero]; exact HD.out⟩)
  go_wp2_with fail
  go_loopw [3, 10] (fun q' j wr => ∃ (s : ByteArray) (m : Nat) (L : List UInt8), q' = .string s ∧ j = .int .i64 m ∧ s.size ≤ q.size ∧ m ≤ n ∧ Hid (DbSo xs out w0 s m L wr)) (fun q' _ _ => (strOfS q').size)
  case atStart => exact ⟨q, 0, [], rfl, rfl, Nat.le_refl _, by omega, HS0⟩
  case round =>
    obtain ⟨s, m, L, rfl, rfl, hsq, hm, HS⟩ := hrel
    have hsz := HS.out.2.1.size
    obtain ⟨o, hLo, hdb⟩ := HS.out.2.2
    have hlo : L.length + o.length ≤ 1000000 := by rw [← List.length_append, hLo]; exact ho
    have HLO := Lib.hid hLo
    clear hLo
    go_wp2_with fail
    refine (s_idx s wr (by omega)).mono ?_
    rintro e w' ⟨rfl, rfl⟩
    rcases dbg_cases hdb with ⟨hno, has, ho2⟩ | ⟨pre, t, o', hno, hst, ho2, hd2⟩ | ⟨pre, t, a, bs', o', hno, hh, hst, has, ho2, hd2⟩
    · have HI := Lib.hid (idxQ_no _ 0 hno)
      have HMN := Lib.hid (drop_none HN.out hm has)
      have HO2 := Lib.hid ho2
      have hls : o.length = s.size := by rw [ho2, size_list]
      clear hdb hno has ho2
      rw [HI.out]
      have hmn : ¬ (m : Int) < n := by have := HMN.out; omega
      go_wp2_with fail
      refine (Tryd.Buffer_WriteString_k w0.heap.size w0.heap.size (Lib.byteCells L) s wr HS.out.1 hsz (Lib.byteCells_one _) (by rw [Lib.byteCells_length]; omega)).mono ?_
      rintro e w1 ⟨rfl, hb1, hbel1, _⟩
      have HB1 := Lib.hid (buf_str hb1 rfl)
      have HL1 := Lib.hid (HS.out.2.1.trans hbel1)
      clear hb1 hbel1
      go_wp2_with fail
      refine (Tryd.Buffer_String w0.heap.size w0.heap.size (L ++ s.data.toList) w1 HB1.out).mono ?_
      rintro e w2 ⟨rfl, nd, rfl⟩
      have HOO := Lib.hid (show L ++ s.data.toList = out from by rw [← HO2.out]; exact HLO.out)
      rw [HOO.out]
      go_wp2_with fail
      go_ret
      exact ⟨rfl, HB0.out.trans (Below.mono (HL1.out.trans (below_drewN _ _ _)) HB0.out.size)⟩
    · obtain ⟨e1, _, e3⟩ := cut_at hst
      have e4 := cut_two hst
      have e5 : (s.extract (pre.length + 2) s.size).data.toList = t ∧ s.size = pre.length + 2 + t.length := by
        have h' : s.data.toList = (pre ++ [63, 63]) ++ t := by rw [hst]; simp
        obtain ⟨_, g1, g2⟩ := cut_at h'
        rw [List.length_append] at g1 g2
        exact ⟨g1, g2⟩
      have HI : Hid (idxQ s.data.toList 0 = ((pre.length : Nat) : Int)) := Lib.hid (by rw [hst, idxQ_at _ _ 0 hno, Nat.zero_add])
      have HO2 := Lib.hid ho2
      have hlo2 : o.length = pre.length + (o'.length + 1) := by rw [ho2]; simp
      have HD2 := Lib.hid hd2
      have HE5 := Lib.hid e5.1
      obtain ⟨k, hk⟩ : ∃ k, pre.length = k := ⟨_, rfl⟩
      rw [hk] at e1 e4 hlo2 HI HE5
      have e6 := e5.2
      rw [hk] at e6
      have HE1 := Lib.hid e1
      have hk0 : (0 : Int) ≤ k := by omega
      have hks2 : (k : Int) + 2 ≤ s.size := by omega
      have hks1 : (k : Int) ≤ s.size := by omega
      have h1i : (1 : Int) < (s.size : Int) - k := by omega
      have hneg : ((k : Int) == -1) = false := by rw [beq_eq_false_iff_ne]; omega
      have hne1 : ¬ (s.size : Int) - k = 1 := by omega
      have htwo : ((s.extract k (k + 2)).toList == [63, 63]) = true := by rw [e4]; rfl
      have hex : (s.extract 0 k).size ≤ k := by rw [← size_list, e1, hk]; exact Nat.le_refl _
      have hcs : (s.extract (k + 2) s.size).size = s.size - (k + 2) := by rw [← size_list, rb_cut, List.length_drop, size_list]
      clear hdb hno hst ho2 hd2 e1 e3 e4 e5 e6
      rw [HI.out]
      go_wp2_with fail
      refine (Tryd.Buffer_WriteString_k w0.heap.size w0.heap.size (Lib.byteCells L) (s.extract 0 k) wr HS.out.1 hsz (Lib.byteCells_one _) (by rw [Lib.byteCells_length]; omega)).mono ?_
      rintro e w1 ⟨rfl, hb1, hbel1, _⟩
      have HB1 := Lib.hid (buf_str hb1 HE1.out)
      have HL1 := Lib.hid (HS.out.2.1.trans hbel1)
      have hsz1 := HL1.out.size
      have hl1 : (L ++ pre).length = L.length + k := by rw [List.length_append, hk]
      clear hb1 hbel1
      go_wp2_with fail
      refine (Tryd.Buffer_WriteString_k w0.heap.size w0.heap.size (Lib.byteCells (L ++ pre)) ⟨#[63]⟩ w1 HB1.out hsz1 (Lib.byteCells_one _) (by rw [Lib.byteCells_length, hl1]; have : (ByteArray.mk #[63]).size = 1 := rfl; omega)).mono ?_
      rintro e w2 ⟨rfl, hb2, hbel2, _⟩
      have HB2 := Lib.hid (buf_str hb2 (show (ByteArray.mk #[63]).data.toList = [63] from rfl))
      have HL2 := Lib.hid (HL1.out.trans hbel2)
      clear hb2 hbel2
      go_wp2_with fail
      go_roundw
      case rel => exact ⟨_, m, _, rfl, rfl, by omega, by omega, Lib.hid ⟨HB2.out, HL2.out, o', by rw [← HLO.out, HO2.out]; simp, by rw [HE5.out]; exact HD2.out⟩⟩
      case measure => simp [strOfS, hcs]; omega
    · obtain ⟨e1, _, e3⟩ := cut_at hst
      have e4 := cut_two hst
      have e5 : (s.extract (pre.length + 1) s.size).data.toList = t := by
        have h' : s.data.toList = (pre ++ [63]) ++ t := by rw [hst]; simp
        obtain ⟨_, g1, g2⟩ := cut_at h'
        rw [List.length_append] at g1
        exact g1
      have HI : Hid (idxQ s.data.toList 0 = ((pre.length : Nat) : Int)) := Lib.hid (by rw [hst, idxQ_at _ _ 0 hno, Nat.zero_add])
      have HO2 := Lib.hid ho2
      have hlo2 : o.length = pre.length + (a.size + (o'.length + 1) + 1) := by rw [ho2, ← size_list a]; simp
      have HD2 := Lib.hid hd2
      have HE5 := Lib.hid e5
      obtain ⟨k, hk⟩ : ∃ k, pre.length = k := ⟨_, rfl⟩
      rw [hk] at e1 e3 e4 hlo2 HI HE5
      rw [List.length_cons] at e3
      obtain ⟨hmn, ha, hbs⟩ := drop_some HN.out has
      have HA := Lib.hid ha
      have HBS := Lib.hid hbs
      have HE1 := Lib.hid e1
      have hk0 : (0 : Int) ≤ k := by omega
      have hks1 : (k : Int) + 1 ≤ s.size := by omega
      have hks0 : (k : Int) ≤ s.size := by omega
      have hneg : ((k : Int) == -1) = false := by rw [beq_eq_false_iff_ne]; omega
      have htwo : ((s.extract k (k + 2)).toList == [63, 63]) = false := by
        rw [e4, beq_eq_false_iff_ne]
        intro h
        cases t with
        | nil => simp at h
        | cons d t => simp at h; subst h; exact hh rfl
      have hex : (s.extract 0 k).size ≤ k := by rw [← size_list, e1, hk]; exact Nat.le_refl _
      have hcs : (s.extract (k + 1) s.size).size = s.size - (k + 1) := by rw [← size_list, rb_cut, List.length_drop, size_list]
      have hmni : ¬ (n : Int) < m + 1 := by omega
      have hmni2 : (m : Int) < n := by omega
      have hm0 : (0 : Int) ≤ m := by omega
      have hne : xs ≠ [] := fun e => by have := HN.out; rw [e] at this; simp at this; omega
      obtain ⟨g, rfl, hg, hl⟩ := HX0.out.resolve_left hne
      have HG := Lib.hid (fun (wx : World) (h : Below w0.heap.size w0 wx) => (h.cell (p := ⟨g, m, none⟩) hg).trans (hl m (by rw [HN.out]; exact hmn)))
      have HPX := Lib.hid (HPL.out m (by rw [HN.out]; exact hmn))
      have hxa : a.size ≤ 1000000 := by omega
      generalize xs.getD m z0 = x at HA HG HPX
      have HTX := fun (wx : World) (h : Below w0.heap.size w0 wx) => text_any x wx HPX.out.1.1 HPX.out.1.2 HPX.out.2 (fun _ => pow10_below HP0.out h)
      clear hdb hno hst ho2 hd2 hh e1 e3 e4 e5 has ha hbs hl hne hg
      rw [HI.out]
      have h1 : (1 : Int) < (s.size : Int) - k ∨ ¬ (1 : Int) < (s.size : Int) - k := by omega
      rcases h1 with h1 | h1
      all_goals
        go_wp2_with fail
        refine (Tryd.Buffer_WriteString_k w0.heap.size w0.heap.size (Lib.byteCells L) (s.extract 0 k) wr HS.out.1 hsz (Lib.byteCells_one _) (by rw [Lib.byteCells_length]; omega)).mono ?_
        rintro e w1 ⟨rfl, hb1, hbel1, _⟩
        have HB1 := Lib.hid (buf_str hb1 HE1.out)
        have HL1 := Lib.hid (HS.out.2.1.trans hbel1)
        have hsz1 := HL1.out.size
        have hl1 : (L ++ pre).length = L.length + k := by rw [List.length_append, hk]
        have hcell := HG.out w1 HL1.out
        clear hb1 hbel1
        go_wp2_with fail
        with_reducible refine (HTX w1 HL1.out).mono ?_
        rintro e w2 ⟨rfl, hb2⟩
        have HL2 := Lib.hid (HL1.out.trans (hb2.mono hsz1))
        have hsz2 := HL2.out.size
        have HB2 := Lib.hid (isBuffer_older HB1.out hb2)
        clear hcell hb2
        rw [← HA.out]
        go_wp2_with fail
        refine (Tryd.Buffer_WriteString_k w0.heap.size w0.heap.size (Lib.byteCells (L ++ pre)) ((⟨#[39]⟩ : ByteArray) ++ a ++ (⟨#[39]⟩ : ByteArray)) w2 HB2.out hsz2 (Lib.byteCells_one _) (by rw [Lib.byteCells_length, hl1, ByteArray.size_append', ByteArray.size_append']; have : (ByteArray.mk #[39]).size = 1 := rfl; omega)).mono ?_
        rintro e w3 ⟨rfl, hb3, hbel3, _⟩
        have HB3 := Lib.hid (buf_str hb3 (show ((⟨#[39]⟩ : ByteArray) ++ a ++ (⟨#[39]⟩ : ByteArray)).data.toList = [39] ++ a.data.toList ++ [39] by rw [app_list, app_list]))
        have HL3 := Lib.hid (HL2.out.trans hbel3)
        clear hb3 hbel3
        go_wp2_with fail
        go_roundw
        case rel => exact ⟨_, m + 1, _, rfl, by go_num, by omega, by omega, Lib.hid ⟨HB3.out, HL3.out, o', by rw [← HLO.out, HO2.out]; simp, by rw [HE5.out, ← HBS.out]; exact HD2.out⟩⟩
        case measure => simp [strOfS, hcs]; omega
end Go.Proofs.YtdjgknfmehkigaaDoor
