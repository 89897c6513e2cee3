/- rows9 walked: the rows that it makes of names and lists of values. Every world. -/
import Derived.Test.YtpjadgdimkdblaaDoorRwO
import Derived.Test.YtpjadgdimkdblaaDoorRwL
import Derived.BigQuiet
import Derived.Deep.Cut
import Derived.Deep.RegionLaw
import Derived.Maps.AppendAt
namespace Go.Proofs.YtpjadgdimkdblaaDoor
open Go.RowKit
set_option linter.unusedVariables false

theorem Tryd.infoArg : (Tryd.prog.info? 39).map (fun i => (i.zero, i.size, i.bytes)) = some (some (.agg #[.string ByteArray.empty, .int .i64 0, .int .i64 0, .string ByteArray.empty, .slice none 0 0]), 5, 72) := by kernel_rfl
/-- append of one argument to a row of the call's own, as one step of a region that draws. -/
theorem step_app_n {w : World} {ops : Array Oper} {o : Oper} {a : Act} {K : Act → World → Prop} {Q : Exit → Act → World → Prop} {E : Prop} (hw : Region.wanted o (yielded ops a.tmps) = true) (s x : Operand)
    (ho : o.op = .call { callee := .builtin .append, args := #[s, x], argTypes := #[40, 40] })
    (base : Nat) (v : Value) (n : Nat) (olds : List NRec) (hs : a.eval s = v) (ad : Addr) (hx : a.eval x = .slice (some ad) 1 1) (g : NRec)
    (hown : w.ownsRow base 39 5 v n (cellsN olds)) (hc : ∀ j u, (cellsN [g])[j]? = some u → w.cell? (ad.add j) = some u) (hnm : n + 1 ≤ 1000000) (hbase : base ≤ w.heap.size)
    (h : ∀ v' w', w'.ownsRow base 39 5 v' (n + 1) (cellsN (olds ++ [g])) → w.grownBy w' v.ownBlock → K (a.put o.dst v') w') :
    if Region.wanted o (yielded ops a.tmps) = true then Oper.wp Tryd.prog o a w K Q else E := by
  rw [if_pos hw]
  obtain ⟨i0, hi0, hz0, hz1, hz2⟩ := info_parts Tryd.infoArg
  obtain ⟨v', w', hr, h2, h3, h4, h5⟩ := run_append_own_at (P := Tryd.prog) w base 40 o.type 39 i0 _ 5 72 Tryd.underlying40 hi0 hz0 hz1 hz2 rfl (by decide) v n (cellsN olds) hown ad 1 1 (cellsN [g]) (by rw [cellsN_length]; rfl) hc (cellsN_one _) (by unfold maxLen; omega) (by omega) hbase
  unfold Oper.wp execOp
  simp only [ho, resolve, invoke, builtin, Sem.run_bind, Sem.run_pure, Result.andThen_ok, List.map_toArray, List.map_cons, List.map_nil, hs, hx, hr]
  exact h v' w' (by rw [cellsN_app]; exact h2) h3
theorem rowGs_snoc (ss : List ByteArray) (xs : List VRec) (t : Nat) (h1 : t < ss.length) (h2 : t < xs.length) : rowGs (ss.take (t + 1)) (xs.take (t + 1)) = rowGs (ss.take t) (xs.take t) ++ [⟨ss.getD t ByteArray.empty, ⟨xs.getD t z0, []⟩⟩] := by
  have e1 : ss.take (t + 1) = ss.take t ++ [ss.getD t ByteArray.empty] := by
    rw [List.take_add_one, List.getD_eq_getElem?_getD, List.getElem?_eq_getElem h1]
    rfl
  have e2 : xs.take (t + 1) = xs.take t ++ [xs.getD t z0] := by
    rw [List.take_add_one, List.getD_eq_getElem?_getD, List.getElem?_eq_getElem h2]
    rfl
  unfold rowGs
  rw [e1, e2, List.zip_append (by rw [List.length_take, List.length_take]; omega), List.map_append]
  rfl
def NameAt (ss : List ByteArray) (i : Nat) : Prop := NameOk (ss.getD i ByteArray.empty) ∧ ∀ j, j < i → ss.getD j ByteArray.empty ≠ ss.getD i ByteArray.empty
def ListGood (n : Nat) (l : LRec) : Prop := l.xs.length = n ∧ ∀ t, t < n → (l.xs.getD t z0).right
/-- What rows9 has found. -/
structure RowsGood (ss : List ByteArray) (ls : List LRec) : Prop where
  some1 : 1 ≤ ss.length
  few1 : ss.length ≤ 6
  some2 : 1 ≤ ls.length
  few2 : ls.length ≤ 8
  names : ∀ i, i < ss.length → NameAt ss i
  lists : ∀ i, i < ls.length → ListGood ss.length (ls.getD i l0)
def Rows9So (ss : List ByteArray) (ls : List LRec) (w : World) (e : Ending) (w' : World) : Prop :=
  ∃ (A : Option Addr) (n c : Nat) (r : Bool), e = .returned (.tuple #[.slice A n c, .bool r]) ∧ Below w.heap.size w w' ∧ (r = true → n = ls.length ∧ RowsGood ss ls ∧ ∃ rs, RowsSo w.heap.size rs ls.length (.slice A n c) w' ∧ ∀ i, i < ls.length → (rs.getD i r0).gs = rowGs ss (ls.getD i l0).xs)
/-- What the loop over the lists carries. -/
def R9So (ss : List ByteArray) (ls : List LRec) (w : World) (k : Nat) (rs : List RRow) (v : Value) (wr : World) : Prop :=
  RowsSo w.heap.size rs k v wr ∧ Below w.heap.size w wr ∧ ∀ j, j < k → (rs.getD j r0).gs = rowGs ss (ls.getD j l0).xs ∧ ListGood ss.length (ls.getD j l0)
theorem lists_at9 {w : World} {A : Option Addr} {ls : List LRec} (h : LsAt w A ls) : ∀ i, i < ls.length → ∃ b off, A = some ⟨b, off, none⟩ ∧ b < w.heap.size ∧ w.cell? ⟨b, off + i, none⟩ = some (.slice (ls.getD i l0).A (ls.getD i l0).n (ls.getD i l0).c) ∧ (ls.getD i l0).good w := by
  intro i hi
  rcases h with rfl | ⟨b, off, e, h1, h2⟩
  · simp at hi
  · exact ⟨b, off, e, h1, (h2 i hi).1, (h2 i hi).2⟩
set_option maxHeartbeats 8000000 in
set_option maxRecDepth 100000 in
theorem rows9_any (A : Option Addr) (n c : Nat) (ss : List ByteArray) (A2 : Option Addr) (n2 c2 : Nat) (ls : List LRec) (w : World) (hn : ss.length = n) (hm : n ≤ 2147483647) (hx : StrsAt w A ss) (hz : ∀ i, i < n → (ss.getD i ByteArray.empty).size ≤ maxLen) (hn2 : ls.length = n2) (hm2 : n2 ≤ 2147483647) (hx2 : LsAt w A2 ls) :
    Calls Tryd.prog 22 #[.slice A n c, .slice A2 n2 c2] w (Rows9So ss ls w) := by
  obtain ⟨i1, hi0, hz0, hz1, hz2⟩ := info_parts Tryd.infoArgs
  have HX := Lib.hid hx
  have HN := Lib.hid hn
  have HZ := Lib.hid hz
  have HX2 := Lib.hid hx2
  have HN2 := Lib.hid hn2
  clear hx hn hz hx2 hn2
  go_enter Tryd.func22, Tryd.ntmps22
  go_wp2_with fail
  go_loopw [14] (fun i wr => ∃ k : Nat, k ≤ n ∧ i = .int .i64 k ∧ Hid (Below w.heap.size w wr ∧ ∀ i, i < k → NameAt ss i)) (fun i _ => n - (intOf i).toNat)
  case atStart => exact ⟨0, Nat.zero_le _, rfl, Lib.hid ⟨Below.refl _ _, fun i h => by omega⟩⟩
  case round =>
    obtain ⟨k, hk, rfl, HS⟩ := hrel
    have h0 : (0 : Int) ≤ k := by omega
    by_cases hlt : k < n
    · have hkn : (k : Int) < n := by omega
      have hne : ss ≠ [] := fun e => by have := HN.out; rw [e] at this; simp at this; omega
      obtain ⟨b, off, rfl, hb, hl⟩ := HX.out.resolve_left hne
      have HCJ := Lib.hid (fun (j : Nat) (hj : j < n) (wx : World) (hbx : Below w.heap.size w wx) => show wx.cell? ⟨b, off + j, none⟩ = some (.string (ss.getD j ByteArray.empty)) from (hbx.cell (p := ⟨b, off + j, none⟩) hb).trans (hl j (by rw [HN.out]; exact hj)))
      have hcell := HCJ.out k hlt wr HS.out.1
      have HSZ := Lib.hid (HZ.out k hlt)
      generalize hxx : ss.getD k ByteArray.empty = x at hcell HSZ
      have HXX := Lib.hid hxx
      clear hl hxx hne hb
      go_wp2_with fail
      refine (named_any x HSZ.out wr).mono ?_
      rintro e w' ⟨r, rfl, hr, rfl⟩
      have HNR := Lib.hid hr
      clear hr
      cases r with
      | false =>
        go_wp2
        go_ret2
        exact ⟨_, _, _, _, rfl, HS.out.1, fun h => by cases h⟩
      | true =>
        go_wp2_with fail
        go_loopw [24] (fun i wi => ∃ j : Nat, j ≤ k ∧ i = .int .i64 j ∧ Hid (Below wr.heap.size wr wi ∧ ∀ i, i < j → ss.getD i ByteArray.empty ≠ x)) (fun i _ => k - (intOf i).toNat)
        case atStart => exact ⟨0, Nat.zero_le _, rfl, Lib.hid ⟨Below.refl _ _, fun i h => by omega⟩⟩
        case round =>
          obtain ⟨j, hj, rfl, HJ⟩ := hrel
          have h0j : (0 : Int) ≤ j := by omega
          have HBW := Lib.hid (HS.out.1.trans (HJ.out.1.mono HS.out.1.size))
          by_cases hjk : j < k
          · have hjn : (j : Int) < n := by omega
            have hjk2 : (j : Int) < k := by omega
            have hcj := HCJ.out j (by omega) _ HBW.out
            have hck := HCJ.out k hlt _ HBW.out
            rw [HXX.out] at hck
            generalize hyy : ss.getD j ByteArray.empty = y at hcj
            have HYY := Lib.hid hyy
            clear hyy
            go_wp2_with fail
            go_quiet (fail)
            go_wp2_with fail
            · go_ret2
              exact ⟨_, _, _, _, rfl, below_drewN HBW.out _, fun h => by cases h⟩
            · go_roundw
              case rel =>
                refine ⟨j + 1, by omega, by go_num, Lib.hid ⟨below_drewN HJ.out.1 _, fun i hi => ?_⟩⟩
                by_cases e : i = j
                · subst e
                  rw [HYY.out]
                  exact fun he => absurd (show (y.toList == x.toList) = true by rw [he]; simp) (Bool.eq_false_iff.1 (by assumption))
                · exact HJ.out.2 i (by omega)
              case measure => simp [intOf]; omega
          · obtain rfl : j = k := by omega
            go_wp2_with fail
            go_roundw
            case rel =>
              refine ⟨j + 1, by omega, by go_num, Lib.hid ⟨HBW.out, fun i hi => ?_⟩⟩
              by_cases e : i = j
              · subst e
                unfold NameAt
                rw [HXX.out]
                exact ⟨HNR.out (by trivial), HJ.out.2⟩
              · exact HS.out.2 i (by omega)
            case measure => simp [intOf]; omega
    · obtain rfl : k = n := by omega
      have HB0 := Lib.hid HS.out.1
      have HNA := Lib.hid HS.out.2
      clear HS
      go_wp2_with fail
      go_loopw [6, 40] (fun v' i wr => ∃ (m : Nat) (v : Value) (rs : List RRow), m ≤ n2 ∧ v = v' ∧ i = .int .i64 m ∧ Hid (R9So ss ls w m rs v wr)) (fun _ i _ => n2 - (intOf i).toNat)
      case atStart => exact ⟨0, _, [], Nat.zero_le _, rfl, rfl, Lib.hid ⟨rowsSo_start _ _, HB0.out, fun j h => by omega⟩⟩
      case round =>
        clear HB0
        obtain ⟨m, v, rs, hm', rfl, rfl, HR⟩ := hrel
        have h0m : (0 : Int) ≤ m := by omega
        have hszr := HR.out.2.1.size
        by_cases hlm : m < n2
        · have hmn : (m : Int) < n2 := by omega
          obtain ⟨b2, off2, rfl, hb2, hc2, hgood⟩ := lists_at9 HX2.out m (by rw [HN2.out]; exact hlm)
          have HC2 := Lib.hid (fun (wx : World) (hbx : Below w.heap.size w wx) => (hbx.cell (p := ⟨b2, off2 + m, none⟩) hb2).trans hc2)
          generalize hll : ls.getD m l0 = l at hc2 hgood HC2
          have HLL := Lib.hid hll
          obtain ⟨A1, n1, c1, xs1⟩ := l
          obtain ⟨g1, g2, g3, g4⟩ := hgood
          have HG3 := Lib.hid g3
          have HG4 := Lib.hid g4
          simp only at hc2 g1 HC2
          unfold maxLen at g1
          have hcell := HC2.out wr HR.out.2.1
          clear hc2 hll g2 g3 g4 hb2
          by_cases hne1 : n1 = k
          · subst hne1
            have hnn : ((n1 : Int) != n1) = false := by simp
            go_wp2_with fail
            refine (single_any A1 n1 c1 xs1 _ HG3.out (by omega) (listAt_below HG4.out HR.out.2.1)).mono ?_
            rintro e w1 ⟨r, rfl, hr, hb1⟩
            have HB1 := Lib.hid hb1
            have HBW := Lib.hid (HR.out.2.1.trans (hb1.mono HR.out.2.1.size))
            have HRT := Lib.hid hr
            clear hr hb1 hcell
            cases r with
            | false =>
              go_wp2
              go_ret2
              exact ⟨_, _, _, _, rfl, HBW.out, fun h => by cases h⟩
            | true =>
            have hr2 := HRT.out (by trivial)
            have HR2 := Lib.hid hr2.2
            have hn30 := hr2.1
            clear HRT hr2
            have hxl : xs1.length = n1 := HG3.out
            have HXL := Lib.hid hxl
            have hn31 : n1 ≤ 30 := by omega
            clear hxl hn30
            go_wp2_with fail
            go_loopw [10, 61] (fun v' i w' => ∃ (t : Nat) (v3 : Value) (wi : World), t ≤ n1 ∧ wi = w' ∧ v3 = v' ∧ i = .int .i64 t ∧ Hid (wi.ownsRow w1.heap.size 39 5 v3 t (cellsN (rowGs (ss.take t) (xs1.take t))) ∧ Below w1.heap.size w1 wi)) (fun _ i _ => n1 - (intOf i).toNat)
            case atStart => exact ⟨0, _, _, Nat.zero_le _, rfl, rfl, rfl, Lib.hid ⟨World.ownsRow_nil _ _ _ _, Below.refl _ _⟩⟩
            case round =>
              obtain ⟨t, v3, wi, ht, rfl, rfl, rfl, HT⟩ := hrel
              have h0t : (0 : Int) ≤ t := by omega
              have hszt := HT.out.2.size
              have HBT := Lib.hid (HBW.out.trans (HT.out.2.mono HBW.out.size))
              by_cases hltt : t < n1
              · have htn : (t : Int) < n1 := by omega
                have hne : ss ≠ [] := fun e => by have := HN.out; rw [e] at this; simp at this; omega
                have hne3 : xs1 ≠ [] := fun e => by have := HXL.out; rw [e] at this; simp at this; omega
                obtain ⟨b, off, rfl, hb, hl⟩ := HX.out.resolve_left hne
                obtain ⟨b3, off3, rfl, hb3, hl3⟩ := HG4.out.resolve_left hne3
                have hcs := (HBT.out.cell (p := ⟨b, off + t, none⟩) hb).trans (hl t (by rw [HN.out]; exact hltt))
                have hcl := HC2.out wi HBT.out
                obtain ⟨c0, c1', c2', c3'⟩ := lies_below (hl3 t (by rw [HXL.out]; exact hltt)) HBT.out hb3
                have e1 : off3 + (t * 4 + 1) = off3 + t * 4 + 1 := by omega
                have e2 : off3 + (t * 4 + 2) = off3 + t * 4 + 2 := by omega
                have e3 : off3 + (t * 4 + 3) = off3 + t * 4 + 3 := by omega
                have HSN := Lib.hid (rowGs_snoc ss xs1 t (by rw [HN.out]; exact hltt) (by rw [HXL.out]; exact hltt))
                generalize ss.getD t ByteArray.empty = s at hcs HSN
                generalize xs1.getD t z0 = x at c0 c1' c2' c3' HSN
                clear hl hl3 hne hne3 hb hb3
                have HOT := Lib.hid HT.out.1.drew
                have hszd : w1.heap.size ≤ wi.drew.heap.size := hszt
                go_upto_region 23 with fail
                go_region_law (refine step_app_n (by kernel_rfl) (.tmp 64) (.tmp 77) rfl w1.heap.size v3 t (rowGs (ss.take t) (xs1.take t)) rfl ⟨wi.heap.size, 0, none⟩ rfl ⟨s, ⟨x, []⟩⟩ (HOT.out.alloc _) (cells_new wi.drew (cellsN [⟨s, ⟨x, []⟩⟩]) _) (by omega) (Nat.le_trans hszd (World.grownBy_alloc wi.drew _ none).size) ?_; intro v4 w4 hown4 hg4; have HT2 := Lib.hid (show w4.ownsRow w1.heap.size 39 5 v4 (t + 1) (cellsN (rowGs (ss.take (t + 1)) (xs1.take (t + 1)))) ∧ Below w1.heap.size w1 w4 from ⟨by rw [HSN.out]; exact hown4, (HT.out.2.drew.alloc hszd _).grown hg4 (Nat.le_trans hszd (World.grownBy_alloc wi.drew _ none).size) (fun g hg => (HT.out.1.lt g hg).1)⟩); clear hown4 hg4)
                all_goals
                  go_wp2_with fail
                  go_roundw
                  case rel => exact ⟨t + 1, _, _, by omega, rfl, rfl, by go_num, HT2⟩
                  case measure => simp [intOf]; omega
              · obtain rfl : t = n1 := by omega
                obtain ⟨a3, c3, rfl⟩ := ownsRow_form HT.out.1
                have HGR := Lib.hid (show rowGs (ss.take t) (xs1.take t) = rowGs ss xs1 by rw [List.take_of_length_le (by rw [HN.out]; exact Nat.le_refl _), List.take_of_length_le (by rw [HXL.out]; exact Nat.le_refl _)])
                have HGL := Lib.hid (show (rowGs ss xs1).length = t by rw [rowGs_length (by rw [HXL.out, HN.out]), HN.out])
                have HVAL := Lib.hid (show (⟨a3, c3, rowGs ss xs1⟩ : RRow).val = .slice a3 t c3 by unfold RRow.val; simp only [HGL.out])
                have HROW := Lib.hid (show wi.ownsRow w.heap.size 39 5 (⟨a3, c3, rowGs ss xs1⟩ : RRow).val (rowGs ss xs1).length (cellsN (rowGs ss xs1)) by
                  rw [HVAL.out, HGL.out, ← HGR.out]
                  exact ownsRow_down HT.out.1 HBW.out.size)
                have HGW := Lib.hid (grown_none (HB1.out.trans (HT.out.2.mono HB1.out.size)))
                have HRO := Lib.hid (HR.out.1.2.1.kept HGW.out (none_or _))
                have HNEW := Lib.hid (fun g hg => Nat.le_trans HB1.out.size (HT.out.1.lt g hg).1)
                have hszi := HBT.out.size
                go_wp2_with (at_builtin; go_must (refine wpList_append_own_at _ rfl _ _ 45 rfl w.heap.size 40 i1 (.slice none 0 0) 1 24 Tryd.underlying45 hi0 hz0 hz1 hz2 rfl (by decide) v m (rs.map RRow.val) rfl (HRO.out.alloc _) ⟨wi.heap.size, 0, none⟩ 1 1 [.slice a3 t c3] rfl rfl (cells_new wi [_] _) (by intro z hz; simp at hz; subst hz; rfl) (by unfold maxLen; omega) (by omega) (by simp; omega) ?_); intro v2 w3 hown3 hg3 _ hat3; refine Hid.out ?_)
                refine Lib.hid ?_
                have HR3 := Lib.hid (rowsSo_step (r := ⟨a3, c3, rowGs ss xs1⟩) HR.out.1 HGW.out HROW.out (by rw [HVAL.out]; exact HNEW.out) (by rw [HVAL.out]; exact hown3) hg3 hat3)
                have HB3 := Lib.hid ((HBT.out.alloc hszi _).grown hg3 (by simp; omega) (fun g hg => (HR.out.1.2.1.lt g hg).1))
                clear hown3 hg3 hat3
                go_wp2_with fail
                go_roundw
                case rel =>
                  refine ⟨m + 1, _, _, by omega, rfl, by go_num, Lib.hid ⟨HR3.out, HB3.out, fun j hj => ?_⟩⟩
                  rcases Nat.lt_or_ge j m with h1 | h1
                  · have e : (rs ++ [(⟨a3, c3, rowGs ss xs1⟩ : RRow)]).getD j r0 = rs.getD j r0 := by
                      rw [List.getD_eq_getElem?_getD, List.getElem?_append_left (by have := HR.out.1.1; omega), ← List.getD_eq_getElem?_getD]
                    rw [e]
                    exact HR.out.2.2 j h1
                  · obtain rfl : j = m := by omega
                    have e : (rs ++ [(⟨a3, c3, rowGs ss xs1⟩ : RRow)]).getD j r0 = ⟨a3, c3, rowGs ss xs1⟩ := by
                      rw [List.getD_eq_getElem?_getD, List.getElem?_append_right (by have := HR.out.1.1; omega), HR.out.1.1, Nat.sub_self]
                      rfl
                    rw [e, HLL.out]
                    exact ⟨rfl, by show xs1.length = ss.length; rw [HXL.out, HN.out], fun i hi => HR2.out i (by rw [HXL.out, ← HN.out]; exact hi)⟩
                case measure => simp [intOf]; omega
          · have hnn : ((n1 : Int) != k) = true := by rw [bne_iff_ne]; omega
            go_wp2
            go_ret2
            exact ⟨_, _, _, _, rfl, HR.out.2.1, fun h => by cases h⟩
        · obtain rfl : m = n2 := by omega
          obtain ⟨a3, c3, rfl⟩ := ownsRow_form HR.out.1.2.1
          have HFIN := Lib.hid (show ∀ (hk1 : 1 ≤ k) (hk6 : k ≤ 6) (hm1 : 1 ≤ m) (hm8 : m ≤ 8), m = ls.length ∧ RowsGood ss ls ∧ ∃ rs, RowsSo w.heap.size rs ls.length (.slice a3 m c3) wr ∧ ∀ i, i < ls.length → (rs.getD i r0).gs = rowGs ss (ls.getD i l0).xs from fun hk1 hk6 hm1 hm8 =>
            ⟨HN2.out.symm, ⟨by rw [HN.out]; exact hk1, by rw [HN.out]; exact hk6, by rw [HN2.out]; exact hm1, by rw [HN2.out]; exact hm8, fun i hi => HNA.out i (by rw [← HN.out]; exact hi), fun i hi => (HR.out.2.2 i (by rw [← HN2.out]; exact hi)).2⟩, rs, by rw [HN2.out]; exact HR.out.1, fun i hi => (HR.out.2.2 i (by rw [← HN2.out]; exact hi)).1⟩)
          have HBR := Lib.hid HR.out.2.1
          by_cases a1 : (0 : Int) < k
          · by_cases a2 : (k : Int) ≤ 6
            · by_cases a4 : (0 : Int) < m
              · by_cases a5 : (m : Int) ≤ 8
                · go_wp2_with fail
                  go_ret2
                  exact ⟨_, _, _, _, rfl, HBR.out, fun _ => HFIN.out (by omega) (by omega) (by omega) (by omega)⟩
                · go_wp2_with fail
                  go_ret2
                  exact ⟨_, _, _, _, rfl, HBR.out, fun h => by cases h⟩
              · go_wp2_with fail
                go_ret2
                exact ⟨_, _, _, _, rfl, HBR.out, fun h => by cases h⟩
            · go_wp2_with fail
              go_ret2
              exact ⟨_, _, _, _, rfl, HBR.out, fun h => by cases h⟩
          · go_wp2_with fail
            go_ret2
            exact ⟨_, _, _, _, rfl, HBR.out, fun h => by cases h⟩
end Go.Proofs.YtpjadgdimkdblaaDoor
