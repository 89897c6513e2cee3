/- impl.NamedManyOf and impl.NamedMany walked, over rows of arguments that are no lists and have all names. Every world. -/
import Derived.Test.YtpjadgdimkdblaaDoorArr
import Derived.Test.YtpjadgdimkdblaaDoorExpanded
namespace Go.Proofs.YtpjadgdimkdblaaDoor
open Go.RowKit Go.Maps
set_option linter.unusedVariables false

/-- A row of arguments. -/
structure RRow where
  A : Option Addr
  c : Nat
  gs : List NRec
def r0 : RRow := ⟨none, 0, []⟩
def RRow.val (r : RRow) : Value := .slice r.A r.gs.length r.c
def RRow.fls (r : RRow) : List Value := r.gs.map fun g => g.a.x.fl
def RRow.data (r : RRow) : List (ByteArray × Value) := pairs r.gs r.fls
/-- The rows lie, and hold different names with values that are no lists. -/
structure RowsAt (w : World) (A : Option Addr) (rows : List RRow) : Prop where
  lie : ∀ i, i < rows.length → ∃ b off, A = some ⟨b, off, none⟩ ∧ b < w.heap.size ∧ w.cell? ⟨b, off + i, none⟩ = some (rows.getD i r0).val
  ok : ∀ i, i < rows.length → NamesOk w (rows.getD i r0).A (rows.getD i r0).gs
  flat : ∀ i, i < rows.length → ∀ j, j < (rows.getD i r0).gs.length → flatk ((rows.getD i r0).gs.getD j n0).a.x
theorem arec_below {w w' : World} {a : ARec} (h : a.ok w) (hb : Below w.heap.size w w') : a.ok w' := by
  rcases h with h | ⟨h1, h2, h3, h4, h5⟩
  · exact .inl h
  · exact .inr ⟨h1, h2, h3, listAt_below h4 hb, h5⟩
theorem names_below {w w' : World} {A : Option Addr} {gs : List NRec} (h : NamesOk w A gs) (hb : Below w.heap.size w w') : NamesOk w' A gs := by
  refine ⟨h.many, ?_, fun i hi => arec_below (h.ok i hi) hb, h.differ, h.short⟩
  rcases h.lie with e | ⟨b, off, e, h1, h2⟩
  · exact .inl e
  · refine .inr ⟨b, off, e, Nat.lt_of_lt_of_le h1 hb.size, fun i hi => ?_⟩
    obtain ⟨c0, c1, c2, c3, c4⟩ := h2 i hi
    exact ⟨(hb.cell (p := ⟨b, off + i * 5, none⟩) h1).trans c0, (hb.cell (p := ⟨b, off + i * 5 + 1, none⟩) h1).trans c1, (hb.cell (p := ⟨b, off + i * 5 + 2, none⟩) h1).trans c2, (hb.cell (p := ⟨b, off + i * 5 + 3, none⟩) h1).trans c3, (hb.cell (p := ⟨b, off + i * 5 + 4, none⟩) h1).trans c4⟩
theorem rows_below {w w' : World} {A : Option Addr} {rows : List RRow} (h : RowsAt w A rows) (hb : Below w.heap.size w w') : RowsAt w' A rows := by
  refine ⟨fun i hi => ?_, fun i hi => names_below (h.ok i hi) hb, h.flat⟩
  obtain ⟨b, off, e, h1, h2⟩ := h.lie i hi
  exact ⟨b, off, e, Nat.lt_of_lt_of_le h1 hb.size, (hb.cell (p := ⟨b, off + i, none⟩) h1).trans h2⟩
theorem fls_of {r : RRow} {w wr : World} {us : List Value} (hf : ∀ j, j < r.gs.length → flatk (r.gs.getD j n0).a.x) (h : MapSo r.gs w r.gs.length us wr) : us = r.fls := by
  apply List.ext_getElem
  · rw [h.1]
    simp [RRow.fls]
  · intro i h1 h2
    have hi : i < r.gs.length := by rw [← h.1]; exact h1
    have hh := (h.2.2.1 i us[i] (List.getElem?_eq_getElem h1)).1
    have hk := hf i hi
    unfold ARec.handed at hh
    rw [if_neg (by unfold flatk at hk; omega)] at hh
    rw [hh]
    simp [RRow.fls, List.getD_eq_getElem?_getD, List.getElem?_eq_getElem hi]
/-- What the loop of NamedManyOf carries: a map for each of the first so many rows. -/
def ManySo (rows : List RRow) (w : World) (k : Nat) (v : Value) (bs : List Nat) (wr : World) : Prop :=
  bs.length = k ∧ wr.ownsRow w.heap.size 20 1 v k (bs.map mapV) ∧ (∀ i b, bs[i]? = some b → (∃ m, wr.ownsMap Tryd.prog 9 RV b m (mapD (rows.getD i r0).data)) ∧ some b ≠ v.ownBlock) ∧ Below w.heap.size w wr
theorem manySo_start (rows : List RRow) (w : World) : ManySo rows w 0 (.slice none 0 0) [] w := ⟨rfl, World.ownsRow_nil _ _ _ _, fun i b h => by simp at h, Below.refl _ _⟩
theorem manySo_step {rows : List RRow} {w : World} {k : Nat} {v v2 : Value} {bs : List Nat} {wr w1 w2 : World} {us : List Value} {X : Obj} (h : ManySo rows w k v bs wr) (hm : MapSo (rows.getD k r0).gs wr (rows.getD k r0).gs.length us w1) (hu : us = (rows.getD k r0).fls)
    (hr : w2.ownsRow w.heap.size 20 1 v2 (k + 1) (bs.map mapV ++ [mapV wr.heap.size])) (hg : (w1.alloc X).grownBy w2 v.ownBlock) (hat : v2.ownBlock = v.ownBlock ∨ v2.ownBlock = some (w1.alloc X).heap.size) (hs : w.heap.size ≤ wr.heap.size) : ManySo rows w (k + 1) v2 (bs ++ [wr.heap.size]) w2 := by
  obtain ⟨h1, h2, h3, h4⟩ := h
  obtain ⟨m1, m2, m3, m4⟩ := hm
  have hvlt := h2.lt
  have s1 := m4.size
  have s2 := m2.lt
  refine ⟨by simp [h1], by rw [List.map_append]; exact hr, fun i b hb => ?_, ?_⟩
  · rcases Nat.lt_or_ge i bs.length with hi | hi
    · rw [List.getElem?_append_left hi] at hb
      obtain ⟨⟨m, q1⟩, q2⟩ := h3 i b hb
      have q3 := q1.lt
      refine ⟨⟨m, (((q1.kept (grown_none m4) (by simp)).alloc X).kept hg q2)⟩, ?_⟩
      rcases hat with e | e
      · rw [e]; exact q2
      · rw [e]
        intro hh
        have : b = (w1.alloc X).heap.size := by simpa using hh
        simp only [World.size_alloc] at this
        omega
    · have hx2 : i = bs.length ∧ b = wr.heap.size := by
        rw [List.getElem?_append_right hi] at hb
        have : i - bs.length = 0 := by
          rcases Nat.eq_zero_or_pos (i - bs.length) with e | e
          · exact e
          · rw [List.getElem?_eq_none (by simp; omega)] at hb; cases hb
        rw [this] at hb
        exact ⟨by omega, by simpa using hb.symm⟩
      obtain ⟨rfl, rfl⟩ := hx2
      have q2 : some wr.heap.size ≠ v.ownBlock := fun e => by
        have := (hvlt _ e.symm).2
        omega
      refine ⟨⟨(rows.getD k r0).gs.length, ?_⟩, ?_⟩
      · rw [h1]
        unfold RRow.data
        rw [← hu]
        exact World.ownsMap.kept (m2.alloc X) hg q2
      · rcases hat with e | e
        · rw [e]; exact q2
        · rw [e]
          intro hh
          have : wr.heap.size = (w1.alloc X).heap.size := by simpa using hh
          simp only [World.size_alloc] at this
          omega
  · exact ((h4.trans (m4.mono hs)).alloc (by omega) X).grown hg (by simp; omega) (fun g hg => (hvlt g hg).1)
theorem row_cells2 {w : World} {B : Nat} {v : Value} {n : Nat} {us : List Value} (h : w.ownsRow B 20 1 v n us) (hn : us.length = n) : ∃ A c, v = .slice A n c ∧ ∀ i, i < n → ∃ b, A = some ⟨b, 0, none⟩ ∧ b < w.heap.size ∧ w.cell? ⟨b, i, none⟩ = some (us.getD i .nilIface) := by
  obtain ⟨A, c, rfl⟩ := ownsRow_form h
  refine ⟨A, c, rfl, fun i hi => ?_⟩
  rcases h.2 with ⟨_, h1⟩ | ⟨g, cap, cur, hv, _⟩
  · omega
  · obtain ⟨rfl, _, rfl⟩ : A = some ⟨g, 0, none⟩ ∧ True ∧ c = cap := by simpa using hv
    have hc := h.cells (g := g) rfl i (us.getD i .nilIface) (by rw [List.getD_eq_getElem?_getD, List.getElem?_eq_getElem (by omega)]; rfl)
    have hadd : (⟨g, 0, none⟩ : Addr).add i = ⟨g, i, none⟩ := by unfold Addr.add; split <;> simp_all
    rw [hadd] at hc
    exact ⟨g, rfl, (h.lt g rfl).2, hc⟩
def ManyOk (q3 : ByteArray) (xs : List VRec) (w : World) (e : Ending) (w' : World) : Prop :=
  ∃ x, e = .returned (.tuple #[.string q3, x, .bool true]) ∧ w'.ownsRow w.heap.size 34 4 x xs.length (backs xs) ∧ Below w.heap.size w w'
def flss (vss : List (List VRec)) : List (List Value) := vss.map fun vs => vs.map VRec.fl
theorem flss_flat (vss : List (List VRec)) : (flss vss).flatten = vss.flatten.map VRec.fl := by
  unfold flss
  rw [List.map_flatten]
theorem flss_get (vss : List (List VRec)) (i : Nat) : (flss vss).getD i [] = (vss.getD i []).map VRec.fl := by
  unfold flss
  rw [List.getD_eq_getElem?_getD, List.getD_eq_getElem?_getD, List.getElem?_map]
  cases vss[i]? <;> rfl
theorem fl_get (vs : List VRec) (j : Nat) (h : j < vs.length) : (vs.map VRec.fl).getD j .nilIface = (vs.getD j z0).fl := by
  rw [List.getD_eq_getElem?_getD, List.getD_eq_getElem?_getD, List.getElem?_map, List.getElem?_eq_getElem h]
  rfl
theorem fl_form (x : VRec) : oneForm x.fl := ifaceOf_form _ _ _
/-- What the statement knows of its rows. -/
structure RowsSay (rows : List RRow) (ns : List (List UInt8)) (vss : List (List VRec)) : Prop where
  lens : vss.length = rows.length
  len : ∀ i, i < rows.length → (vss.getD i []).length = ns.length
  look : ∀ i, i < rows.length → ∀ j, j < ns.length → lookN (rows.getD i r0).data ⟨(ns.getD j []).toArray⟩ = some ((vss.getD i []).getD j z0).fl
  flat : ∀ i, i < vss.flatten.length → flatk (vss.flatten.getD i z0)
  few : vss.flatten.length ≤ 10000
theorem arr_in {rows : List RRow} {ns : List (List UInt8)} {vss : List (List VRec)} {w wr : World} {a : Option Addr} {c : Nat} {bs : List Nat} (hs : RowsSay rows ns vss) (hm : ManySo rows w rows.length (.slice a rows.length c) bs wr) (h1 : 1 ≤ rows.length) : ArrIn wr a bs (rows.map RRow.data) ns (flss vss) := by
  obtain ⟨m1, m2, m3, m4⟩ := hm
  obtain ⟨g, rfl⟩ : ∃ g, a = some ⟨g, 0, none⟩ := by
    rcases m2.2 with ⟨_, h⟩ | ⟨g, cap, cur, hv, _⟩
    · omega
    · exact ⟨g, by injection hv⟩
  refine ⟨fun i hi => ⟨g, rfl, (m2.lt g rfl).2, ?_⟩, fun i hi => ?_, ?_, fun i hi => ?_, fun i hi j hj => ?_, fun i hi j hj => ?_⟩
  · have h := m2.cells (g := g) rfl i (mapV (bs.getD i 0)) (by rw [List.getElem?_map, List.getD_eq_getElem?_getD, List.getElem?_eq_getElem hi]; rfl)
    have hadd : (⟨g, 0, none⟩ : Addr).add i = ⟨g, i, none⟩ := by unfold Addr.add; split <;> simp_all
    rw [hadd] at h
    exact h
  · have h := (m3 i (bs.getD i 0) (by rw [List.getD_eq_getElem?_getD, List.getElem?_eq_getElem hi]; rfl)).1
    have e : (rows.map RRow.data).getD i [] = (rows.getD i r0).data := by
      rw [List.getD_eq_getElem?_getD, List.getD_eq_getElem?_getD, List.getElem?_map, List.getElem?_eq_getElem (by rw [← m1]; exact hi)]
      rfl
    rw [e]
    exact h
  · unfold flss
    rw [List.length_map, hs.lens, m1]
  · rw [flss_get, List.length_map]
    exact hs.len i (by rw [← m1]; exact hi)
  · have hir : i < rows.length := by rw [← m1]; exact hi
    have e : (rows.map RRow.data).getD i [] = (rows.getD i r0).data := by
      rw [List.getD_eq_getElem?_getD, List.getD_eq_getElem?_getD, List.getElem?_map, List.getElem?_eq_getElem hir]
      rfl
    rw [e, flss_get, fl_get _ _ (by rw [hs.len i hir]; exact hj)]
    exact hs.look i hir j hj
  · have hir : i < rows.length := by rw [← m1]; exact hi
    rw [flss_get, fl_get _ _ (by rw [hs.len i hir]; exact hj)]
    exact fl_form _
set_option maxHeartbeats 4000000 in
set_option maxRecDepth 100000 in
theorem manyOf_any (k : Int) (hk : k = 1 ∨ k = 2 ∨ k = 3 ∨ k = 4) (q q1 q2 q3 : ByteArray) (ns : List (List UInt8)) (A : Option Addr) (K c : Nat) (rows : List RRow) (vss : List (List VRec)) (xs : List VRec) (w : World) (hxs : vss.flatten = xs) (ht : TextOk q) (hp : Pow10 w)
    (hcomp : cn (mkK 1) q.data.toList none [] [] = some (q1.data.toList, ns)) (hasc : asc q1) (hqs : q1.size ≤ 100000) (hK : rows.length = K) (h1 : 1 ≤ K) (h2 : K ≤ 100) (hN1 : 1 ≤ ns.length) (hN : ns.length ≤ 100) (hsh : ∀ i, i < ns.length → (ns.getD i []).length ≤ maxLen)
    (hr : RowsAt w A rows) (hs : RowsSay rows ns vss) (hfix : FixTo q1 K q2) (hreb : RebTo k q2 q3) :
    Calls Tryd.prog 25 #[.int .i64 k, .string q, .slice A K c] w (ManyOk q3 xs w) := by
  obtain ⟨i0, hi0, hz0, hz1, hz2⟩ := info_parts Tryd.infoIface
  have HR := Lib.hid hr
  have HS := Lib.hid hs
  have HK := Lib.hid hK
  have HBN := Lib.hid (fun (a : Option Addr) (c : Nat) (bs : List Nat) (wr : World) (hp : Pow10 wr) (hl : bs.length = K) (hin : ArrIn wr a bs (rows.map RRow.data) ns (flss vss)) => bindNamed_list k hk q q1 q2 q3 ns a K c bs (rows.map RRow.data) (flss vss) wr ht hp hcomp hasc hqs hl h1 h2 hN1 hN hsh hin hfix hreb)
  have HP := Lib.hid hp
  clear hr hs hK ht hcomp hasc hqs hsh hfix hreb hp hk
  go_enter Tryd.func25, Tryd.ntmps25
  go_wp2
  go_loopw [9, 18] (fun v' x wr => ∃ (v : Value) (i : Nat) (bs : List Nat), v = v' ∧ i ≤ K ∧ x = .int .i64 i ∧ Hid (ManySo rows w i v bs wr)) (fun _ x _ => K - (intOf x).toNat)
  case atStart => exact ⟨_, 0, [], rfl, Nat.zero_le _, rfl, Lib.hid (manySo_start rows w)⟩
  case round =>
    obtain ⟨v, i, bs, rfl, hi, rfl, HM⟩ := hrel
    have h0 : (0 : Int) ≤ i := by omega
    have hsz0 := HM.out.2.2.2.size
    rcases Nat.lt_or_ge i K with hlt | hge
    · have hkn : (i : Int) < K := by omega
      have hir : i < rows.length := by rw [HK.out]; exact hlt
      have HRW := Lib.hid (rows_below HR.out HM.out.2.2.2)
      obtain ⟨b, off, rfl, hb, hcell⟩ := HRW.out.lie i hir
      unfold RRow.val at hcell
      have HMO := Lib.hid (mapOf_names (rows.getD i r0).A (rows.getD i r0).c (rows.getD i r0).gs wr (HRW.out.ok i hir))
      have HST := Lib.hid (fun (v2 : Value) (w1 w2 : World) (us : List Value) (X : Obj) (hm : MapSo (rows.getD i r0).gs wr (rows.getD i r0).gs.length us w1) (hr : w2.ownsRow w.heap.size 20 1 v2 (i + 1) (bs.map mapV ++ [mapV wr.heap.size])) (hg : (w1.alloc X).grownBy w2 v.ownBlock) (hat : v2.ownBlock = v.ownBlock ∨ v2.ownBlock = some (w1.alloc X).heap.size) => manySo_step HM.out hm (fls_of (HR.out.flat i hir) hm) hr hg hat hsz0)
      generalize rows.getD i r0 = r at hcell HMO HST
      go_wp2_with fail
      refine HMO.out.mono ?_
      rintro e w1 ⟨us, rfl, hm⟩
      have HMS := Lib.hid hm
      have hsz1 := hm.2.2.2.size
      have HO1 := Lib.hid (HM.out.2.1.kept (grown_none hm.2.2.2) (none_or _))
      clear hm hcell hb
      go_wp2_with (at_builtin; go_must (refine wpList_append_own_at _ rfl _ _ 71 rfl w.heap.size 20 i0 .nilIface 1 16 Tryd.underlying71 hi0 hz0 hz1 hz2 rfl (by decide) _ i (bs.map mapV) rfl (HO1.out.alloc _) ⟨w1.heap.size, 0, none⟩ 1 1 [mapV wr.heap.size] rfl rfl (cell_one_new _ _ _) (by intro z hz; simp at hz; subst hz; rfl) (by unfold maxLen; omega) (by omega) (by simp; omega) ?_); intro v2 w2 hown2 hg2 _ hat2; refine Hid.out ?_)
      refine Lib.hid ?_
      have HS2 := Lib.hid (HST.out _ _ _ _ _ HMS.out hown2 hg2 hat2)
      clear hown2 hg2 hat2
      go_wp2
      go_roundw
      case rel => exact ⟨_, i + 1, _, rfl, by omega, by go_num, HS2⟩
      case measure => simp [intOf]; omega
    · obtain rfl : i = K := by omega
      obtain ⟨a, c, rfl⟩ := ownsRow_form HM.out.2.1
      have HAI := Lib.hid (arr_in HS.out (c := c) (a := a) (bs := bs) (wr := wr) (w := w) (by rw [HK.out]; exact HM.out) (by rw [HK.out]; exact h1))
      have HCL := Lib.hid (HBN.out a c bs wr (pow10_below HP.out HM.out.2.2.2) HM.out.1 HAI.out)
      go_wp2_with fail
      refine HCL.out.mono ?_
      rintro e w3 ⟨v3, rfl, ho3, hb3⟩
      rw [flss_flat, List.length_map, hxs] at ho3
      obtain ⟨a3, c3, rfl⟩ := ownsRow_form ho3
      have HO3 := Lib.hid ho3
      have HB3 := Lib.hid (HM.out.2.2.2.trans (hb3.mono hsz0))
      have hfew : xs.length ≤ 10000 := by rw [← hxs]; exact HS.out.few
      have HFT := Lib.hid (show ∀ j, j < xs.length → flatk (xs.getD j z0) by rw [← hxs]; exact HS.out.flat)
      clear ho3 hb3
      go_wp2_with fail
      refine (valuesOf_flat a3 xs.length c3 xs _ rfl (by omega) (fun j hj => ?_) (fun j hj => HFT.out j hj)).mono ?_
      · obtain ⟨A5, c5, e5, h5⟩ := row_cells2 HO3.out (by rw [List.length_map])
        obtain ⟨rfl, _, rfl⟩ : a3 = A5 ∧ True ∧ c3 = c5 := by simpa using e5
        obtain ⟨b5, f1, f2, f3⟩ := h5 j hj
        exact ⟨b5, f1, f2, by rw [fl_get _ _ hj] at f3; exact f3⟩
      rintro e w4 ⟨v4, rfl, ho4, hb4⟩
      have HO4 := Lib.hid (ownsRow_down ho4 HB3.out.size)
      have HB4 := Lib.hid (HB3.out.trans (hb4.mono HB3.out.size))
      clear ho4 hb4
      go_wp2
      go_ret3
      exact ⟨v4, rfl, HO4.out, HB4.out⟩
end Go.Proofs.YtpjadgdimkdblaaDoor
