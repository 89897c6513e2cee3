/- bindMapArgs walked: the values of names, out of a map that has them all. Every world. bindMap, bindNamedMapper and BindNamed walked, over a map that has all names. Every world. impl.NamedOf and impl.Named walked, where every name is found; what valuesOf answers is the caller's to say. Every world. -/
import Derived.Test.YtpjadgdimkdblaaDoorMap
import Derived.Test.YtpjadgdimkdblaaDoorCmp
namespace Go.Proofs.YtpjadgdimkdblaaDoor
open Go.RowKit Go.Maps
set_option linter.unusedVariables false

theorem held_eq {v u : Value} {D : DataW Value} {ps : List MemPlace} (hv : RV v = some (D, ps)) (hD : D = .held u) : v = u := by
  subst hD
  unfold RV at hv
  simpa using congrArg (Option.map Prod.fst) hv
def oneForm (u : Value) : Prop := u = .nilIface ∨ ∃ t x, u = .iface t x
theorem take_snoc' {us : List Value} {k : Nat} (h : k < us.length) (d : Value) : us.take (k + 1) = us.take k ++ [us.getD k d] := by
  rw [List.take_add_one, List.getD_eq_getElem?_getD, List.getElem?_eq_getElem h]
  rfl
/-- What bindMapArgs answers where every name is found. -/
def BmOk (us : List Value) (w : World) (e : Ending) (w' : World) : Prop :=
  ∃ v, e = .returned (.tuple #[v, .nilIface]) ∧ w'.ownsRow w.heap.size 20 1 v us.length us ∧ Below w.heap.size w w'
set_option maxHeartbeats 1000000 in
theorem bm_none (A : Option Addr) (c b : Nat) (w : World) : Calls Tryd.prog 63 #[.slice A 0 c, .map (some b)] w (BmOk [] w) := by
  obtain ⟨i0, hi0, hz0, hz1, hz2⟩ := info_parts Tryd.infoIface
  go_enter Tryd.func63, Tryd.ntmps63
  go_wp2_with (at_make; refine wpList_make_own _ rfl _ _ 71 rfl w.heap.size 20 i0 .nilIface 1 Tryd.underlying71 hi0 hz0 hz1 .i64 .i64 _ 0 rfl rfl rfl (by rw [hz2]; omega) (by unfold maxLen; omega) (by simp) ?_; intro w1 hown1 hg1; refine Hid.out ?_)
  refine Lib.hid ?_
  generalize (Value.slice (some _) 0 0) = sv at hown1 ⊢
  have HO := Lib.hid hown1
  have HG := Lib.hid hg1
  clear hown1 hg1
  go_wp2
  go_loop [6, 16] (fun v i => v = sv ∧ i = .int .i64 0) (fun _ _ => 0)
  case atStart => exact ⟨rfl, rfl⟩
  case round =>
    obtain ⟨rfl, rfl⟩ := hrel
    go_wp2
    go_ret2
    exact ⟨_, rfl, HO.out, (Below.refl _ _).grown HG.out (Nat.le_refl _) (fun k hk => by cases hk)⟩

set_option maxHeartbeats 2000000 in
set_option maxRecDepth 100000 in
theorem bm_any (g n c b m : Nat) (ns : List ByteArray) (l : List (ByteArray × Value)) (us : List Value) (w : World) (hn : us.length = n) (hm : n ≤ 100000) (hg : g < w.heap.size) (hcell : ∀ i, i < n → w.cell? ⟨g, i, none⟩ = some (.string (ns.getD i ByteArray.empty)))
    (hs : ∀ i, i < n → (ns.getD i ByteArray.empty).size ≤ maxLen) (hmap : w.ownsMap Tryd.prog 9 RV b m (mapD l)) (hl : ∀ i, i < n → lookN l (ns.getD i ByteArray.empty) = some (us.getD i .nilIface)) (hf : ∀ i, i < n → oneForm (us.getD i .nilIface)) :
    Calls Tryd.prog 63 #[.slice (some ⟨g, 0, none⟩) n c, .map (some b)] w (BmOk us w) := by
  obtain ⟨i0, hi0, hz0, hz1, hz2⟩ := info_parts Tryd.infoIface
  have HC := Lib.hid hcell
  have HSZ := Lib.hid hs
  have HM := Lib.hid hmap
  have HL := Lib.hid hl
  have HF := Lib.hid hf
  have HN := Lib.hid hn
  clear hcell hs hmap hl hf hn
  go_enter Tryd.func63, Tryd.ntmps63
  go_wp2_with (at_make; refine wpList_make_own _ rfl _ _ 71 rfl w.heap.size 20 i0 .nilIface 1 Tryd.underlying71 hi0 hz0 hz1 .i64 .i64 _ n rfl rfl rfl (by rw [hz2]; omega) (by unfold maxLen; omega) (by simp) ?_; intro w1 hown1 hg1; refine Hid.out ?_)
  refine Lib.hid ?_
  generalize (Value.slice (some _) 0 n) = sv at hown1 ⊢
  have HO := Lib.hid hown1
  have HB1 := Lib.hid ((Below.refl w.heap.size w).grown hg1 (Nat.le_refl _) (fun k hk => by cases hk))
  clear hown1 hg1
  go_wp2
  go_loopw [6, 16] (fun v i wr => ∃ (k : Nat), k ≤ n ∧ i = .int .i64 k ∧ Hid (wr.ownsRow w.heap.size 20 1 v k (us.take k) ∧ Below w.heap.size w wr)) (fun _ i _ => n - (intOf i).toNat)
  case atStart => exact ⟨0, Nat.zero_le _, rfl, Lib.hid ⟨by simpa using HO.out, HB1.out⟩⟩
  case round =>
    obtain ⟨k, hk, rfl, HS⟩ := hrel
    clear HO HB1
    have hsz := HS.out.2.size
    have h0 : (0 : Int) ≤ k := by omega
    by_cases hlt : k < n
    · have hkn : (k : Int) < n := by omega
      have d0 := (HS.out.2.cell (p := ⟨g, k, none⟩) hg).trans (HC.out k hlt)
      have HMr := Lib.hid (HM.out.kept (grown_none HS.out.2) (by simp))
      have hat := (look_some (HL.out k hlt)).2
      have hhas := (look_some (HL.out k hlt)).1
      have hf := HF.out k hlt
      have HT := Lib.hid (take_snoc' (us := us) (k := k) (by have := HN.out; omega) .nilIface)
      have HZ := Lib.hid (HSZ.out k hlt)
      generalize ns.getD k ByteArray.empty = nm at d0 hat hhas HZ
      generalize us.getD k .nilIface = u at hat hf HT
      have HAT := Lib.hid hat
      have HHAS := Lib.hid hhas
      clear hat hhas
      rcases hf with rfl | ⟨t, x, rfl⟩
      all_goals
        go_wp2_with (at_lookup; refine wpList_lookup_own_ok _ rfl _ _ 72 rfl 9 20 lawS Tryd.underlying72 RV (zeroI _) (.held .nilIface) [] rfl b m _ rfl HMr.out _ _ rfl (keyS _ HZ.out) ?_; intro v ps hv; rw [HHAS.out]; obtain rfl := held_eq hv (HAT.out _); clear hv; refine Hid.out ?_)
        refine Lib.hid ?_
        go_wp2_with (at_builtin; refine wpList_append_own_at _ rfl _ _ 71 rfl w.heap.size 20 i0 .nilIface 1 16 Tryd.underlying71 hi0 hz0 hz1 hz2 rfl (by decide) _ k _ rfl (HS.out.1.alloc _) ⟨wr.heap.size, 0, none⟩ 1 1 [_] rfl rfl (cell_one_new _ _ _) (by intro z hz; simp at hz; subst hz; rfl) (by unfold maxLen; omega) (by omega) (by simp; omega) ?_; intro v2 w2 hown2 hg2 _ hat2; refine Hid.out ?_)
        refine Lib.hid ?_
        have HS2 := Lib.hid (show w2.ownsRow w.heap.size 20 1 v2 (k + 1) (us.take (k + 1)) ∧ Below w.heap.size w w2 from ⟨by rw [HT.out]; exact hown2, (HS.out.2.alloc hsz _).grown hg2 (by simp; omega) (fun j hj => (HS.out.1.lt j hj).1)⟩)
        clear hown2 hg2 hat2
        go_wp2
        go_roundw
        case rel => exact ⟨k + 1, by omega, by go_num, HS2⟩
        case measure => simp [intOf]; omega
    · obtain rfl : k = n := by omega
      go_wp2
      go_ret2
      obtain ⟨h1, h2⟩ := HS.out
      rw [List.take_of_length_le (by have := HN.out; omega)] at h1
      exact ⟨_, rfl, by rw [HN.out]; exact h1, h2⟩
/-- .. of names in a row of a call's own. -/
theorem bm_row (B : Nat) (sv : Value) (b m : Nat) (ns : List ByteArray) (l : List (ByteArray × Value)) (us : List Value) (w : World) (hn : us.length = ns.length) (hm : ns.length ≤ 100000) (hrow : w.ownsRow B 9 1 sv ns.length (ns.map .string))
    (hs : ∀ i, i < ns.length → (ns.getD i ByteArray.empty).size ≤ maxLen) (hmap : w.ownsMap Tryd.prog 9 RV b m (mapD l)) (hl : ∀ i, i < ns.length → lookN l (ns.getD i ByteArray.empty) = some (us.getD i .nilIface)) (hf : ∀ i, i < ns.length → oneForm (us.getD i .nilIface)) :
    Calls Tryd.prog 63 #[sv, .map (some b)] w (BmOk us w) := by
  rcases Nat.eq_zero_or_pos ns.length with h0 | h0
  · obtain rfl : us = [] := by apply List.length_eq_zero_iff.1; omega
    obtain ⟨a, c, rfl⟩ := ownsRow_form hrow
    rw [h0]
    exact bm_none a c b w
  · obtain ⟨g, cap, rfl⟩ : ∃ g cap, sv = .slice (some ⟨g, 0, none⟩) ns.length cap := by
      rcases hrow.2 with ⟨_, h1⟩ | ⟨g, cap, cur, hv, _⟩
      · omega
      · exact ⟨g, cap, hv⟩
    refine bm_any g ns.length cap b m ns l us w hn hm (hrow.lt g rfl).2 (fun i hi => ?_) hs hmap hl hf
    have h := hrow.cells (g := g) rfl i (.string (ns.getD i ByteArray.empty)) (by rw [List.getElem?_map, List.getD_eq_getElem?_getD, List.getElem?_eq_getElem hi]; rfl)
    have hadd : (⟨g, 0, none⟩ : Addr).add i = ⟨g, i, none⟩ := by unfold Addr.add; simp; exact fun e => e.symm
    rw [hadd] at h
    exact h
end Go.Proofs.YtpjadgdimkdblaaDoor
namespace Go.Proofs.YtpjadgdimkdblaaDoor
open Go.RowKit Go.Maps
set_option linter.unusedVariables false

theorem ta_mm (v : Value) (w : World) : (Instr.typeAssert (.iface 72 v) 20 72 true).run Tryd.prog w = .ok (.tuple #[v, .bool true]) w := by kernel_rfl
/-- A text's names, and what a map says of them. -/
structure Found (k : Int) (q : ByteArray) (L : List UInt8) (ns : List (List UInt8)) (l : List (ByteArray × Value)) (us : List Value) : Prop where
  compiled : cn (mkK k) q.data.toList none [] [] = some (L, ns)
  len : us.length = ns.length
  many : ns.length ≤ 100000
  short : ∀ i, i < ns.length → (ns.getD i []).length ≤ maxLen
  look : ∀ i, i < ns.length → lookN l ⟨(ns.getD i []).toArray⟩ = some (us.getD i .nilIface)
  form : ∀ i, i < ns.length → oneForm (us.getD i .nilIface)
def BindOk (L : List UInt8) (us : List Value) (w : World) (e : Ending) (w' : World) : Prop :=
  ∃ v, e = .returned (.tuple #[.string ⟨L.toArray⟩, v, .nilIface]) ∧ w'.ownsRow w.heap.size 20 1 v us.length us ∧ Below w.heap.size w w'
set_option maxHeartbeats 1000000 in
theorem bindMap_any (k : Int) (hk : KindOk k) (q : ByteArray) (L : List UInt8) (ns : List (List UInt8)) (l : List (ByteArray × Value)) (us : List Value) (b m : Nat) (w : World) (ht : TextOk q) (hp : Pow10 w) (hf : Found k q L ns l us) (hmap : w.ownsMap Tryd.prog 9 RV b m (mapD l)) :
    Calls Tryd.prog 54 #[.int .i64 k, .string q, .map (some b)] w (BindOk L us w) := by
  have hcv := Lib.run_convert_string_bytes (P := Tryd.prog) w 9 59 5 q (u := .string) Tryd.underlying9 Tryd.underlying59 Tryd.underlying5
  have HB := Lib.hid (Lib.bytesWorld_below w 5 q)
  have HC := Lib.hid (fun j hj => Lib.bytesWorld_cell w 5 q j hj)
  have HS := Lib.hid (Lib.bytesWorld_size w 5 q)
  have HF := Lib.hid hf
  have HM := Lib.hid (hmap.kept (grown_none HB.out) (by simp))
  clear hf hmap
  generalize Lib.bytesWorld w 5 q = W1 at hcv HB HC HS HM
  go_enter Tryd.func54, Tryd.ntmps54
  go_wp2_with fail
  refine (cn_any k hk w.heap.size q.size _ q W1 rfl (by rw [HS.out]; omega) HC.out ht.size ht.colons ht.ascii (pow10_below hp HB.out)).mono ?_
  rintro e w2 h
  unfold CnOk at h
  rw [HF.out.compiled] at h
  obtain ⟨sv, rfl, ho, hb⟩ := h
  have HB2 := Lib.hid (HB.out.trans (hb.mono HB.out.size))
  have HO2 := Lib.hid (ownsRow_down ho HB.out.size)
  have HM2 := Lib.hid (HM.out.kept (grown_none hb) (by simp))
  clear hb ho
  go_wp2_with fail
  refine (bm_row w.heap.size sv b m (ns.map fun x => ⟨x.toArray⟩) l us w2 (by simpa using HF.out.len) (by simpa using HF.out.many) (by simpa [List.map_map, Function.comp_def] using HO2.out) (fun i hi => ?_) HM2.out (fun i hi => ?_) (fun i hi => HF.out.form i (by simpa using hi))).mono ?_
  · have h := HF.out.short i (by simpa using hi)
    have e : (ns.map fun x => (⟨x.toArray⟩ : ByteArray)).getD i ByteArray.empty = ⟨(ns.getD i []).toArray⟩ := by
      rw [List.getD_eq_getElem?_getD, List.getD_eq_getElem?_getD, List.getElem?_map]
      cases ns[i]? <;> rfl
    rw [e]
    exact h
  · have h := HF.out.look i (by simpa using hi)
    have e : (ns.map fun x => (⟨x.toArray⟩ : ByteArray)).getD i ByteArray.empty = ⟨(ns.getD i []).toArray⟩ := by
      rw [List.getD_eq_getElem?_getD, List.getD_eq_getElem?_getD, List.getElem?_map]
      cases ns[i]? <;> rfl
    rw [e]
    exact h
  · rintro e w3 ⟨v, rfl, ho, hb⟩
    have HB3 := Lib.hid (HB2.out.trans (hb.mono HB2.out.size))
    have HO3 := Lib.hid (ownsRow_down ho HB2.out.size)
    clear ho hb
    go_wp2_with fail
    go_ret3
    exact ⟨v, rfl, HO3.out, HB3.out⟩
set_option maxHeartbeats 1000000 in
theorem bindMapper_map (k : Int) (hk : KindOk k) (q : ByteArray) (L : List UInt8) (ns : List (List UInt8)) (l : List (ByteArray × Value)) (us : List Value) (b m : Nat) (w : World) (ht : TextOk q) (hp : Pow10 w) (hf : Found k q L ns l us) (hmap : w.ownsMap Tryd.prog 9 RV b m (mapD l)) :
    Calls Tryd.prog 45 #[.int .i64 k, .string q, .iface 72 (.map (some b))] w (BindOk L us w) := by
  have hta := ta_mm
  have HF := Lib.hid hf
  have HM := Lib.hid hmap
  clear hf hmap
  go_enter Tryd.func45, Tryd.ntmps45
  go_wp2_with fail
  refine (bindMap_any k hk q L ns l us b m w ht hp HF.out HM.out).mono ?_
  rintro e w3 ⟨v, rfl, ho, hb⟩
  have HB3 := Lib.hid hb
  have HO3 := Lib.hid ho
  clear ho hb
  go_wp2_with fail
  go_ret3
  exact ⟨v, rfl, HO3.out, HB3.out⟩
set_option maxHeartbeats 1000000 in
theorem bindNamed_map (k : Int) (hk : KindOk k) (q : ByteArray) (L : List UInt8) (ns : List (List UInt8)) (l : List (ByteArray × Value)) (us : List Value) (b m : Nat) (w : World) (ht : TextOk q) (hp : Pow10 w) (hf : Found k q L ns l us) (hmap : w.ownsMap Tryd.prog 9 RV b m (mapD l)) :
    Calls Tryd.prog 38 #[.int .i64 k, .string q, .iface 72 (.map (some b))] w (BindOk L us w) := by
  have HF := Lib.hid hf
  have HM := Lib.hid hmap
  clear hf hmap
  go_enter Tryd.func38, Tryd.ntmps38
  go_wp2_with fail
  refine (bindMapper_map k hk q L ns l us b m w ht hp HF.out HM.out).mono ?_
  rintro e w3 ⟨v, rfl, ho, hb⟩
  have HB3 := Lib.hid hb
  have HO3 := Lib.hid ho
  clear ho hb
  go_wp2_with fail
  go_ret3
  exact ⟨v, rfl, HO3.out, HB3.out⟩
end Go.Proofs.YtpjadgdimkdblaaDoor
namespace Go.Proofs.YtpjadgdimkdblaaDoor
open Go.RowKit Go.Maps
set_option linter.unusedVariables false

theorem us_form {gs : List NRec} {w wr : World} {k : Nat} {us : List Value} (h : MapSo gs w k us wr) : ∀ i, i < k → oneForm (us.getD i .nilIface) := by
  intro i hi
  have h1 := h.1
  have := (h.2.2.1 i (us.getD i .nilIface) (by rw [List.getD_eq_getElem?_getD, List.getElem?_eq_getElem (by omega)]; rfl)).1
  exact handed_form this
def NoOk (L : List UInt8) (R : Value → World → Prop) (w : World) (e : Ending) (w' : World) : Prop :=
  ∃ x, e = .returned (.tuple #[.string ⟨L.toArray⟩, x, .bool true]) ∧ R x w' ∧ Below w.heap.size w w'
def ValsSay (gs : List NRec) (F : List Value → List Value) (R : Value → World → Prop) (w : World) : Prop :=
  ∀ us v wv, us.length = gs.length → (∀ i u, us[i]? = some u → (gs.getD i n0).a.handed w.heap.size u wv) → wv.ownsRow w.heap.size 20 1 v (F us).length (F us) → Below w.heap.size w wv → Calls Tryd.prog 39 #[v] wv fun e w' => ∃ x, e = .returned x ∧ R x w' ∧ Below wv.heap.size wv w'
set_option maxHeartbeats 1000000 in
theorem namedOf_any (k : Int) (hk : KindOk k) (q : ByteArray) (A : Option Addr) (c : Nat) (gs : List NRec) (L : List UInt8) (ns : List (List UInt8)) (F : List Value → List Value) (R : Value → World → Prop) (w : World) (ht : TextOk q) (hp : Pow10 w) (hg : NamesOk w A gs)
    (hf : ∀ us, us.length = gs.length → (∀ i, i < gs.length → oneForm (us.getD i .nilIface)) → Found k q L ns (pairs gs us) (F us)) (hv : ValsSay gs F R w) :
    Calls Tryd.prog 31 #[.int .i64 k, .string q, .slice A gs.length c] w (NoOk L R w) := by
  have HF := Lib.hid hf
  have HV := Lib.hid hv
  clear hf hv
  go_enter Tryd.func31, Tryd.ntmps31
  go_wp2_with fail
  refine (mapOf_names A c gs w hg).mono ?_
  rintro e w1 ⟨us, rfl, hm⟩
  have HM := Lib.hid hm
  have HB1 := Lib.hid hm.2.2.2
  have HP1 := Lib.hid (pow10_below hp hm.2.2.2)
  clear hm
  go_wp2_with fail
  refine (bindNamed_map k hk q L ns (pairs gs us) (F us) w.heap.size gs.length w1 ht HP1.out (HF.out us HM.out.1 (us_form HM.out)) HM.out.2.1).mono ?_
  rintro e w2 ⟨v, rfl, ho, hb⟩
  have HB2 := Lib.hid (HB1.out.trans (hb.mono HB1.out.size))
  have HO2 := Lib.hid (ownsRow_down ho HB1.out.size)
  have HU2 := Lib.hid (show ∀ i u, us[i]? = some u → (gs.getD i n0).a.handed w.heap.size u w2 from fun i u hu => by
    have h := (HM.out.2.2.1 i u hu).1
    exact handed_grown h (grown_none hb) (by cases e : leads u <;> simp))
  clear ho hb
  go_wp2_with fail
  refine (HV.out us v w2 HM.out.1 HU2.out HO2.out HB2.out).mono ?_
  rintro e w3 ⟨x, rfl, hr, hb⟩
  have HB3 := Lib.hid (HB2.out.trans (hb.mono HB2.out.size))
  have HR3 := Lib.hid hr
  clear hr hb
  go_wp2_with fail
  go_ret3
  exact ⟨x, rfl, HR3.out, HB3.out⟩
set_option maxHeartbeats 1000000 in
theorem named_map (q : ByteArray) (A : Option Addr) (c : Nat) (gs : List NRec) (L : List UInt8) (ns : List (List UInt8)) (F : List Value → List Value) (R : Value → World → Prop) (w : World) (ht : TextOk q) (hp : Pow10 w) (hg : NamesOk w A gs)
    (hf : ∀ us, us.length = gs.length → (∀ i, i < gs.length → oneForm (us.getD i .nilIface)) → Found 1 q L ns (pairs gs us) (F us)) (hv : ValsSay gs F R w) :
    Calls Tryd.prog 19 #[.string q, .slice A gs.length c] w (NoOk L R w) := by
  have HF := Lib.hid hf
  have HV := Lib.hid hv
  clear hf hv
  go_enter Tryd.func19, Tryd.ntmps19
  go_wp2_with fail
  refine (namedOf_any 1 (by unfold KindOk; omega) q A c gs L ns F R w ht hp hg HF.out HV.out).mono ?_
  rintro e w3 ⟨x, rfl, hr, hb⟩
  have HB3 := Lib.hid hb
  have HR3 := Lib.hid hr
  clear hr hb
  go_wp2_with fail
  go_ret3
  exact ⟨x, rfl, HR3.out, HB3.out⟩
end Go.Proofs.YtpjadgdimkdblaaDoor
