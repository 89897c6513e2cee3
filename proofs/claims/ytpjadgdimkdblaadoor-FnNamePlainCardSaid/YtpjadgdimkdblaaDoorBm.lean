/- bindMapArgs walked: the values of names, out of a map that has them all. Every world. -/
import Derived.Test.YtpjadgdimkdblaaDoorMap
import Derived.Test.YtpjadgdimkdblaaDoorCmp
namespace Go.Proofs.YtpjadgdimkdblaaDoor
open Go.RowKit Go.Maps
set_option linter.unusedVariables false

theorem held_eq {v u : Value} {D : DataW Value} {ps : List MemPlace} (hv : RV v = some (D, ps)) (hD : D = .held u) : v = u := by
  subst hD
  unfold RV at hv
  simpa using congrArg (Option.map Prod.fst) hv
def oneForm (u : Value) : Prop := u = .nilIface ∨ ∃ t x, u = .iface t x
theorem take_snoc' {us : List Value} {k : Nat} (h : k < us.length) (d : Value) : us.take (k + 1) = us.take k ++ [us.getD k d] := by
  rw [List.take_add_one, List.getD_eq_getElem?_getD, List.getElem?_eq_getElem h]
  rfl
/-- What bindMapArgs answers where every name is found. -/
def BmOk (us : List Value) (w : World) (e : Ending) (w' : World) : Prop :=
  ∃ v, e = .returned (.tuple #[v, .nilIface]) ∧ w'.ownsRow w.heap.size 20 1 v us.length us ∧ Below w.heap.size w w'
set_option maxHeartbeats 1000000 in
theorem bm_none (A : Option Addr) (c b : Nat) (w : World) : Calls Tryd.prog 63 #[.slice A 0 c, .map (some b)] w (BmOk [] w) := by
  obtain ⟨i0, hi0, hz0, hz1, hz2⟩ := info_parts Tryd.infoIface
  go_enter Tryd.func63, Tryd.ntmps63
  go_wp2_with (at_make; refine wpList_make_own _ rfl _ _ 71 rfl w.heap.size 20 i0 .nilIface 1 Tryd.underlying71 hi0 hz0 hz1 .i64 .i64 _ 0 rfl rfl rfl (by rw [hz2]; omega) (by unfold maxLen; omega) (by simp) ?_; intro w1 hown1 hg1; refine Hid.out ?_)
  refine Lib.hid ?_
  generalize (Value.slice (some _) 0 0) = sv at hown1 ⊢
  have HO := Lib.hid hown1
  have HG := Lib.hid hg1
  clear hown1 hg1
  go_wp2
  go_loop [6, 16] (fun v i => v = sv ∧ i = .int .i64 0) (fun _ _ => 0)
  case atStart => exact ⟨rfl, rfl⟩
  case round =>
    obtain ⟨rfl, rfl⟩ := hrel
    go_wp2
    go_ret2
    exact ⟨_, rfl, HO.out, (Below.refl _ _).grown HG.out (Nat.le_refl _) (fun k hk => by cases hk)⟩

set_option maxHeartbeats 2000000 in
set_option maxRecDepth 100000 in
theorem bm_any (g n c b m : Nat) (ns : List ByteArray) (l : List (ByteArray × Value)) (us : List Value) (w : World) (hn : us.length = n) (hm : n ≤ 100000) (hg : g < w.heap.size) (hcell : ∀ i, i < n → w.cell? ⟨g, i, none⟩ = some (.string (ns.getD i ByteArray.empty)))
    (hs : ∀ i, i < n → (ns.getD i ByteArray.empty).size ≤ maxLen) (hmap : w.ownsMap Tryd.prog 9 RV b m (mapD l)) (hl : ∀ i, i < n → lookN l (ns.getD i ByteArray.empty) = some (us.getD i .nilIface)) (hf : ∀ i, i < n → oneForm (us.getD i .nilIface)) :
    Calls Tryd.prog 63 #[.slice (some ⟨g, 0, none⟩) n c, .map (some b)] w (BmOk us w) := by
  obtain ⟨i0, hi0, hz0, hz1, hz2⟩ := info_parts Tryd.infoIface
  have HC := Lib.hid hcell
  have HSZ := Lib.hid hs
  have HM := Lib.hid hmap
  have HL := Lib.hid hl
  have HF := Lib.hid hf
  have HN := Lib.hid hn
  clear hcell hs hmap hl hf hn
  go_enter Tryd.func63, Tryd.ntmps63
  go_wp2_with (at_make; refine wpList_make_own _ rfl _ _ 71 rfl w.heap.size 20 i0 .nilIface 1 Tryd.underlying71 hi0 hz0 hz1 .i64 .i64 _ n rfl rfl rfl (by rw [hz2]; omega) (by unfold maxLen; omega) (by simp) ?_; intro w1 hown1 hg1; refine Hid.out ?_)
  refine Lib.hid ?_
  generalize (Value.slice (some _) 0 n) = sv at hown1 ⊢
  have HO := Lib.hid hown1
  have HB1 := Lib.hid ((Below.refl w.heap.size w).grown hg1 (Nat.le_refl _) (fun k hk => by cases hk))
  clear hown1 hg1
  go_wp2
  go_loopw [6, 16] (fun v i wr => ∃ (k : Nat), k ≤ n ∧ i = .int .i64 k ∧ Hid (wr.ownsRow w.heap.size 20 1 v k (us.take k) ∧ Below w.heap.size w wr)) (fun _ i _ => n - (intOf i).toNat)
  case atStart => exact ⟨0, Nat.zero_le _, rfl, Lib.hid ⟨by simpa using HO.out, HB1.out⟩⟩
  case round =>
    obtain ⟨k, hk, rfl, HS⟩ := hrel
    clear HO HB1
    have hsz := HS.out.2.size
    have h0 : (0 : Int) ≤ k := by omega
    by_cases hlt : k < n
    · have hkn : (k : Int) < n := by omega
      have d0 := (HS.out.2.cell (p := ⟨g, k, none⟩) hg).trans (HC.out k hlt)
      have HMr := Lib.hid (HM.out.kept (grown_none HS.out.2) (by simp))
      have hat := (look_some (HL.out k hlt)).2
      have hhas := (look_some (HL.out k hlt)).1
      have hf := HF.out k hlt
      have HT := Lib.hid (take_snoc' (us := us) (k := k) (by have := HN.out; omega) .nilIface)
      have HZ := Lib.hid (HSZ.out k hlt)
      generalize ns.getD k ByteArray.empty = nm at d0 hat hhas HZ
      generalize us.getD k .nilIface = u at hat hf HT
      have HAT := Lib.hid hat
      have HHAS := Lib.hid hhas
      clear hat hhas
      rcases hf with rfl | ⟨t, x, rfl⟩
      all_goals
        go_wp2_with (at_lookup; refine wpList_lookup_own_ok _ rfl _ _ 72 rfl 9 20 lawS Tryd.underlying72 RV (zeroI _) (.held .nilIface) [] rfl b m _ rfl HMr.out _ _ rfl (keyS _ HZ.out) ?_; intro v ps hv; rw [HHAS.out]; obtain rfl := held_eq hv (HAT.out _); clear hv; refine Hid.out ?_)
        refine Lib.hid ?_
        go_wp2_with (at_builtin; refine wpList_append_own_at _ rfl _ _ 71 rfl w.heap.size 20 i0 .nilIface 1 16 Tryd.underlying71 hi0 hz0 hz1 hz2 rfl (by decide) _ k _ rfl (HS.out.1.alloc _) ⟨wr.heap.size, 0, none⟩ 1 1 [_] rfl rfl (cell_one_new _ _ _) (by intro z hz; simp at hz; subst hz; rfl) (by unfold maxLen; omega) (by omega) (by simp; omega) ?_; intro v2 w2 hown2 hg2 _ hat2; refine Hid.out ?_)
        refine Lib.hid ?_
        have HS2 := Lib.hid (show w2.ownsRow w.heap.size 20 1 v2 (k + 1) (us.take (k + 1)) ∧ Below w.heap.size w w2 from ⟨by rw [HT.out]; exact hown2, (HS.out.2.alloc hsz _).grown hg2 (by simp; omega) (fun j hj => (HS.out.1.lt j hj).1)⟩)
        clear hown2 hg2 hat2
        go_wp2
        go_roundw
        case rel => exact ⟨k + 1, by omega, by go_num, HS2⟩
        case measure => simp [intOf]; omega
    · obtain rfl : k = n := by omega
      go_wp2
      go_ret2
      obtain ⟨h1, h2⟩ := HS.out
      rw [List.take_of_length_le (by have := HN.out; omega)] at h1
      exact ⟨_, rfl, by rw [HN.out]; exact h1, h2⟩
/-- .. of names in a row of a call's own. -/
theorem bm_row (B : Nat) (sv : Value) (b m : Nat) (ns : List ByteArray) (l : List (ByteArray × Value)) (us : List Value) (w : World) (hn : us.length = ns.length) (hm : ns.length ≤ 100000) (hrow : w.ownsRow B 9 1 sv ns.length (ns.map .string))
    (hs : ∀ i, i < ns.length → (ns.getD i ByteArray.empty).size ≤ maxLen) (hmap : w.ownsMap Tryd.prog 9 RV b m (mapD l)) (hl : ∀ i, i < ns.length → lookN l (ns.getD i ByteArray.empty) = some (us.getD i .nilIface)) (hf : ∀ i, i < ns.length → oneForm (us.getD i .nilIface)) :
    Calls Tryd.prog 63 #[sv, .map (some b)] w (BmOk us w) := by
  rcases Nat.eq_zero_or_pos ns.length with h0 | h0
  · obtain rfl : us = [] := by apply List.length_eq_zero_iff.1; omega
    obtain ⟨a, c, rfl⟩ := ownsRow_form hrow
    rw [h0]
    exact bm_none a c b w
  · obtain ⟨g, cap, rfl⟩ : ∃ g cap, sv = .slice (some ⟨g, 0, none⟩) ns.length cap := by
      rcases hrow.2 with ⟨_, h1⟩ | ⟨g, cap, cur, hv, _⟩
      · omega
      · exact ⟨g, cap, hv⟩
    refine bm_any g ns.length cap b m ns l us w hn hm (hrow.lt g rfl).2 (fun i hi => ?_) hs hmap hl hf
    have h := hrow.cells (g := g) rfl i (.string (ns.getD i ByteArray.empty)) (by rw [List.getElem?_map, List.getD_eq_getElem?_getD, List.getElem?_eq_getElem hi]; rfl)
    have hadd : (⟨g, 0, none⟩ : Addr).add i = ⟨g, i, none⟩ := by unfold Addr.add; simp; exact fun e => e.symm
    rw [hadd] at h
    exact h
end Go.Proofs.YtpjadgdimkdblaaDoor
