/- Expanded: the text and the values as inSpec says. A walk; every world. -/
import Derived.Test.YtpjadgdimkdblaaDoorIn
import Derived.Test.YtpjadgdimkdblaaDoorValues
namespace Go.Proofs.YtpjadgdimkdblaaDoor
open Go.RowKit
set_option linter.unusedVariables false

def flatk (x : VRec) : Prop := 0 ≤ x.k ∧ x.k ≤ 4
theorem ex_all {P : VRec → Prop} : ∀ (q : List UInt8) (gs : List ARec), (∀ a ∈ gs, ∀ x ∈ vals a, P x) → ∀ t vs, ex q gs = some (t, vs) → ∀ x ∈ vs, P x
  | [], [], _, t, vs, h => by simp [ex] at h; obtain ⟨rfl, rfl⟩ := h; simp
  | [], a :: r, _, t, vs, h => by simp [ex] at h
  | c :: l, gs, hp, t, vs, h => by
    by_cases hc : (c.toNat : Int) = 63
    · cases gs with
      | nil => simp [ex, hc] at h
      | cons a r =>
        simp only [ex, if_pos hc] at h
        obtain ⟨⟨t2, vs2⟩, h2, h3⟩ := Option.map_eq_some_iff.1 h
        obtain ⟨rfl, rfl⟩ := Prod.mk.inj h3
        intro x hx
        rcases List.mem_append.1 hx with hx | hx
        · exact hp a (by simp) x hx
        · exact ex_all l r (fun a ha => hp a (by simp [ha])) _ _ h2 x hx
    · rw [ex_none c l gs hc] at h
      obtain ⟨⟨t2, vs2⟩, h2, h3⟩ := Option.map_eq_some_iff.1 h
      obtain ⟨rfl, rfl⟩ := Prod.mk.inj h3
      exact ex_all l gs hp _ _ h2
theorem spec_all {P : VRec → Prop} {q : List UInt8} {gs : List ARec} (hp : ∀ a ∈ gs, ∀ x ∈ vals a, P x) {t : List UInt8} {vs : List VRec} (h : inSpec q gs = some (t, vs)) : ∀ x ∈ vs, P x := by
  unfold inSpec at h
  split at h
  · cases h
  · split at h
    · exact ex_all q gs hp t vs h
    · rename_i h1 h2
      injection h with h
      obtain ⟨rfl, rfl⟩ := Prod.mk.inj h
      intro x hx
      obtain ⟨a, ha, rfl⟩ := List.mem_map.1 hx
      refine hp a ha _ ?_
      unfold vals
      rw [if_neg]
      · simp
      · intro h5
        refine h2 (List.any_eq_true.2 ⟨a, ha, ?_⟩)
        unfold isL
        simpa using h5
theorem ok_vals {w : World} {a : ARec} (h : a.ok w) : ∀ x ∈ vals a, flatk x := by
  unfold vals
  rcases h with h | ⟨h5, _, _, _, h⟩
  · rw [if_neg (by omega)]
    intro x hx
    simp at hx
    subst hx
    exact h
  · rw [if_pos h5]
    intro x hx
    obtain ⟨i, hi, rfl⟩ := List.getElem_of_mem hx
    have := h i hi
    rwa [List.getD_eq_getElem?_getD, List.getElem?_eq_getElem hi] at this
/-- What Expanded answers. -/
def ExpOk (q : ByteArray) (gs : List ARec) (w : World) (e : Ending) (w' : World) : Prop :=
  match inSpec q.data.toList gs with
  | none => e = .returned (.tuple #[.string ⟨#[]⟩, .slice none 0 0, .bool false]) ∧ Below w.heap.size w w'
  | some p => ∃ v, e = .returned (.tuple #[.string ⟨p.1.toArray⟩, v, .bool true]) ∧ w'.ownsRow w.heap.size 34 4 v p.2.length (backs p.2) ∧ Below w.heap.size w w'
theorem getD_mem {gs : List ARec} {i : Nat} (h : i < gs.length) : gs.getD i a0 ∈ gs := by
  rw [List.getD_eq_getElem?_getD, List.getElem?_eq_getElem h]
  exact List.getElem_mem h
theorem expOk_none {q : ByteArray} {gs : List ARec} {w w' : World} {e : Ending} (h : inSpec q.data.toList gs = none) (he : e = .returned (.tuple #[.string ⟨#[]⟩, .slice none 0 0, .bool false])) (hb : Below w.heap.size w w') : ExpOk q gs w e w' := by unfold ExpOk; rw [h]; exact ⟨he, hb⟩
theorem expOk_some {q : ByteArray} {gs : List ARec} {w w' : World} {e : Ending} {t : List UInt8} {vs : List VRec} (h : inSpec q.data.toList gs = some (t, vs)) (v : Value) (he : e = .returned (.tuple #[.string ⟨t.toArray⟩, v, .bool true])) (hr : w'.ownsRow w.heap.size 34 4 v vs.length (backs vs)) (hb : Below w.heap.size w w') : ExpOk q gs w e w' := by unfold ExpOk; rw [h]; exact ⟨v, he, hr, hb⟩
set_option maxHeartbeats 1000000 in
set_option maxRecDepth 100000 in
theorem expanded_any (q : ByteArray) (A : Option Addr) (n c : Nat) (gs : List ARec) (w : World) (hn : gs.length = n) (hf : n ≤ 32) (hx : ListAt w A (gs.map ARec.x)) (hok : ∀ a ∈ gs, a.ok w) (hsm : ∀ a ∈ gs, a.ys.length ≤ 1000000) (hq : q.size ≤ 1000000000) (hlen : ∀ t vs, inSpec q.data.toList gs = some (t, vs) → vs.length ≤ 1000000) :
    Calls Tryd.prog 40 #[.string q, .slice A n c] w (ExpOk q gs w) := by
  subst hn
  have HX := Lib.hid hx
  have HK := Lib.hid hok
  have HL := Lib.hid hlen
  have HS := Lib.hid hsm
  clear hx hok hlen hsm
  go_enter Tryd.func40, Tryd.ntmps40
  go_wp2_with fail
  refine (goList_args A c gs _ (by omega) HX.out (fun i hi => HK.out _ (getD_mem hi))).mono ?_
  rintro e w1 ⟨v, us, rfl, hul, hown, hh, hb⟩
  obtain ⟨a, c1, rfl⟩ := ownsRow_form hown
  have HI : Hid (InArgs a gs.length us gs w.heap.size w1) := by
    refine Lib.hid ⟨hf, rfl, hul, fun i hi => by
      obtain ⟨g, cap, hv, hg, hc⟩ := own_cell hown i hi
      injection hv with hv
      exact ⟨g, hv, hg, hc⟩, fun i hi => ?_, fun i hi => ?_, fun i hi => HS.out _ (getD_mem hi)⟩
    · have hi2 : i < us.length := by omega
      rw [List.getD_eq_getElem?_getD (l := us), List.getElem?_eq_getElem hi2]
      exact (hh i us[i] (List.getElem?_eq_getElem hi2)).1
    · rcases HK.out _ (getD_mem hi) with h | h <;> omega
  have HB := Lib.hid hb
  clear hown hh hb hul
  go_wp2_with fail
  refine (in_any q a gs.length c1 us gs w.heap.size _ HI.out hq).mono ?_
  rintro e w2 hin
  have HIN := Lib.hid hin
  clear hin
  have hin := HIN.out
  unfold InOk at hin
  cases hs : inSpec q.data.toList gs with
  | none =>
    rw [hs] at hin
    obtain ⟨t, x, rfl, hb2⟩ := hin
    have HB2 := Lib.hid (HB.out.trans (hb2.mono HB.out.size))
    have HSP := Lib.hid hs
    clear hb2 hs
    go_wp2
    go_ret3
    exact expOk_none HSP.out rfl HB2.out
  | some p =>
    rw [hs] at hin
    obtain ⟨t, vs⟩ := p
    obtain ⟨sv, rfl, hrow, hb2⟩ := hin
    obtain ⟨A2, c2, rfl, hcells⟩ := hrow
    have HB2 := Lib.hid (HB.out.trans (hb2.mono HB.out.size))
    have HSP := Lib.hid hs
    have hfl := spec_all (fun a ha => ok_vals (HK.out a ha)) hs
    have HFL := Lib.hid hfl
    have HC := Lib.hid hcells
    have hvl := HL.out t vs hs
    clear hb2 hs hfl hcells
    go_wp2_with fail
    refine (valuesOf_flat A2 vs.length c2 vs _ rfl hvl (fun i hi => ?_) (fun i hi => ?_)).mono ?_
    · obtain ⟨g, rfl, hg, hc⟩ := HC.out i hi
      exact ⟨g, rfl, hg, hc⟩
    · refine HFL.out _ ?_
      rw [List.getD_eq_getElem?_getD, List.getElem?_eq_getElem hi]
      exact List.getElem_mem hi
    · rintro e w3 ⟨v3, rfl, hr3, hb3⟩
      have HR3 := Lib.hid (ownsRow_base hr3 HB2.out.size)
      have HB3 := Lib.hid (HB2.out.trans (hb3.mono HB2.out.size))
      clear hr3 hb3
      go_wp2
      go_ret3
      exact expOk_some HSP.out v3 rfl HR3.out HB3.out
end Go.Proofs.YtpjadgdimkdblaaDoor
