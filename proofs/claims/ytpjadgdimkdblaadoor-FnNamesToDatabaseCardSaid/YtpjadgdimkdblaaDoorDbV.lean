/- What FnNamesToDatabase asks of valuesOf, in9, Expanded and Rebound. Every world. -/
import Derived.Test.YtpjadgdimkdblaaDoorDbL
import Derived.Laws.AppendOwnNone
import Derived.Maps.AppendAt
import Derived.Deep.RegionLaw
namespace Go.Proofs.YtpjadgdimkdblaaDoor
open Go.RowKit
set_option linter.unusedVariables false

theorem rebound_any (q : ByteArray) (k : Int) (sg : List UInt8) (w : World) (hk : (k = 2 ∧ sg = [36]) ∨ (k = 3 ∧ sg = [58, 97, 114, 103]) ∨ (k = 4 ∧ sg = [64, 112])) (hq : q.size ≤ 100000) (hc : cntQ q.data.toList ≤ 99) :
    Calls Tryd.prog 33 #[.int .i64 k, .string q] w fun e w' => e = .returned (.string ⟨(rebL sg q.data.toList 0).toArray⟩) ∧ Below w.heap.size w w' := by
  go_enter Tryd.func33, Tryd.ntmps33
  go_wp2_with fail
  refine (reb_any q k sg _ hk hq hc).mono ?_
  rintro e w' ⟨rfl, hb⟩
  go_wp2
  go_ret
  exact ⟨rfl, hb⟩
theorem in9_any (q : ByteArray) (A : Option Addr) (n c : Nat) (gs : List ARec) (t : List UInt8) (vs : List VRec) (w : World) (hn : gs.length = n) (hf : n ≤ 32) (hx : ListAt w A (gs.map ARec.x)) (hok : ∀ a ∈ gs, a.ok w) (hsm : ∀ a ∈ gs, a.ys.length ≤ 1000000) (hq : q.size ≤ 1000000000) (hs : inSpec q.data.toList gs = some (t, vs)) (hlen : vs.length ≤ 1000000) :
    Calls Tryd.prog 32 #[.string q, .slice A n c, .bool true] w fun e w' => ∃ v, e = .returned (.tuple #[.string ⟨t.toArray⟩, v, .bool true]) ∧ w'.ownsRow w.heap.size 34 4 v vs.length (backs vs) ∧ Below w.heap.size w w' := by
  have HX := Lib.hid hx
  have HK := Lib.hid hok
  have HS := Lib.hid hsm
  have HSP := Lib.hid hs
  clear hx hok hsm hs
  go_enter Tryd.func32, Tryd.ntmps32
  go_wp2_with fail
  refine (expanded_any q A n c gs _ hn hf HX.out HK.out HS.out hq (fun t2 vs2 h => ?_)).mono ?_
  · rw [HSP.out] at h
    injection h with h
    obtain ⟨_, rfl⟩ := Prod.mk.inj h
    exact hlen
  rintro e w3 he
  obtain ⟨v, rfl, hown, hb3⟩ := exp_some HSP.out he
  have HO := Lib.hid hown
  have HB := Lib.hid hb3
  clear he hown hb3
  go_wp2_with fail
  go_ret3
  exact ⟨v, rfl, HO.out, HB.out⟩
/-- What comes back of one value, a list and the value again. -/
def ThreeBack (B : Nat) (a l : ARec) (x : Value) (w : World) : Prop :=
  ∃ r0 r1 r2 : VRec, w.ownsRow B 34 4 x 3 (cellsR [r0, r1, r2]) ∧ backOf B a r0 w ∧ backOf B l r1 w ∧ backOf B a r2 w
theorem says_three (g0 g1 : NRec) (w : World) (h0 : g0.a.taken) (h1 : g1.a.taken) : ValsSay [g0, g1] (fun us => [us.getD 1 .nilIface, us.getD 0 .nilIface, us.getD 1 .nilIface]) (ThreeBack w.heap.size g1.a g0.a) w := by
  intro us v wv hl hh ho hb
  obtain ⟨A, c, rfl, hc⟩ := row_cells1 ho rfl
  have e0 : us[0]? = some (us.getD 0 .nilIface) := by
    rw [List.getD_eq_getElem?_getD, List.getElem?_eq_getElem (by rw [hl]; simp)]
    rfl
  have e1 : us[1]? = some (us.getD 1 .nilIface) := by
    rw [List.getD_eq_getElem?_getD, List.getElem?_eq_getElem (by rw [hl]; simp)]
    rfl
  have hu0 := hh 0 _ e0
  have hu1 := hh 1 _ e1
  refine (valuesOf_args w.heap.size A 3 c [g1.a, g0.a, g1.a] [us.getD 1 .nilIface, us.getD 0 .nilIface, us.getD 1 .nilIface] wv rfl (by omega) hc (fun i hi => ?_) (fun i hi => ?_)).mono ?_
  · have : i = 0 ∨ i = 1 ∨ i = 2 := by omega
    rcases this with rfl | rfl | rfl
    · exact hu1
    · exact hu0
    · exact hu1
  · have : i = 0 ∨ i = 1 ∨ i = 2 := by omega
    rcases this with rfl | rfl | rfl
    · exact h1
    · exact h0
    · exact h1
  · rintro e w' ⟨x, rs, rfl, hs⟩
    obtain ⟨q1, q2, q3, q4⟩ := hs
    match rs, q1 with
    | [r0, r1, r2], _ =>
      refine ⟨x, rfl, ⟨r0, r1, r2, ownsRow_down q2 hb.size, backOf_base (q3 0 r0 rfl).1 hb.size, backOf_base (q3 1 r1 rfl).1 hb.size, backOf_base (q3 2 r2 rfl).1 hb.size⟩, q4⟩
/-- What came back as arguments of In. -/
theorem three_args {B : Nat} {a : ARec} {A : Option Addr} {n c : Nat} {xs : List VRec} {x : Value} {w : World} (h : ThreeBack B a (lrec A n c xs) x w) (ha : ¬ a.x.k = 5) (hn : xs.length ≤ 1000000) (hf : ∀ i, i < xs.length → flatk (xs.getD i z0)) (hfa : flatk a.x) :
    ∃ (P : Option Addr) (c3 : Nat) (r1 : VRec), x = .slice P 3 c3 ∧ r1.k = 5 ∧ ListAt w P ([⟨a.x.back, []⟩, ⟨r1, xs.map VRec.back⟩, ⟨a.x.back, []⟩].map ARec.x) ∧ ∀ g ∈ [(⟨a.x.back, []⟩ : ARec), ⟨r1, xs.map VRec.back⟩, ⟨a.x.back, []⟩], g.ok w := by
  obtain ⟨r0, r1, r2, ho, h0, h1, h2⟩ := h
  unfold backOf at h0 h1 h2
  rw [if_neg ha] at h0 h2
  rw [if_pos (show (lrec A n c xs).x.k = 5 from rfl)] at h1
  subst h0 h2
  obtain ⟨k1, _, _, ho1⟩ := h1
  obtain ⟨P, c3, rfl, hl⟩ := listAt_own ho rfl
  rw [backs_cells] at ho1
  obtain ⟨P1, c1, hv, hl1⟩ := listAt_own ho1 (by rw [List.length_map])
  obtain ⟨e1, e2, e3⟩ : r1.A = P1 ∧ r1.m = (lrec A n c xs).ys.length ∧ r1.c = c1 := by simpa using hv
  refine ⟨P, c3, r1, rfl, k1, hl, fun g hg => ?_⟩
  have hb : ARec.ok w ⟨a.x.back, []⟩ := .inl hfa
  simp only [List.mem_cons, List.not_mem_nil, or_false] at hg
  rcases hg with rfl | rfl | rfl
  · exact hb
  · refine .inr ⟨k1, by rw [e2, List.length_map]; rfl, by rw [List.length_map]; exact hn, by rw [e1]; exact hl1, fun i hi => ?_⟩
    rw [List.length_map] at hi
    rw [getD_map_back xs i hi]
    exact hf i hi
  · exact hb
/-- The values that come back of all, as those of the arguments. -/
theorem three_backs (x : VRec) (xs : List VRec) : backs (x.back :: (xs.map VRec.back ++ [x.back])) = backs (x :: (xs ++ [x])) := by
  have := backs_back (x :: (xs ++ [x]))
  simpa using this
theorem right_three {x : VRec} {xs : List VRec} (hx : x.right) (h : ∀ i, i < xs.length → (xs.getD i z0).right) : ∀ i, i < xs.length + 2 → ((x :: (xs ++ [x])).getD i z0).right := by
  intro i hi
  rcases i with _ | i
  · exact hx
  · rw [List.getD_cons_succ, List.getD_eq_getElem?_getD]
    rcases Nat.lt_or_ge i xs.length with h1 | h1
    · rw [List.getElem?_append_left h1, ← List.getD_eq_getElem?_getD]
      exact h i h1
    · have : i - xs.length = 0 := by omega
      rw [List.getElem?_append_right h1, this]
      exact hx
theorem db_found {one two : ByteArray} (h1 : NameOk one) (h2 : NameOk two) (hne : one ≠ two) {q : ByteArray} (hq : q.data.toList = textD one.data.toList two.data.toList) (g0 g1 : ARec) (us : List Value) (hl : us.length = ([⟨two, g0⟩, ⟨one, g1⟩] : List NRec).length)
    (hf : ∀ i, i < ([⟨two, g0⟩, ⟨one, g1⟩] : List NRec).length → oneForm (us.getD i .nilIface)) :
    Found 1 q (markD 0) [one.data.toList, two.data.toList, one.data.toList] (pairs [⟨two, g0⟩, ⟨one, g1⟩] us) [us.getD 1 .nilIface, us.getD 0 .nilIface, us.getD 1 .nilIface] := by
  have a1 := h1.2.2.2
  have a2 := h2.2.2.2
  have n1 : ¬ one.data.toList = two.data.toList := fun e => hne (ext_list e)
  match us, hl with
  | [u0, u1], _ =>
    have f0 := hf 0 (by simp)
    have f1 := hf 1 (by simp)
    refine ⟨by rw [hq, d_cn h1 h2], rfl, by simp, fun i hi => ?_, fun i hi => ?_, fun i hi => ?_⟩ <;>
      (have : i = 0 ∨ i = 1 ∨ i = 2 := by simp at hi; omega)
    · unfold maxLen
      rcases this with rfl | rfl | rfl
      · show one.data.toList.length ≤ _; rw [size_list]; omega
      · show two.data.toList.length ≤ _; rw [size_list]; omega
      · show one.data.toList.length ≤ _; rw [size_list]; omega
    · rcases this with rfl | rfl | rfl
      · simp [pairs, lookN]
      · simp [pairs, lookN, n1]
      · simp [pairs, lookN]
    · rcases this with rfl | rfl | rfl
      · exact f1
      · exact f0
      · exact f1
end Go.Proofs.YtpjadgdimkdblaaDoor
