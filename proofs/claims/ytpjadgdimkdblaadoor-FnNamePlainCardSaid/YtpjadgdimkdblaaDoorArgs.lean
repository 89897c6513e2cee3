/- What goOf answers of a list, and goList of arguments among which lists of no lists may be. Walks; every world. -/
import Derived.Test.YtpjadgdimkdblaaDoorList
namespace Go.Proofs.YtpjadgdimkdblaaDoor
open Go.RowKit
set_option linter.unusedVariables false

/-- A value that is no list, as it is handed on. -/
def VRec.fl (x : VRec) : Value := ifaceOf x.k x.n x.t
theorem ifaceOf_form (k n : Int) (t : ByteArray) : ifaceOf k n t = .nilIface ∨ ∃ a x, ifaceOf k n t = .iface a x := by
  unfold ifaceOf
  split
  · exact .inl rfl
  · split
    · exact .inr ⟨_, _, rfl⟩
    · split
      · exact .inr ⟨_, _, rfl⟩
      · exact .inr ⟨_, _, rfl⟩
theorem ifaceOf_leads (k n : Int) (t : ByteArray) : leads (ifaceOf k n t) = none := by
  unfold ifaceOf
  split
  · rfl
  · split
    · rfl
    · split <;> rfl
/-- Of values that are no lists. -/
def QF (xs : List VRec) (i : Nat) (u : Value) (w : World) : Prop := u = (xs.getD i z0).fl
theorem says_flat (xs : List VRec) : Says (QF xs) :=
  ⟨fun i u w w' row h _ _ => h, fun i u w g h hl => by rw [h, VRec.fl, ifaceOf_leads] at hl; cases hl⟩
theorem goList_nil (A : Option Addr) (c : Nat) (deep : Int) (w : World) :
    Calls Tryd.prog 47 #[.slice A 0 c, .int .i64 deep] w fun e w' => e = .returned (.tuple #[.slice (some ⟨w.heap.size, 0, none⟩) 0 0, .bool true]) ∧ w.alloc (.cells #[] 20) = w' := by
  go_enter Tryd.func47, Tryd.ntmps47
  go_wp2
  go_loop [6, 14] (fun v i => v = .slice (some ⟨w.heap.size, 0, none⟩) 0 0 ∧ i = .int .i64 0) (fun _ _ => 0)
  case atStart => exact ⟨rfl, rfl⟩
  case round =>
    obtain ⟨rfl, rfl⟩ := hrel
    go_wp2
    go_ret2
    exact ⟨rfl, rfl⟩
/-- A list of no lists, wherever it lies: a row of the call's own with what each is. -/
def FlatOk (xs : List VRec) (w : World) (e : Ending) (w' : World) : Prop :=
  ∃ v, e = .returned (.tuple #[v, .bool true]) ∧ w'.ownsRow w.heap.size 20 1 v xs.length (xs.map VRec.fl) ∧ Below w.heap.size w w'
/-- Where the elements of a list lie. -/
def ListAt (w : World) (A : Option Addr) (xs : List VRec) : Prop :=
  xs = [] ∨ ∃ b off, A = some ⟨b, off, none⟩ ∧ b < w.heap.size ∧ ∀ i, i < xs.length → (xs.getD i z0).lies w b (off + i * 4)
theorem lies_below {B : Nat} {w w' : World} {b o : Nat} {x : VRec} (h : x.lies w b o) (hb : Below B w w') (hB : b < B) : x.lies w' b o :=
  ⟨(hb.cell (p := ⟨b, o, none⟩) hB).trans h.1, (hb.cell (p := ⟨b, o + 1, none⟩) hB).trans h.2.1, (hb.cell (p := ⟨b, o + 2, none⟩) hB).trans h.2.2.1, (hb.cell (p := ⟨b, o + 3, none⟩) hB).trans h.2.2.2⟩
theorem listAt_below {w w' : World} {A : Option Addr} {xs : List VRec} (h : ListAt w A xs) (hb : Below w.heap.size w w') : ListAt w' A xs := by
  rcases h with rfl | ⟨b, off, rfl, h1, h2⟩
  · exact .inl rfl
  · exact .inr ⟨b, off, rfl, Nat.lt_of_lt_of_le h1 hb.size, fun i hi => lies_below (h2 i hi) hb h1⟩
theorem goList_flat (A : Option Addr) (c : Nat) (deep : Int) (xs : List VRec) (w : World) (hm : xs.length ≤ 1000000) (hx : ListAt w A xs) (hk : ∀ i, i < xs.length → 0 ≤ (xs.getD i z0).k ∧ (xs.getD i z0).k ≤ 4) :
    Calls Tryd.prog 47 #[.slice A xs.length c, .int .i64 deep] w (FlatOk xs w) := by
  rcases hx with rfl | ⟨b, off, rfl, h1, h2⟩
  · refine (goList_nil A c deep w).mono ?_
    rintro e w' ⟨rfl, rfl⟩
    exact ⟨_, rfl, World.ownsRow_made w #[] 0 (Nat.le_refl _) (by decide) (by decide), (Below.refl _ _).alloc (Nat.le_refl _) _⟩
  · refine (goList_any (QF xs) (says_flat xs) b off xs.length c deep xs w rfl hm h1 h2 fun i hi w' hb => ?_).mono ?_
    · refine (goOf_flat _ _ _ _ _ _ deep w' (hk i hi).1 (hk i hi).2).mono ?_
      rintro e w2 ⟨rfl, hb2⟩
      exact ⟨_, rfl, ifaceOf_form _ _ _, rfl, hb2, fun g hg => by rw [ifaceOf_leads] at hg; cases hg⟩
    · rintro e w' ⟨v, us, rfl, hl, hr, hq, hb⟩
      have hus : us = xs.map VRec.fl := by
        apply List.ext_getElem?
        intro i
        rcases Nat.lt_or_ge i us.length with hi | hi
        · have h := (hq i us[i] (List.getElem?_eq_getElem hi)).1
          unfold QF at h
          rw [List.getElem?_eq_getElem hi, h, List.getElem?_map, List.getD_eq_getElem?_getD, List.getElem?_eq_getElem (by omega : i < xs.length)]
          rfl
        · rw [List.getElem?_eq_none hi, List.getElem?_eq_none (by rw [List.length_map]; omega)]
      subst hus
      exact ⟨v, rfl, hr, hb⟩
theorem ownsRow_base {w : World} {B B' : Nat} {e : TypeId} {size : Nat} {v : Value} {n : Nat} {xs : List Value} (h : w.ownsRow B e size v n xs) (hB : B' ≤ B) : w.ownsRow B' e size v n xs := by
  obtain ⟨h1, h2⟩ := h
  refine ⟨h1, ?_⟩
  rcases h2 with h2 | ⟨g, cap, cur, hv, hg, r⟩
  · exact .inl h2
  · exact .inr ⟨g, cap, cur, hv, by omega, r⟩
theorem ownsRow_form {w : World} {B : Nat} {e : TypeId} {size : Nat} {v : Value} {n : Nat} {xs : List Value} (h : w.ownsRow B e size v n xs) : ∃ a c, v = .slice a n c := by
  rcases h.2 with ⟨rfl, rfl⟩ | ⟨g, cap, cur, rfl, _⟩
  · exact ⟨_, _, rfl⟩
  · exact ⟨_, _, rfl⟩
/-- An argument: a value that is no list, or a list of such. -/
structure ARec where
  x : VRec
  ys : List VRec
def a0 : ARec := ⟨z0, []⟩
def ARec.ok (w : World) (a : ARec) : Prop :=
  (0 ≤ a.x.k ∧ a.x.k ≤ 4) ∨ (a.x.k = 5 ∧ a.x.m = a.ys.length ∧ a.ys.length ≤ 1000000 ∧ ListAt w a.x.A a.ys ∧ ∀ i, i < a.ys.length → 0 ≤ (a.ys.getD i z0).k ∧ (a.ys.getD i z0).k ≤ 4)
/-- What an argument is handed on gs. -/
def ARec.handed (B : Nat) (a : ARec) (u : Value) (w : World) : Prop :=
  if a.x.k = 5 then ∃ sv, u = .iface 71 sv ∧ w.ownsRow B 20 1 sv a.ys.length (a.ys.map VRec.fl) else u = a.x.fl
theorem leads_iface {sv : Value} {t : TypeId} : leads (.iface t sv) = sv.ownBlock := by
  cases sv <;> try rfl
  rename_i a b c
  cases a <;> rfl
theorem handed_form {B : Nat} {a : ARec} {u : Value} {w : World} (h : a.handed B u w) : u = .nilIface ∨ ∃ t x, u = .iface t x := by
  unfold ARec.handed at h
  split at h
  · obtain ⟨sv, rfl, _⟩ := h
    exact .inr ⟨_, _, rfl⟩
  · rw [h]; exact ifaceOf_form _ _ _
theorem handed_grown {B : Nat} {a : ARec} {u : Value} {w w' : World} {row : Option Nat} (h : a.handed B u w) (hg : w.grownBy w' row) (hne : leads u = none ∨ leads u ≠ row) : a.handed B u w' := by
  unfold ARec.handed at h ⊢
  by_cases h5 : a.x.k = 5
  · rw [if_pos h5] at h ⊢
    obtain ⟨sv, rfl, ho⟩ := h
    rw [leads_iface] at hne
    exact ⟨sv, rfl, ho.kept hg hne⟩
  · rw [if_neg h5] at h ⊢
    exact h
theorem handed_lt {B : Nat} {a : ARec} {u : Value} {w : World} {g : Nat} (h : a.handed B u w) (hl : leads u = some g) : B ≤ g ∧ g < w.heap.size := by
  unfold ARec.handed at h
  split at h
  · obtain ⟨sv, rfl, ho⟩ := h
    rw [leads_iface] at hl
    exact ho.lt g hl
  · rw [h, VRec.fl, ifaceOf_leads] at hl; cases hl
def QA (B : Nat) (gs : List ARec) (i : Nat) (u : Value) (w : World) : Prop := (gs.getD i a0).handed B u w
theorem says_args (B : Nat) (gs : List ARec) : Says (QA B gs) :=
  ⟨fun i u w w' row h hg hne => handed_grown h hg hne, fun i u w g h hl => (handed_lt h hl).2⟩

set_option maxHeartbeats 1000000 in
theorem goOf_list (n : Int) (t : ByteArray) (A : Option Addr) (c : Nat) (xs : List VRec) (w : World) (hm : xs.length ≤ 1000000) (hx : ListAt w A xs) (hk : ∀ i, i < xs.length → 0 ≤ (xs.getD i z0).k ∧ (xs.getD i z0).k ≤ 4) :
    Calls Tryd.prog 44 #[.agg #[.int .i64 5, .int .i64 n, .string t, .slice A xs.length c], .int .i64 0] w fun e w' =>
      Hid (∃ sv, e = .returned (.tuple #[.iface 71 sv, .bool true]) ∧ w'.ownsRow w.heap.size 20 1 sv xs.length (xs.map VRec.fl) ∧ Below w.heap.size w w') := by
  have HX := Lib.hid hx
  have HK := Lib.hid hk
  clear hx hk
  go_enter Tryd.func44, Tryd.ntmps44
  go_wp2_with fail
  refine (goList_flat A c 1 xs _ hm (listAt_below HX.out ((Below.refl _ _).alloc (Nat.le_refl _) _)) HK.out).mono ?_
  rintro e w1 ⟨sv, rfl, hr, hb⟩
  have HR := Lib.hid (ownsRow_base hr (show w.heap.size ≤ _ by simp))
  have HB := Lib.hid (((Below.refl w.heap.size w).alloc (Nat.le_refl _) _).trans (hb.mono (by simp)))
  have hc := hb.cell (p := ⟨w.heap.size, 0, none⟩) (by simp)
  clear hr hb
  go_wp2
  go_ret2
  exact Lib.hid ⟨sv, rfl, HR.out, HB.out⟩
theorem goOf_arg (B : Nat) (gs : List ARec) (i : Nat) (w0 w : World) (hok : (gs.getD i a0).ok w0) (hb : Below w0.heap.size w0 w) (hB : B ≤ w.heap.size) :
    Calls Tryd.prog 44 #[(gs.getD i a0).x.agg, .int .i64 0] w (GoneOk (QA B gs) i w) := by
  unfold GoneOk QA
  generalize gs.getD i a0 = a at hok
  rcases hok with ⟨h0, h4⟩ | ⟨h5, hm, hl, hx, hk⟩
  · refine (goOf_flat _ _ _ _ _ _ 0 w h0 h4).mono ?_
    rintro e w2 ⟨rfl, hb2⟩
    refine ⟨_, rfl, ifaceOf_form _ _ _, ?_, hb2, fun g hg => by rw [ifaceOf_leads] at hg; cases hg⟩
    unfold ARec.handed
    rw [if_neg (by omega)]
    rfl
  · have := goOf_list a.x.n a.x.t a.x.A a.x.c a.ys w hl (listAt_below hx hb) hk
    unfold VRec.agg
    rw [h5, hm]
    refine this.mono ?_
    rintro e w2 h
    obtain ⟨sv, rfl, hr, hb2⟩ := h.out
    refine ⟨_, rfl, .inr ⟨_, _, rfl⟩, ?_, hb2, fun g hg => by rw [leads_iface] at hg; exact (hr.lt g hg).1⟩
    unfold ARec.handed
    rw [if_pos h5]
    exact ⟨sv, rfl, ownsRow_base hr hB⟩
/-- Arguments, as goList hands them on. -/
def HandedOk (gs : List ARec) (w : World) (e : Ending) (w' : World) : Prop :=
  ∃ v us, e = .returned (.tuple #[v, .bool true]) ∧ us.length = gs.length ∧ w'.ownsRow w.heap.size 20 1 v gs.length us ∧ (∀ i u, us[i]? = some u → (gs.getD i a0).handed w.heap.size u w' ∧ (leads u = none ∨ leads u ≠ v.ownBlock)) ∧ Below w.heap.size w w'
theorem goList_args (A : Option Addr) (c : Nat) (gs : List ARec) (w : World) (hm : gs.length ≤ 1000000) (hx : ListAt w A (gs.map ARec.x)) (hok : ∀ i, i < gs.length → (gs.getD i a0).ok w) :
    Calls Tryd.prog 47 #[.slice A gs.length c, .int .i64 0] w (HandedOk gs w) := by
  rcases hx with hn | ⟨b, off, rfl, h1, h2⟩
  · obtain rfl : gs = [] := by simpa using hn
    refine (goList_nil A c 0 w).mono ?_
    rintro e w' ⟨rfl, rfl⟩
    exact ⟨_, [], rfl, rfl, World.ownsRow_made w #[] 0 (Nat.le_refl _) (by decide) (by decide), fun i u h => by simp at h, (Below.refl _ _).alloc (Nat.le_refl _) _⟩
  · have hx : ∀ i, (gs.map ARec.x).getD i z0 = (gs.getD i a0).x := by
      intro i
      rw [List.getD_eq_getElem?_getD, List.getD_eq_getElem?_getD, List.getElem?_map]
      cases gs[i]? <;> rfl
    refine (goList_any (QA w.heap.size gs) (says_args _ gs) b off gs.length c 0 (gs.map ARec.x) w (by simp) hm h1 (fun i hi => h2 i (by simpa using hi)) fun i hi w' hb => ?_).mono ?_
    · rw [hx i]
      exact goOf_arg w.heap.size gs i w w' (hok i hi) hb hb.size
    · rintro e w' ⟨v, us, rfl, hl, hr, hq, hb⟩
      exact ⟨v, us, rfl, hl, hr, hq, hb⟩
end Go.Proofs.YtpjadgdimkdblaaDoor
