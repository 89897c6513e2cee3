/- What goOf answers of a value that is no list, and asSliceForIn of what it answered. Walks; every world. What goList answers of values: a row of the call's own that holds what goOf answers of each. A walk; every world. What goOf answers of a list, and goList of arguments among which lists of no lists may be. Walks; every world. The cells of a value, and what comes back of one that is no list. No walk. appendReflectSlice walked: the elements of a list behind a row of the call's own. What In answers, in plain words: the text with each list's question mark spread, and the values in order. No walk. -/
import Derived.Test.YtpjadgdimkdblaaDoorProg
import Derived.Test.YtpjadgdimkdblaaDoorWords
import Derived.Lib.Repeat
namespace Go.Proofs.YtpjadgdimkdblaaDoor
open Go.RowKit
set_option linter.unusedVariables false

/-- A value that is no list, as goOf hands it on. -/
def ifaceOf (k n : Int) (t : ByteArray) : Value :=
  if k = 0 then .nilIface else if k = 1 then .iface 2 (.int .i64 n) else if k = 2 then .iface 9 (.string t) else .iface 4 (.bool (k == 3))
theorem ret_two {a b c d : Value} (h : a = b) (h2 : c = d) : Ending.returned (.tuple #[a, c]) = .returned (.tuple #[b, d]) := by rw [h, h2]

set_option maxHeartbeats 1000000 in
theorem goOf_flat (k n : Int) (t : ByteArray) (A : Option Addr) (m c : Nat) (deep : Int) (w : World) (h0 : 0 ≤ k) (h4 : k ≤ 4) :
    Calls Tryd.prog 44 #[.agg #[.int .i64 k, .int .i64 n, .string t, .slice A m c], .int .i64 deep] w fun e w' => e = .returned (.tuple #[ifaceOf k n t, .bool true]) ∧ Below w.heap.size w w' := by
  have h : k = 0 ∨ k = 1 ∨ k = 2 ∨ k = 3 ∨ k = 4 := by omega
  rcases h with rfl | rfl | rfl | rfl | rfl
  all_goals
    go_enter Tryd.func44, Tryd.ntmps44
    go_wp2_with fail
    go_ret2
    exact ⟨rfl, (Below.refl _ _).alloc (Nat.le_refl _) _⟩
end Go.Proofs.YtpjadgdimkdblaaDoor
namespace Go.Proofs.YtpjadgdimkdblaaDoor
open Go.RowKit
set_option linter.unusedVariables false

/-- A value as it lies in memory: its kind, number and text, and its list's place. -/
structure VRec where
  k : Int
  n : Int
  t : ByteArray
  A : Option Addr
  m : Nat
  c : Nat
def VRec.agg (x : VRec) : Value := .agg #[.int .i64 x.k, .int .i64 x.n, .string x.t, .slice x.A x.m x.c]
def z0 : VRec := ⟨0, 0, ByteArray.empty, none, 0, 0⟩
def VRec.lies (w : World) (b o : Nat) (x : VRec) : Prop :=
  w.cell? ⟨b, o, none⟩ = some (.int .i64 x.k) ∧ w.cell? ⟨b, o + 1, none⟩ = some (.int .i64 x.n) ∧ w.cell? ⟨b, o + 2, none⟩ = some (.string x.t) ∧ w.cell? ⟨b, o + 3, none⟩ = some (.slice x.A x.m x.c)
/-- Where a list that goOf handed on lies. -/
def leads : Value → Option Nat
  | .iface _ (.slice (some a) _ _) => some a.block
  | _ => none
/-- What is said of what goOf answers of each element: it may grow with the world. -/
structure Says (Q : Nat → Value → World → Prop) : Prop where
  grown : ∀ i u w w' row, Q i u w → w.grownBy w' row → (leads u = none ∨ leads u ≠ row) → Q i u w'
  old : ∀ i u w g, Q i u w → leads u = some g → g < w.heap.size
def GoneOk (Q : Nat → Value → World → Prop) (i : Nat) (w : World) (e : Ending) (w' : World) : Prop :=
  ∃ u, e = .returned (.tuple #[u, .bool true]) ∧ (u = .nilIface ∨ ∃ t x, u = .iface t x) ∧ Q i u w' ∧ Below w.heap.size w w' ∧ (∀ g, leads u = some g → w.heap.size ≤ g)
def ListOk (Q : Nat → Value → World → Prop) (n : Nat) (w : World) (e : Ending) (w' : World) : Prop :=
  ∃ v us, e = .returned (.tuple #[v, .bool true]) ∧ us.length = n ∧ w'.ownsRow w.heap.size 20 1 v n us ∧ (∀ i u, us[i]? = some u → Q i u w' ∧ (leads u = none ∨ leads u ≠ v.ownBlock)) ∧ Below w.heap.size w w'
theorem none_or (o : Option Nat) : o = none ∨ o ≠ none := by cases o <;> simp
theorem grown_none {w w' : World} (h : Below w.heap.size w w') : w.grownBy w' none := ⟨h.os, h.tape, h.output, h.size, fun k hk _ => h.block k hk⟩
theorem Tryd.infoIface : (Tryd.prog.info? 20).map (fun i => (i.zero, i.size, i.bytes)) = some (some .nilIface, 1, 16) := by kernel_rfl

/-- What the loop carries. -/
def ListSo (Q : Nat → Value → World → Prop) (w : World) (k : Nat) (v : Value) (us : List Value) (wr : World) : Prop :=
  us.length = k ∧ wr.ownsRow w.heap.size 20 1 v k us ∧ (∀ i u, us[i]? = some u → Q i u wr ∧ (leads u = none ∨ leads u ≠ v.ownBlock)) ∧ Below w.heap.size w wr
theorem listSo_start (Q : Nat → Value → World → Prop) (w : World) : ListSo Q w 0 (.slice (some ⟨w.heap.size, 0, none⟩) 0 0) [] (w.alloc (.cells #[] 20)) :=
  ⟨rfl, World.ownsRow_made w #[] 0 (Nat.le_refl _) (by decide) (by decide), fun i u h => by simp at h, (Below.refl _ _).alloc (Nat.le_refl _) _⟩
/-- One element more: the world has first only grown, then the row was appended to. -/
theorem listSo_step {Q : Nat → Value → World → Prop} (hQ : Says Q) {w : World} {k : Nat} {v v' u : Value} {us : List Value} {wr w1 w2 w3 : World} (h : ListSo Q w k v us wr) (hb : Below wr.heap.size wr w1)
    (hu : Q k u w1) (hl : ∀ g, leads u = some g → wr.heap.size ≤ g) (ho : w1.grownBy w2 none) (hr : w3.ownsRow w.heap.size 20 1 v' (k + 1) (us ++ [u])) (hg : w2.grownBy w3 v.ownBlock)
    (hat : v'.ownBlock = v.ownBlock ∨ v'.ownBlock = some w2.heap.size) (hs : w.heap.size ≤ wr.heap.size) : ListSo Q w (k + 1) v' (us ++ [u]) w3 := by
  obtain ⟨h1, h2, h3, h4⟩ := h
  have hvlt := h2.lt
  have s1 := hb.size
  have s2 := ho.size
  refine ⟨by simp [h1], hr, fun i x hx => ?_, ?_⟩
  · rcases Nat.lt_or_ge i us.length with hi | hi
    · rw [List.getElem?_append_left hi] at hx
      obtain ⟨q1, q2⟩ := h3 i x hx
      have q3 := hQ.grown _ _ _ _ _ q1 (grown_none hb) (by cases e : leads x <;> simp)
      have q4 := hQ.grown _ _ _ _ _ q3 ho (by cases e : leads x <;> simp)
      refine ⟨hQ.grown _ _ _ _ _ q4 hg q2, ?_⟩
      rcases hat with e | e
      · rw [e]; exact q2
      · rcases hlx : leads x with _ | g
        · exact .inl rfl
        · have := hQ.old _ _ _ _ q1 hlx
          rw [e]
          right
          intro hh
          have : g = w2.heap.size := by simpa using hh
          omega
    · have hx2 : i = us.length ∧ x = u := by
        rw [List.getElem?_append_right hi] at hx
        have : i - us.length = 0 := by
          rcases Nat.eq_zero_or_pos (i - us.length) with e | e
          · exact e
          · rw [List.getElem?_eq_none (by simp; omega)] at hx; cases hx
        rw [this] at hx
        exact ⟨by omega, by simpa using hx.symm⟩
      obtain ⟨rfl, rfl⟩ := hx2
      have hne : leads x = none ∨ leads x ≠ v.ownBlock := by
        rcases hlx : leads x with _ | g
        · exact .inl rfl
        · have a1 := hl g hlx
          right
          intro hh
          have := (hvlt g hh.symm).2
          omega
      have q4 := hQ.grown _ _ _ _ _ (h1 ▸ hu) ho (by cases e : leads x <;> simp)
      refine ⟨hQ.grown _ _ _ _ _ q4 hg hne, ?_⟩
      rcases hat with e | e
      · rw [e]; exact hne
      · rcases hlx : leads x with _ | g
        · exact .inl rfl
        · have := hQ.old _ _ _ _ hu hlx
          rw [e]
          right
          intro hh
          have : g = w2.heap.size := by simpa using hh
          omega
  · refine ((h4.trans (hb.mono hs)).grown ho (by omega) (fun k hk => by cases hk)).grown hg (by omega) (fun k hk => (hvlt k hk).1)

set_option maxHeartbeats 2000000 in
set_option maxRecDepth 100000 in
theorem goList_any (Q : Nat → Value → World → Prop) (hQ : Says Q) (b off n c : Nat) (deep : Int) (xs : List VRec) (w : World) (hn : xs.length = n) (hm : n ≤ 1000000) (hb : b < w.heap.size)
    (hxs : ∀ i, i < n → (xs.getD i z0).lies w b (off + i * 4))
    (hgo : ∀ i, i < n → ∀ w', Below w.heap.size w w' → Calls Tryd.prog 44 #[(xs.getD i z0).agg, .int .i64 deep] w' (GoneOk Q i w')) :
    Calls Tryd.prog 47 #[.slice (some ⟨b, off, none⟩) n c, .int .i64 deep] w (ListOk Q n w) := by
  obtain ⟨i0, hi0, hz0, hz1, hz2⟩ := info_parts Tryd.infoIface
  have HX := Lib.hid hxs
  have HG := Lib.hid hgo
  have HQ := Lib.hid hQ
  have HN := Lib.hid hn
  clear hxs hgo hQ hn
  have hH : (w.alloc (.cells #[] 20)).heap.size = w.heap.size + 1 := by simp
  go_enter Tryd.func47, Tryd.ntmps47
  go_wp2
  go_loopw [6, 14] (fun v i wr => ∃ (k : Nat) (us : List Value), k ≤ n ∧ i = .int .i64 k ∧ Hid (ListSo Q w k v us wr)) (fun _ i _ => n - (intOf i).toNat)
  case atStart => exact ⟨0, [], Nat.zero_le _, rfl, Lib.hid (listSo_start Q w)⟩
  case round =>
    obtain ⟨k, us, hk, rfl, HS⟩ := hrel
    obtain ⟨hl, hown, _, hbel⟩ := HS.out
    have hsz := hbel.size
    have h0 : (0 : Int) ≤ k := by omega
    by_cases hlt : k < n
    · have hkn : (k : Int) < n := by omega
      obtain ⟨c0, c1, c2, c3⟩ := HX.out k hlt
      have d0 := (hbel.cell (p := ⟨b, off + k * 4, none⟩) hb).trans c0
      have d1 := (hbel.cell (p := ⟨b, off + k * 4 + 1, none⟩) hb).trans c1
      have d2 := (hbel.cell (p := ⟨b, off + k * 4 + 2, none⟩) hb).trans c2
      have d3 := (hbel.cell (p := ⟨b, off + k * 4 + 3, none⟩) hb).trans c3
      clear c0 c1 c2 c3 hl hown hbel
      go_wp2_with fail
      refine (HG.out k hlt _ ?_).mono ?_
      · exact HS.out.2.2.2.alloc hsz _
      rintro e w1 ⟨u, rfl, h1, hq, hb1, hld⟩
      have HQ1 := Lib.hid hq
      have HL1 := Lib.hid hld
      have hsz1 := hb1.size
      simp only [World.size_alloc] at hsz1
      clear hq hld
      clear d0 d1 d2 d3
      have HB1 := Lib.hid ((((Below.refl wr.heap.size wr).alloc (Nat.le_refl _) _)).trans (hb1.mono (by simp)))
      clear hb1
      have HO1 := Lib.hid (HS.out.2.1.kept (grown_none HB1.out) (none_or _))
      have h1c : ∀ z ∈ [u], z.oneCell' = true := fun z hz => by
        rcases h1 with rfl | ⟨t, x, rfl⟩ <;> simp at hz <;> subst hz <;> rfl
      have HC1 := Lib.hid h1c
      clear h1c
      rcases h1 with rfl | ⟨t, x, rfl⟩
      all_goals
        go_wp2_with (at_builtin; refine wpList_append_own_at _ rfl _ _ 71 rfl w.heap.size 20 i0 .nilIface 1 16 Tryd.underlying71 hi0 hz0 hz1 hz2 rfl (by decide) _ k us rfl (HO1.out.alloc _) ⟨w1.heap.size, 0, none⟩ 1 1 [_] rfl rfl (cell_one_new _ _ _) HC1.out (by unfold maxLen; omega) (by omega) (by simp; omega) ?_; intro v2 w2 hown2 hg2 _ hat2; refine Hid.out ?_)
        refine Lib.hid ?_
        have HS2 := Lib.hid (listSo_step HQ.out HS.out HB1.out HQ1.out (fun g hg => by have := HL1.out g hg; simp only [World.size_alloc] at this; omega) (World.grownBy_alloc _ _ _) hown2 hg2 hat2 hsz)
        clear hown2 hg2 hat2
        go_wp2
        go_roundw
        case rel => exact ⟨k + 1, _, by omega, by go_num, HS2⟩
        case measure => simp [intOf]; omega
    · obtain rfl : k = n := by omega
      clear hl hown hbel
      go_wp2
      go_ret2
      obtain ⟨q1, q2, q3, q4⟩ := HS.out
      exact ⟨_, us, rfl, q1, q2, q3, q4⟩
end Go.Proofs.YtpjadgdimkdblaaDoor
namespace Go.Proofs.YtpjadgdimkdblaaDoor
open Go.RowKit
set_option linter.unusedVariables false

/-- A value that is no list, as it is handed on. -/
def VRec.fl (x : VRec) : Value := ifaceOf x.k x.n x.t
theorem ifaceOf_form (k n : Int) (t : ByteArray) : ifaceOf k n t = .nilIface ∨ ∃ a x, ifaceOf k n t = .iface a x := by
  unfold ifaceOf
  split
  · exact .inl rfl
  · split
    · exact .inr ⟨_, _, rfl⟩
    · split
      · exact .inr ⟨_, _, rfl⟩
      · exact .inr ⟨_, _, rfl⟩
theorem ifaceOf_leads (k n : Int) (t : ByteArray) : leads (ifaceOf k n t) = none := by
  unfold ifaceOf
  split
  · rfl
  · split
    · rfl
    · split <;> rfl
/-- Of values that are no lists. -/
def QF (xs : List VRec) (i : Nat) (u : Value) (w : World) : Prop := u = (xs.getD i z0).fl
theorem says_flat (xs : List VRec) : Says (QF xs) :=
  ⟨fun i u w w' row h _ _ => h, fun i u w g h hl => by rw [h, VRec.fl, ifaceOf_leads] at hl; cases hl⟩
theorem goList_nil (A : Option Addr) (c : Nat) (deep : Int) (w : World) :
    Calls Tryd.prog 47 #[.slice A 0 c, .int .i64 deep] w fun e w' => e = .returned (.tuple #[.slice (some ⟨w.heap.size, 0, none⟩) 0 0, .bool true]) ∧ w.alloc (.cells #[] 20) = w' := by
  go_enter Tryd.func47, Tryd.ntmps47
  go_wp2
  go_loop [6, 14] (fun v i => v = .slice (some ⟨w.heap.size, 0, none⟩) 0 0 ∧ i = .int .i64 0) (fun _ _ => 0)
  case atStart => exact ⟨rfl, rfl⟩
  case round =>
    obtain ⟨rfl, rfl⟩ := hrel
    go_wp2
    go_ret2
    exact ⟨rfl, rfl⟩
/-- A list of no lists, wherever it lies: a row of the call's own with what each is. -/
def FlatOk (xs : List VRec) (w : World) (e : Ending) (w' : World) : Prop :=
  ∃ v, e = .returned (.tuple #[v, .bool true]) ∧ w'.ownsRow w.heap.size 20 1 v xs.length (xs.map VRec.fl) ∧ Below w.heap.size w w'
/-- Where the elements of a list lie. -/
def ListAt (w : World) (A : Option Addr) (xs : List VRec) : Prop :=
  xs = [] ∨ ∃ b off, A = some ⟨b, off, none⟩ ∧ b < w.heap.size ∧ ∀ i, i < xs.length → (xs.getD i z0).lies w b (off + i * 4)
theorem lies_below {B : Nat} {w w' : World} {b o : Nat} {x : VRec} (h : x.lies w b o) (hb : Below B w w') (hB : b < B) : x.lies w' b o :=
  ⟨(hb.cell (p := ⟨b, o, none⟩) hB).trans h.1, (hb.cell (p := ⟨b, o + 1, none⟩) hB).trans h.2.1, (hb.cell (p := ⟨b, o + 2, none⟩) hB).trans h.2.2.1, (hb.cell (p := ⟨b, o + 3, none⟩) hB).trans h.2.2.2⟩
theorem listAt_below {w w' : World} {A : Option Addr} {xs : List VRec} (h : ListAt w A xs) (hb : Below w.heap.size w w') : ListAt w' A xs := by
  rcases h with rfl | ⟨b, off, rfl, h1, h2⟩
  · exact .inl rfl
  · exact .inr ⟨b, off, rfl, Nat.lt_of_lt_of_le h1 hb.size, fun i hi => lies_below (h2 i hi) hb h1⟩
theorem goList_flat (A : Option Addr) (c : Nat) (deep : Int) (xs : List VRec) (w : World) (hm : xs.length ≤ 1000000) (hx : ListAt w A xs) (hk : ∀ i, i < xs.length → 0 ≤ (xs.getD i z0).k ∧ (xs.getD i z0).k ≤ 4) :
    Calls Tryd.prog 47 #[.slice A xs.length c, .int .i64 deep] w (FlatOk xs w) := by
  rcases hx with rfl | ⟨b, off, rfl, h1, h2⟩
  · refine (goList_nil A c deep w).mono ?_
    rintro e w' ⟨rfl, rfl⟩
    exact ⟨_, rfl, World.ownsRow_made w #[] 0 (Nat.le_refl _) (by decide) (by decide), (Below.refl _ _).alloc (Nat.le_refl _) _⟩
  · refine (goList_any (QF xs) (says_flat xs) b off xs.length c deep xs w rfl hm h1 h2 fun i hi w' hb => ?_).mono ?_
    · refine (goOf_flat _ _ _ _ _ _ deep w' (hk i hi).1 (hk i hi).2).mono ?_
      rintro e w2 ⟨rfl, hb2⟩
      exact ⟨_, rfl, ifaceOf_form _ _ _, rfl, hb2, fun g hg => by rw [ifaceOf_leads] at hg; cases hg⟩
    · rintro e w' ⟨v, us, rfl, hl, hr, hq, hb⟩
      have hus : us = xs.map VRec.fl := by
        apply List.ext_getElem?
        intro i
        rcases Nat.lt_or_ge i us.length with hi | hi
        · have h := (hq i us[i] (List.getElem?_eq_getElem hi)).1
          unfold QF at h
          rw [List.getElem?_eq_getElem hi, h, List.getElem?_map, List.getD_eq_getElem?_getD, List.getElem?_eq_getElem (by omega : i < xs.length)]
          rfl
        · rw [List.getElem?_eq_none hi, List.getElem?_eq_none (by rw [List.length_map]; omega)]
      subst hus
      exact ⟨v, rfl, hr, hb⟩
theorem ownsRow_base {w : World} {B B' : Nat} {e : TypeId} {size : Nat} {v : Value} {n : Nat} {xs : List Value} (h : w.ownsRow B e size v n xs) (hB : B' ≤ B) : w.ownsRow B' e size v n xs := by
  obtain ⟨h1, h2⟩ := h
  refine ⟨h1, ?_⟩
  rcases h2 with h2 | ⟨g, cap, cur, hv, hg, r⟩
  · exact .inl h2
  · exact .inr ⟨g, cap, cur, hv, by omega, r⟩
theorem ownsRow_form {w : World} {B : Nat} {e : TypeId} {size : Nat} {v : Value} {n : Nat} {xs : List Value} (h : w.ownsRow B e size v n xs) : ∃ a c, v = .slice a n c := by
  rcases h.2 with ⟨rfl, rfl⟩ | ⟨g, cap, cur, rfl, _⟩
  · exact ⟨_, _, rfl⟩
  · exact ⟨_, _, rfl⟩
/-- An argument: a value that is no list, or a list of such. -/
structure ARec where
  x : VRec
  ys : List VRec
def a0 : ARec := ⟨z0, []⟩
def ARec.ok (w : World) (a : ARec) : Prop :=
  (0 ≤ a.x.k ∧ a.x.k ≤ 4) ∨ (a.x.k = 5 ∧ a.x.m = a.ys.length ∧ a.ys.length ≤ 1000000 ∧ ListAt w a.x.A a.ys ∧ ∀ i, i < a.ys.length → 0 ≤ (a.ys.getD i z0).k ∧ (a.ys.getD i z0).k ≤ 4)
/-- What an argument is handed on gs. -/
def ARec.handed (B : Nat) (a : ARec) (u : Value) (w : World) : Prop :=
  if a.x.k = 5 then ∃ sv, u = .iface 71 sv ∧ w.ownsRow B 20 1 sv a.ys.length (a.ys.map VRec.fl) else u = a.x.fl
theorem leads_iface {sv : Value} {t : TypeId} : leads (.iface t sv) = sv.ownBlock := by
  cases sv <;> try rfl
  rename_i a b c
  cases a <;> rfl
theorem handed_form {B : Nat} {a : ARec} {u : Value} {w : World} (h : a.handed B u w) : u = .nilIface ∨ ∃ t x, u = .iface t x := by
  unfold ARec.handed at h
  split at h
  · obtain ⟨sv, rfl, _⟩ := h
    exact .inr ⟨_, _, rfl⟩
  · rw [h]; exact ifaceOf_form _ _ _
theorem handed_grown {B : Nat} {a : ARec} {u : Value} {w w' : World} {row : Option Nat} (h : a.handed B u w) (hg : w.grownBy w' row) (hne : leads u = none ∨ leads u ≠ row) : a.handed B u w' := by
  unfold ARec.handed at h ⊢
  by_cases h5 : a.x.k = 5
  · rw [if_pos h5] at h ⊢
    obtain ⟨sv, rfl, ho⟩ := h
    rw [leads_iface] at hne
    exact ⟨sv, rfl, ho.kept hg hne⟩
  · rw [if_neg h5] at h ⊢
    exact h
theorem handed_lt {B : Nat} {a : ARec} {u : Value} {w : World} {g : Nat} (h : a.handed B u w) (hl : leads u = some g) : B ≤ g ∧ g < w.heap.size := by
  unfold ARec.handed at h
  split at h
  · obtain ⟨sv, rfl, ho⟩ := h
    rw [leads_iface] at hl
    exact ho.lt g hl
  · rw [h, VRec.fl, ifaceOf_leads] at hl; cases hl
def QA (B : Nat) (gs : List ARec) (i : Nat) (u : Value) (w : World) : Prop := (gs.getD i a0).handed B u w
theorem says_args (B : Nat) (gs : List ARec) : Says (QA B gs) :=
  ⟨fun i u w w' row h hg hne => handed_grown h hg hne, fun i u w g h hl => (handed_lt h hl).2⟩

set_option maxHeartbeats 1000000 in
theorem goOf_list (n : Int) (t : ByteArray) (A : Option Addr) (c : Nat) (xs : List VRec) (w : World) (hm : xs.length ≤ 1000000) (hx : ListAt w A xs) (hk : ∀ i, i < xs.length → 0 ≤ (xs.getD i z0).k ∧ (xs.getD i z0).k ≤ 4) :
    Calls Tryd.prog 44 #[.agg #[.int .i64 5, .int .i64 n, .string t, .slice A xs.length c], .int .i64 0] w fun e w' =>
      Hid (∃ sv, e = .returned (.tuple #[.iface 71 sv, .bool true]) ∧ w'.ownsRow w.heap.size 20 1 sv xs.length (xs.map VRec.fl) ∧ Below w.heap.size w w') := by
  have HX := Lib.hid hx
  have HK := Lib.hid hk
  clear hx hk
  go_enter Tryd.func44, Tryd.ntmps44
  go_wp2_with fail
  refine (goList_flat A c 1 xs _ hm (listAt_below HX.out ((Below.refl _ _).alloc (Nat.le_refl _) _)) HK.out).mono ?_
  rintro e w1 ⟨sv, rfl, hr, hb⟩
  have HR := Lib.hid (ownsRow_base hr (show w.heap.size ≤ _ by simp))
  have HB := Lib.hid (((Below.refl w.heap.size w).alloc (Nat.le_refl _) _).trans (hb.mono (by simp)))
  have hc := hb.cell (p := ⟨w.heap.size, 0, none⟩) (by simp)
  clear hr hb
  go_wp2
  go_ret2
  exact Lib.hid ⟨sv, rfl, HR.out, HB.out⟩
theorem goOf_arg (B : Nat) (gs : List ARec) (i : Nat) (w0 w : World) (hok : (gs.getD i a0).ok w0) (hb : Below w0.heap.size w0 w) (hB : B ≤ w.heap.size) :
    Calls Tryd.prog 44 #[(gs.getD i a0).x.agg, .int .i64 0] w (GoneOk (QA B gs) i w) := by
  unfold GoneOk QA
  generalize gs.getD i a0 = a at hok
  rcases hok with ⟨h0, h4⟩ | ⟨h5, hm, hl, hx, hk⟩
  · refine (goOf_flat _ _ _ _ _ _ 0 w h0 h4).mono ?_
    rintro e w2 ⟨rfl, hb2⟩
    refine ⟨_, rfl, ifaceOf_form _ _ _, ?_, hb2, fun g hg => by rw [ifaceOf_leads] at hg; cases hg⟩
    unfold ARec.handed
    rw [if_neg (by omega)]
    rfl
  · have := goOf_list a.x.n a.x.t a.x.A a.x.c a.ys w hl (listAt_below hx hb) hk
    unfold VRec.agg
    rw [h5, hm]
    refine this.mono ?_
    rintro e w2 h
    obtain ⟨sv, rfl, hr, hb2⟩ := h.out
    refine ⟨_, rfl, .inr ⟨_, _, rfl⟩, ?_, hb2, fun g hg => by rw [leads_iface] at hg; exact (hr.lt g hg).1⟩
    unfold ARec.handed
    rw [if_pos h5]
    exact ⟨sv, rfl, ownsRow_base hr hB⟩
/-- Arguments, as goList hands them on. -/
def HandedOk (gs : List ARec) (w : World) (e : Ending) (w' : World) : Prop :=
  ∃ v us, e = .returned (.tuple #[v, .bool true]) ∧ us.length = gs.length ∧ w'.ownsRow w.heap.size 20 1 v gs.length us ∧ (∀ i u, us[i]? = some u → (gs.getD i a0).handed w.heap.size u w' ∧ (leads u = none ∨ leads u ≠ v.ownBlock)) ∧ Below w.heap.size w w'
theorem goList_args (A : Option Addr) (c : Nat) (gs : List ARec) (w : World) (hm : gs.length ≤ 1000000) (hx : ListAt w A (gs.map ARec.x)) (hok : ∀ i, i < gs.length → (gs.getD i a0).ok w) :
    Calls Tryd.prog 47 #[.slice A gs.length c, .int .i64 0] w (HandedOk gs w) := by
  rcases hx with hn | ⟨b, off, rfl, h1, h2⟩
  · obtain rfl : gs = [] := by simpa using hn
    refine (goList_nil A c 0 w).mono ?_
    rintro e w' ⟨rfl, rfl⟩
    exact ⟨_, [], rfl, rfl, World.ownsRow_made w #[] 0 (Nat.le_refl _) (by decide) (by decide), fun i u h => by simp at h, (Below.refl _ _).alloc (Nat.le_refl _) _⟩
  · have hx : ∀ i, (gs.map ARec.x).getD i z0 = (gs.getD i a0).x := by
      intro i
      rw [List.getD_eq_getElem?_getD, List.getD_eq_getElem?_getD, List.getElem?_map]
      cases gs[i]? <;> rfl
    refine (goList_any (QA w.heap.size gs) (says_args _ gs) b off gs.length c 0 (gs.map ARec.x) w (by simp) hm h1 (fun i hi => h2 i (by simpa using hi)) fun i hi w' hb => ?_).mono ?_
    · rw [hx i]
      exact goOf_arg w.heap.size gs i w w' (hok i hi) hb hb.size
    · rintro e w' ⟨v, us, rfl, hl, hr, hq, hb⟩
      exact ⟨v, us, rfl, hl, hr, hq, hb⟩
end Go.Proofs.YtpjadgdimkdblaaDoor
namespace Go.Proofs.YtpjadgdimkdblaaDoor
open Go.RowKit
set_option linter.unusedVariables false

/-- The value that comes back of what was handed on. -/
def VRec.back (x : VRec) : VRec := ⟨x.k, if x.k = 1 then x.n else 0, if x.k = 2 then x.t else ByteArray.empty, none, 0, 0⟩
theorem cells_new (w : World) (l : List Value) (T : TypeId) : ∀ j u, l[j]? = some u → (w.alloc (.cells l.toArray T)).cell? ((⟨w.heap.size, 0, none⟩ : Addr).add j) = some u := by
  intro j u hu
  have hadd : (⟨w.heap.size, 0, none⟩ : Addr).add j = ⟨w.heap.size, j, none⟩ := by unfold Addr.add; split <;> simp_all
  rw [hadd, cell_of_row _ _ _ _ _ _ (heap_alloc_new w _)]
  simpa using hu
theorem Tryd.infoValue : (Tryd.prog.info? 34).map (fun i => (i.zero, i.size, i.bytes)) = some (some (.agg #[.int .i64 0, .int .i64 0, .string ByteArray.empty, .slice none 0 0]), 4, 56) := by kernel_rfl
def VRec.cells (x : VRec) : List Value := [.int .i64 x.k, .int .i64 x.n, .string x.t, .slice x.A x.m x.c]
/-- The values that come back, as one row. -/
def backs (xs : List VRec) : List Value := (xs.map fun x => x.back.cells).flatten
end Go.Proofs.YtpjadgdimkdblaaDoor
namespace Go.Proofs.YtpjadgdimkdblaaDoor
open Go.RowKit
set_option linter.unusedVariables false

set_option maxHeartbeats 1000000 in
theorem appendRef (base n m g c : Nat) (L : Int) (v : Value) (us ys : List Value) (w : World) (hown : w.ownsRow base 20 1 v n us) (hys : ys.length = m) (hc : ∀ j u, ys[j]? = some u → w.cell? ((⟨g, 0, none⟩ : Addr).add j) = some u)
    (h1 : ∀ u ∈ ys, u.oneCell' = true) (hnm : n + m ≤ 100000000) (hb : base ≤ w.heap.size) :
    Calls Tryd.prog 59 #[v, .slice (some ⟨g, 0, none⟩) m c, .int .i64 L] w fun e w' => Hid (∃ v', e = .returned v' ∧ w'.ownsRow base 20 1 v' (n + m) (us ++ ys) ∧ w.grownBy w' v.ownBlock) := by
  obtain ⟨i0, hi0, hz0, hz1, hz2⟩ := info_parts Tryd.infoIface
  have HO := Lib.hid hown
  have HC := Lib.hid hc
  have H1 := Lib.hid h1
  have HY := Lib.hid hys
  clear hown hc h1 hys
  go_enter Tryd.func59, Tryd.ntmps59
  go_wp2_with (at_builtin; refine wpList_append_own_at _ rfl _ _ 71 rfl base 20 i0 .nilIface 1 16 Tryd.underlying71 hi0 hz0 hz1 hz2 rfl (by decide) _ n us rfl HO.out ⟨g, 0, none⟩ m c ys rfl (by rw [HY.out, Nat.mul_one]) HC.out H1.out (by unfold maxLen; omega) (by omega) hb ?_; intro v2 w2 hown2 hg2 _ hat2; refine Hid.out ?_)
  refine Lib.hid ?_
  have HP : Hid (w2.ownsRow base 20 1 v2 (n + m) (us ++ ys) ∧ w.grownBy w2 v.ownBlock) := Lib.hid ⟨hown2, hg2⟩
  clear hown2 hg2 hat2
  go_wp2
  go_ret
  exact Lib.hid ⟨v2, rfl, HP.out⟩
end Go.Proofs.YtpjadgdimkdblaaDoor
namespace Go.Proofs.YtpjadgdimkdblaaDoor
open Go.RowKit
set_option linter.unusedVariables false

def more (a : ARec) : List UInt8 := if a.x.k = 5 then Lib.repeatL [44, 32, 63] (a.ys.length - 1) else []
def vals (a : ARec) : List VRec := if a.x.k = 5 then a.ys else [a.x]
def ex : List UInt8 → List ARec → Option (List UInt8 × List VRec)
  | [], [] => some ([], [])
  | [], _ :: _ => none
  | c :: l, gs => if (c.toNat : Int) = 63 then (match gs with
      | [] => none
      | a :: r => (ex l r).map fun p => (63 :: (more a ++ p.1), vals a ++ p.2)) else (ex l gs).map fun p => (c :: p.1, p.2)
def emptyL (a : ARec) : Prop := a.x.k = 5 ∧ a.ys = []
def isL (a : ARec) : Bool := a.x.k == 5
theorem ex_none (c : UInt8) (l : List UInt8) (gs : List ARec) (h : ¬ (c.toNat : Int) = 63) : ex (c :: l) gs = (ex l gs).map fun p => (c :: p.1, p.2) := by
  cases gs <;> simp only [ex] <;> rw [if_neg h]
theorem ex_nil (l : List UInt8) : ex (63 :: l) [] = none := by simp [ex]
theorem ex_cons (l : List UInt8) (a : ARec) (r : List ARec) : ex (63 :: l) (a :: r) = (ex l r).map fun p => (63 :: (more a ++ p.1), vals a ++ p.2) := by simp [ex]
theorem ex_skip (a : List UInt8) (h : ∀ c ∈ a, (c.toNat : Int) ≠ 63) (l : List UInt8) (gs : List ARec) : ex (a ++ l) gs = (ex l gs).map fun p => (a ++ p.1, p.2) := by
  induction a with
  | nil => simp
  | cons c a ih =>
    rw [List.cons_append, ex_none _ _ _ (h c (by simp)), ih (fun d hd => h d (by simp [hd])), Option.map_map]
    rfl
theorem idxQ_shift (l : List UInt8) : ∀ i j, idxQ l (i + j) = if idxQ l i = -1 then -1 else idxQ l i + j := by
  induction l with
  | nil => intro i j; simp [idxQ]
  | cons c l ih =>
    intro i j
    unfold idxQ
    split
    · rw [if_neg (by omega)]; omega
    · have := ih (i + 1) j
      rw [show i + 1 + j = i + j + 1 from by omega] at this
      exact this
theorem idxN_none : ∀ (l : List UInt8) (i : Nat), idxQ l i = -1 → ∀ c ∈ l, (c.toNat : Int) ≠ 63
  | [], _, _ => by simp
  | c :: l, i, h => by
    unfold idxQ at h
    split at h
    · omega
    · intro d hd
      rcases List.mem_cons.1 hd with rfl | hd
      · assumption
      · exact idxN_none l _ h d hd
theorem idxN_ge : ∀ (l : List UInt8) (i : Nat), idxQ l i = -1 ∨ (i : Int) ≤ idxQ l i
  | [], _ => by simp [idxQ]
  | c :: l, i => by
    unfold idxQ
    split
    · right; omega
    · rcases idxN_ge l (i + 1) with h | h
      · exact .inl h
      · right; omega
theorem idxN_some : ∀ (l : List UInt8) (i k : Nat), idxQ l i = ((i + k : Nat) : Int) → k < l.length ∧ l = l.take k ++ 63 :: l.drop (k + 1) ∧ ∀ c ∈ l.take k, (c.toNat : Int) ≠ 63
  | [], i, k, h => by simp [idxQ] at h; omega
  | c :: l, i, k, h => by
    unfold idxQ at h
    split at h
    · rename_i hc
      have : k = 0 := by omega
      subst this
      refine ⟨by simp, ?_, by simp⟩
      have : c = 63 := UInt8.toNat_inj.1 (by rw [show (63 : UInt8).toNat = 63 from rfl]; omega)
      simp [this]
    · rename_i hc
      have hge := idxN_ge l (i + 1)
      rcases k with _ | k
      · omega
      · have := idxN_some l (i + 1) k (by rw [h]; omega)
        refine ⟨by simp; omega, by rw [List.take_succ_cons, List.drop_succ_cons, List.cons_append]; exact congrArg (c :: ·) this.2.1, ?_⟩
        intro d hd
        rw [List.take_succ_cons] at hd
        rcases List.mem_cons.1 hd with rfl | hd
        · exact hc
        · exact this.2.2 d hd
/-- What is done, and what is left to do. -/
def Done (q : List UInt8) (gs : List ARec) (l : List UInt8) (vs : List VRec) (rest : List UInt8) (gr : List ARec) : Prop := ex q gs = (ex rest gr).map fun p => (l ++ p.1, vs ++ p.2)
theorem done_start (q : List UInt8) (gs : List ARec) : Done q gs [] [] q gs := by unfold Done; simp
theorem done_step {q : List UInt8} {gs : List ARec} {l : List UInt8} {vs : List VRec} {rest : List UInt8} {a : ARec} {gr : List ARec} {k : Nat} (h : Done q gs l vs rest (a :: gr)) (hk : idxQ rest 0 = (k : Int)) :
    Done q gs (l ++ rest.take k ++ 63 :: more a) (vs ++ vals a) (rest.drop (k + 1)) gr := by
  obtain ⟨_, h1, h2⟩ := idxN_some rest 0 k (by simpa using hk)
  unfold Done at h ⊢
  rw [h]
  conv => lhs; rw [h1]
  rw [ex_skip _ h2, ex_cons, Option.map_map, Option.map_map]
  congr 1
  funext p
  simp
theorem done_many {q : List UInt8} {gs : List ARec} {l : List UInt8} {vs : List VRec} {rest : List UInt8} {k : Nat} (h : Done q gs l vs rest []) (hk : idxQ rest 0 = (k : Int)) : ex q gs = none := by
  obtain ⟨_, h1, h2⟩ := idxN_some rest 0 k (by simpa using hk)
  unfold Done at h
  rw [h]
  conv => lhs; rw [h1]
  rw [ex_skip _ h2, ex_nil]
  rfl
theorem done_end {q : List UInt8} {gs : List ARec} {l : List UInt8} {vs : List VRec} {rest : List UInt8} (h : Done q gs l vs rest []) (hk : idxQ rest 0 = -1) : ex q gs = some (l ++ rest, vs) := by
  have h2 := idxN_none rest 0 hk
  unfold Done at h
  rw [h]
  have := ex_skip rest h2 [] []
  rw [List.append_nil] at this
  rw [this]
  simp [ex]
theorem done_few {q : List UInt8} {gs : List ARec} {l : List UInt8} {vs : List VRec} {rest : List UInt8} {a : ARec} {gr : List ARec} (h : Done q gs l vs rest (a :: gr)) (hk : idxQ rest 0 = -1) : ex q gs = none := by
  have h2 := idxN_none rest 0 hk
  unfold Done at h
  rw [h]
  have := ex_skip rest h2 [] (a :: gr)
  rw [List.append_nil] at this
  rw [this]
  simp [ex]
open Classical in
/-- What In answers of a text and arguments: nothing, or the text and the values. -/
noncomputable def inSpec (q : List UInt8) (gs : List ARec) : Option (List UInt8 × List VRec) :=
  if ∃ a ∈ gs, emptyL a then none else if gs.any isL = true then ex q gs else some (q, gs.map ARec.x)
end Go.Proofs.YtpjadgdimkdblaaDoor
