/- What goList answers of values: a row of the call's own that holds what goOf answers of each. A walk; every world. -/
import Derived.Test.YtpjadgdimkdblaaDoorVal
namespace Go.Proofs.YtpjadgdimkdblaaDoor
open Go.RowKit
set_option linter.unusedVariables false

/-- A value as it lies in memory: its kind, number and text, and its list's place. -/
structure VRec where
  k : Int
  n : Int
  t : ByteArray
  A : Option Addr
  m : Nat
  c : Nat
def VRec.agg (x : VRec) : Value := .agg #[.int .i64 x.k, .int .i64 x.n, .string x.t, .slice x.A x.m x.c]
def z0 : VRec := ⟨0, 0, ByteArray.empty, none, 0, 0⟩
def VRec.lies (w : World) (b o : Nat) (x : VRec) : Prop :=
  w.cell? ⟨b, o, none⟩ = some (.int .i64 x.k) ∧ w.cell? ⟨b, o + 1, none⟩ = some (.int .i64 x.n) ∧ w.cell? ⟨b, o + 2, none⟩ = some (.string x.t) ∧ w.cell? ⟨b, o + 3, none⟩ = some (.slice x.A x.m x.c)
/-- Where a list that goOf handed on lies. -/
def leads : Value → Option Nat
  | .iface _ (.slice (some a) _ _) => some a.block
  | _ => none
/-- What is said of what goOf answers of each element: it may grow with the world. -/
structure Says (Q : Nat → Value → World → Prop) : Prop where
  grown : ∀ i u w w' row, Q i u w → w.grownBy w' row → (leads u = none ∨ leads u ≠ row) → Q i u w'
  old : ∀ i u w g, Q i u w → leads u = some g → g < w.heap.size
def GoneOk (Q : Nat → Value → World → Prop) (i : Nat) (w : World) (e : Ending) (w' : World) : Prop :=
  ∃ u, e = .returned (.tuple #[u, .bool true]) ∧ (u = .nilIface ∨ ∃ t x, u = .iface t x) ∧ Q i u w' ∧ Below w.heap.size w w' ∧ (∀ g, leads u = some g → w.heap.size ≤ g)
def ListOk (Q : Nat → Value → World → Prop) (n : Nat) (w : World) (e : Ending) (w' : World) : Prop :=
  ∃ v us, e = .returned (.tuple #[v, .bool true]) ∧ us.length = n ∧ w'.ownsRow w.heap.size 20 1 v n us ∧ (∀ i u, us[i]? = some u → Q i u w' ∧ (leads u = none ∨ leads u ≠ v.ownBlock)) ∧ Below w.heap.size w w'
theorem none_or (o : Option Nat) : o = none ∨ o ≠ none := by cases o <;> simp
theorem grown_none {w w' : World} (h : Below w.heap.size w w') : w.grownBy w' none := ⟨h.os, h.tape, h.output, h.size, fun k hk _ => h.block k hk⟩
theorem Tryd.infoIface : (Tryd.prog.info? 20).map (fun i => (i.zero, i.size, i.bytes)) = some (some .nilIface, 1, 16) := by kernel_rfl

/-- What the loop carries. -/
def ListSo (Q : Nat → Value → World → Prop) (w : World) (k : Nat) (v : Value) (us : List Value) (wr : World) : Prop :=
  us.length = k ∧ wr.ownsRow w.heap.size 20 1 v k us ∧ (∀ i u, us[i]? = some u → Q i u wr ∧ (leads u = none ∨ leads u ≠ v.ownBlock)) ∧ Below w.heap.size w wr
theorem listSo_start (Q : Nat → Value → World → Prop) (w : World) : ListSo Q w 0 (.slice (some ⟨w.heap.size, 0, none⟩) 0 0) [] (w.alloc (.cells #[] 20)) :=
  ⟨rfl, World.ownsRow_made w #[] 0 (Nat.le_refl _) (by decide) (by decide), fun i u h => by simp at h, (Below.refl _ _).alloc (Nat.le_refl _) _⟩
/-- One element more: the world has first only grown, then the row was appended to. -/
theorem listSo_step {Q : Nat → Value → World → Prop} (hQ : Says Q) {w : World} {k : Nat} {v v' u : Value} {us : List Value} {wr w1 w2 w3 : World} (h : ListSo Q w k v us wr) (hb : Below wr.heap.size wr w1)
    (hu : Q k u w1) (hl : ∀ g, leads u = some g → wr.heap.size ≤ g) (ho : w1.grownBy w2 none) (hr : w3.ownsRow w.heap.size 20 1 v' (k + 1) (us ++ [u])) (hg : w2.grownBy w3 v.ownBlock)
    (hat : v'.ownBlock = v.ownBlock ∨ v'.ownBlock = some w2.heap.size) (hs : w.heap.size ≤ wr.heap.size) : ListSo Q w (k + 1) v' (us ++ [u]) w3 := by
  obtain ⟨h1, h2, h3, h4⟩ := h
  have hvlt := h2.lt
  have s1 := hb.size
  have s2 := ho.size
  refine ⟨by simp [h1], hr, fun i x hx => ?_, ?_⟩
  · rcases Nat.lt_or_ge i us.length with hi | hi
    · rw [List.getElem?_append_left hi] at hx
      obtain ⟨q1, q2⟩ := h3 i x hx
      have q3 := hQ.grown _ _ _ _ _ q1 (grown_none hb) (by cases e : leads x <;> simp)
      have q4 := hQ.grown _ _ _ _ _ q3 ho (by cases e : leads x <;> simp)
      refine ⟨hQ.grown _ _ _ _ _ q4 hg q2, ?_⟩
      rcases hat with e | e
      · rw [e]; exact q2
      · rcases hlx : leads x with _ | g
        · exact .inl rfl
        · have := hQ.old _ _ _ _ q1 hlx
          rw [e]
          right
          intro hh
          have : g = w2.heap.size := by simpa using hh
          omega
    · have hx2 : i = us.length ∧ x = u := by
        rw [List.getElem?_append_right hi] at hx
        have : i - us.length = 0 := by
          rcases Nat.eq_zero_or_pos (i - us.length) with e | e
          · exact e
          · rw [List.getElem?_eq_none (by simp; omega)] at hx; cases hx
        rw [this] at hx
        exact ⟨by omega, by simpa using hx.symm⟩
      obtain ⟨rfl, rfl⟩ := hx2
      have hne : leads x = none ∨ leads x ≠ v.ownBlock := by
        rcases hlx : leads x with _ | g
        · exact .inl rfl
        · have a1 := hl g hlx
          right
          intro hh
          have := (hvlt g hh.symm).2
          omega
      have q4 := hQ.grown _ _ _ _ _ (h1 ▸ hu) ho (by cases e : leads x <;> simp)
      refine ⟨hQ.grown _ _ _ _ _ q4 hg hne, ?_⟩
      rcases hat with e | e
      · rw [e]; exact hne
      · rcases hlx : leads x with _ | g
        · exact .inl rfl
        · have := hQ.old _ _ _ _ hu hlx
          rw [e]
          right
          intro hh
          have : g = w2.heap.size := by simpa using hh
          omega
  · refine ((h4.trans (hb.mono hs)).grown ho (by omega) (fun k hk => by cases hk)).grown hg (by omega) (fun k hk => (hvlt k hk).1)

set_option maxHeartbeats 2000000 in
set_option maxRecDepth 100000 in
theorem goList_any (Q : Nat → Value → World → Prop) (hQ : Says Q) (b off n c : Nat) (deep : Int) (xs : List VRec) (w : World) (hn : xs.length = n) (hm : n ≤ 1000000) (hb : b < w.heap.size)
    (hxs : ∀ i, i < n → (xs.getD i z0).lies w b (off + i * 4))
    (hgo : ∀ i, i < n → ∀ w', Below w.heap.size w w' → Calls Tryd.prog 44 #[(xs.getD i z0).agg, .int .i64 deep] w' (GoneOk Q i w')) :
    Calls Tryd.prog 47 #[.slice (some ⟨b, off, none⟩) n c, .int .i64 deep] w (ListOk Q n w) := by
  obtain ⟨i0, hi0, hz0, hz1, hz2⟩ := info_parts Tryd.infoIface
  have HX := Lib.hid hxs
  have HG := Lib.hid hgo
  have HQ := Lib.hid hQ
  have HN := Lib.hid hn
  clear hxs hgo hQ hn
  have hH : (w.alloc (.cells #[] 20)).heap.size = w.heap.size + 1 := by simp
  go_enter Tryd.func47, Tryd.ntmps47
  go_wp2
  go_loopw [6, 14] (fun v i wr => ∃ (k : Nat) (us : List Value), k ≤ n ∧ i = .int .i64 k ∧ Hid (ListSo Q w k v us wr)) (fun _ i _ => n - (intOf i).toNat)
  case atStart => exact ⟨0, [], Nat.zero_le _, rfl, Lib.hid (listSo_start Q w)⟩
  case round =>
    obtain ⟨k, us, hk, rfl, HS⟩ := hrel
    obtain ⟨hl, hown, _, hbel⟩ := HS.out
    have hsz := hbel.size
    have h0 : (0 : Int) ≤ k := by omega
    by_cases hlt : k < n
    · have hkn : (k : Int) < n := by omega
      obtain ⟨c0, c1, c2, c3⟩ := HX.out k hlt
      have d0 := (hbel.cell (p := ⟨b, off + k * 4, none⟩) hb).trans c0
      have d1 := (hbel.cell (p := ⟨b, off + k * 4 + 1, none⟩) hb).trans c1
      have d2 := (hbel.cell (p := ⟨b, off + k * 4 + 2, none⟩) hb).trans c2
      have d3 := (hbel.cell (p := ⟨b, off + k * 4 + 3, none⟩) hb).trans c3
      clear c0 c1 c2 c3 hl hown hbel
      go_wp2_with fail
      refine (HG.out k hlt _ ?_).mono ?_
      · exact HS.out.2.2.2.alloc hsz _
      rintro e w1 ⟨u, rfl, h1, hq, hb1, hld⟩
      have HQ1 := Lib.hid hq
      have HL1 := Lib.hid hld
      have hsz1 := hb1.size
      simp only [World.size_alloc] at hsz1
      clear hq hld
      clear d0 d1 d2 d3
      have HB1 := Lib.hid ((((Below.refl wr.heap.size wr).alloc (Nat.le_refl _) _)).trans (hb1.mono (by simp)))
      clear hb1
      have HO1 := Lib.hid (HS.out.2.1.kept (grown_none HB1.out) (none_or _))
      have h1c : ∀ z ∈ [u], z.oneCell' = true := fun z hz => by
        rcases h1 with rfl | ⟨t, x, rfl⟩ <;> simp at hz <;> subst hz <;> rfl
      have HC1 := Lib.hid h1c
      clear h1c
      rcases h1 with rfl | ⟨t, x, rfl⟩
      all_goals
        go_wp2_with (at_builtin; refine wpList_append_own_at _ rfl _ _ 71 rfl w.heap.size 20 i0 .nilIface 1 16 Tryd.underlying71 hi0 hz0 hz1 hz2 rfl (by decide) _ k us rfl (HO1.out.alloc _) ⟨w1.heap.size, 0, none⟩ 1 1 [_] rfl rfl (cell_one_new _ _ _) HC1.out (by unfold maxLen; omega) (by omega) (by simp; omega) ?_; intro v2 w2 hown2 hg2 _ hat2; refine Hid.out ?_)
        refine Lib.hid ?_
        have HS2 := Lib.hid (listSo_step HQ.out HS.out HB1.out HQ1.out (fun g hg => by have := HL1.out g hg; simp only [World.size_alloc] at this; omega) (World.grownBy_alloc _ _ _) hown2 hg2 hat2 hsz)
        clear hown2 hg2 hat2
        go_wp2
        go_roundw
        case rel => exact ⟨k + 1, _, by omega, by go_num, HS2⟩
        case measure => simp [intOf]; omega
    · obtain rfl : k = n := by omega
      clear hl hown hbel
      go_wp2
      go_ret2
      obtain ⟨q1, q2, q3, q4⟩ := HS.out
      exact ⟨_, us, rfl, q1, q2, q3, q4⟩
end Go.Proofs.YtpjadgdimkdblaaDoor
