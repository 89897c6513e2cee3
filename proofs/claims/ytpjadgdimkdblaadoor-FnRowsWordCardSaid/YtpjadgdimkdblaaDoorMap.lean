/- A map keyed by texts whose elements are interface values, as it reads. No walk. The map that mapOf makes of arguments with names. A walk; every world. -/
import Derived.Test.YtpjadgdimkdblaaDoorProg
import Derived.Test.YtpjadgdimkdblaaDoorWords
import Derived.Maps.OwnSet
import Derived.Maps.Views
import Derived.WalkKit
import Derived.Test.YtpjadgdimkdblaaDoorArgs
namespace Go.Proofs.YtpjadgdimkdblaaDoor
open Go.RowKit Go.Maps
set_option linter.unusedVariables false

theorem lawS : Keyed Tryd.prog 9 := string_keyed Tryd.underlying9
theorem zeroI (w : World) : (zeroValue 20).run Tryd.prog w = .ok .nilIface w := by kernel_rfl
/-- An element reads as itself. -/
def RV (v : Value) : Option (DataW Value × List MemPlace) := some (.held v, [])
def klS (s : ByteArray) : Lit := .string s.data.toList
theorem klS_ne {a b : ByteArray} (h : a ≠ b) : klS a ≠ klS b := fun e => h (ext_list (Lit.string.inj e))
theorem keyS (s : ByteArray) (h : s.size ≤ maxLen) : keyOf Tryd.prog 9 (.string s) = some (klS s) := WideMaps.keyOf_string_mk Tryd.underlying9 h
theorem klS_key (s : ByteArray) : WideAt.IsKeyLit (klS s) := trivial
/-- The map of names with their values, in order. -/
def mapD (l : List (ByteArray × Value)) : DataW Value := l.foldl (fun D p => D.put (klS p.1) (.held p.2)) (.map [])
theorem mapD_snoc (l : List (ByteArray × Value)) (p : ByteArray × Value) : mapD (l ++ [p]) = (mapD l).put (klS p.1) (.held p.2) := by simp [mapD, List.foldl_append]
theorem isMap_mapD (l : List (ByteArray × Value)) : IsMap (mapD l) := by
  have h : ∀ (l : List (ByteArray × Value)) (D : DataW Value), IsMap D → IsMap (l.foldl (fun D p => D.put (klS p.1) (.held p.2)) D) := by
    intro l
    induction l with
    | nil => exact fun D h => h
    | cons p l ih => exact fun D h => ih _ (h.put _ _)
  exact h l _ isMap_empty
/-- What the map says of a name. -/
def lookN : List (ByteArray × Value) → ByteArray → Option Value
  | [], _ => none
  | p :: l, s => match lookN l s with
    | some v => some v
    | none => if p.1.data.toList = s.data.toList then some p.2 else none
theorem look_fold (s : ByteArray) : ∀ (l : List (ByteArray × Value)) (D : DataW Value), IsMap D → match lookN l s with
    | some v => has (l.foldl (fun D p => D.put (klS p.1) (.held p.2)) D) (klS s) = true ∧ ∀ z, (l.foldl (fun D p => D.put (klS p.1) (.held p.2)) D).atKey (klS s) z = .held v
    | none => has (l.foldl (fun D p => D.put (klS p.1) (.held p.2)) D) (klS s) = has D (klS s) ∧ ∀ z, (l.foldl (fun D p => D.put (klS p.1) (.held p.2)) D).atKey (klS s) z = D.atKey (klS s) z
  | [], D, _ => ⟨rfl, fun _ => rfl⟩
  | p :: l, D, hD => by
    have ih := look_fold s l (D.put (klS p.1) (.held p.2)) (hD.put _ _)
    rw [lookN]
    cases hl : lookN l s with
    | some v =>
      rw [hl] at ih
      exact ih
    | none =>
      rw [hl] at ih
      simp only at ih ⊢
      by_cases hp : p.1.data.toList = s.data.toList
      · rw [if_pos hp]
        have e : klS p.1 = klS s := by unfold klS; rw [hp]
        refine ⟨?_, fun z => ?_⟩
        · show has (l.foldl _ (D.put (klS p.1) (.held p.2))) (klS s) = true
          rw [ih.1, e]
          exact has_put_same hD (klS_key s) _
        · show (l.foldl _ (D.put (klS p.1) (.held p.2))).atKey (klS s) z = _
          rw [ih.2 z, e]
          exact atKey_put_same hD (klS_key s) _ _
      · rw [if_neg hp]
        have hne : klS s ≠ klS p.1 := fun e => hp (Lit.string.inj e).symm
        refine ⟨?_, fun z => ?_⟩
        · show has (l.foldl _ (D.put (klS p.1) (.held p.2))) (klS s) = _
          rw [ih.1]
          exact has_put_other hne _
        · show (l.foldl _ (D.put (klS p.1) (.held p.2))).atKey (klS s) z = _
          rw [ih.2 z]
          exact atKey_put_other hne _ _
theorem look_some {l : List (ByteArray × Value)} {s : ByteArray} {v : Value} (h : lookN l s = some v) : has (mapD l) (klS s) = true ∧ ∀ z, (mapD l).atKey (klS s) z = .held v := by
  have := look_fold s l (.map []) isMap_empty
  rw [h] at this
  exact this
theorem look_none {l : List (ByteArray × Value)} {s : ByteArray} (h : lookN l s = none) : has (mapD l) (klS s) = false := by
  have := look_fold s l (.map []) isMap_empty
  rw [h] at this
  exact this.1.trans rfl
end Go.Proofs.YtpjadgdimkdblaaDoor
namespace Go.Proofs.YtpjadgdimkdblaaDoor
open Go.RowKit Go.Maps
set_option linter.unusedVariables false

/-- An argument with its name. -/
structure NRec where
  s : ByteArray
  a : ARec
def n0 : NRec := ⟨ByteArray.empty, a0⟩
def NRec.lies (w : World) (b o : Nat) (x : NRec) : Prop :=
  w.cell? ⟨b, o, none⟩ = some (.string x.s) ∧ w.cell? ⟨b, o + 1, none⟩ = some (.int .i64 x.a.x.k) ∧ w.cell? ⟨b, o + 2, none⟩ = some (.int .i64 x.a.x.n) ∧ w.cell? ⟨b, o + 3, none⟩ = some (.string x.a.x.t) ∧ w.cell? ⟨b, o + 4, none⟩ = some (.slice x.a.x.A x.a.x.m x.a.x.c)
def pairs (gs : List NRec) (us : List Value) : List (ByteArray × Value) := (gs.map NRec.s).zip us
theorem pairs_snoc : ∀ (us : List Value) (gs : List NRec) (u : Value), us.length < gs.length → pairs gs (us ++ [u]) = pairs gs us ++ [((gs.getD us.length n0).s, u)]
  | [], [], _, h => by simp at h
  | [], g :: gs, u, _ => by simp [pairs]
  | v :: us, [], u, h => by simp at h
  | v :: us, g :: gs, u, h => by
    have ih := pairs_snoc us gs u (by simpa using h)
    simp only [pairs, List.map_cons, List.cons_append, List.zip_cons_cons] at ih ⊢
    rw [ih]
    simp
theorem lookN_none : ∀ (l : List (ByteArray × Value)) (s : ByteArray), (∀ p ∈ l, p.1 ≠ s) → lookN l s = none
  | [], _, _ => rfl
  | p :: l, s, h => by
    rw [lookN, lookN_none l s fun q hq => h q (List.mem_cons_of_mem _ hq)]
    simp only
    rw [if_neg fun e => h p List.mem_cons_self (ext_list e)]
theorem pairs_mem : ∀ (us : List Value) (gs : List NRec) (p : ByteArray × Value), p ∈ pairs gs us → ∃ i, i < us.length ∧ i < gs.length ∧ p.1 = (gs.getD i n0).s ∧ us[i]? = some p.2
  | [], gs, p, h => by simp [pairs] at h
  | v :: us, [], p, h => by simp [pairs] at h
  | v :: us, g :: gs, p, h => by
    simp only [pairs, List.map_cons, List.zip_cons_cons, List.mem_cons] at h
    rcases h with rfl | h
    · exact ⟨0, by simp, by simp, by simp, by simp⟩
    · obtain ⟨i, h1, h2, h3, h4⟩ := pairs_mem us gs p h
      exact ⟨i + 1, by simpa using h1, by simpa using h2, by simpa using h3, by simpa using h4⟩
/-- What the loop of mapOf carries: the map of the first so many. -/
def MapSo (gs : List NRec) (w : World) (k : Nat) (us : List Value) (wr : World) : Prop :=
  us.length = k ∧ wr.ownsMap Tryd.prog 9 RV w.heap.size k (mapD (pairs gs us)) ∧ (∀ i u, us[i]? = some u → (gs.getD i n0).a.handed w.heap.size u wr ∧ leads u ≠ some w.heap.size) ∧ Below w.heap.size w wr
theorem mapSo_start (gs : List NRec) (w : World) : MapSo gs w 0 [] (w.alloc (.map #[] 0)) :=
  ⟨rfl, by have := World.ownsMap_made (H := Value) w Tryd.prog 9 RV; simpa [pairs, mapD] using this, fun i u h => by simp at h, (Below.refl _ _).alloc (Nat.le_refl _) _⟩
theorem mapSo_step {gs : List NRec} {w : World} {k : Nat} {us : List Value} {u : Value} {wr w1 w2 : World} (h : MapSo gs w k us wr) (hk : k < gs.length) (hs : w.heap.size < wr.heap.size) (hb : Below wr.heap.size wr w1)
    (hu : (gs.getD k n0).a.handed w.heap.size u w1) (hl : ∀ g, leads u = some g → wr.heap.size ≤ g)
    (ho : w2.ownsMap Tryd.prog 9 RV w.heap.size (k + 1) ((mapD (pairs gs us)).put (klS (gs.getD k n0).s) (.held u))) (hg : w1.grownBy w2 (some w.heap.size)) : MapSo gs w (k + 1) (us ++ [u]) w2 := by
  obtain ⟨h1, h2, h3, h4⟩ := h
  have s1 := hb.size
  refine ⟨by simp [h1], ?_, fun i x hx => ?_, ?_⟩
  · rw [pairs_snoc _ _ _ (by omega), mapD_snoc, h1]
    exact ho
  · rcases Nat.lt_or_ge i us.length with hi | hi
    · rw [List.getElem?_append_left hi] at hx
      obtain ⟨q1, q2⟩ := h3 i x hx
      have q3 := handed_grown q1 (grown_none hb) (by cases e : leads x <;> simp)
      exact ⟨handed_grown q3 hg (.inr q2), q2⟩
    · have hx2 : i = us.length ∧ x = u := by
        rw [List.getElem?_append_right hi] at hx
        have : i - us.length = 0 := by
          rcases Nat.eq_zero_or_pos (i - us.length) with e | e
          · exact e
          · rw [List.getElem?_eq_none (by simp; omega)] at hx; cases hx
        rw [this] at hx
        exact ⟨by omega, by simpa using hx.symm⟩
      obtain ⟨rfl, rfl⟩ := hx2
      have hne : leads x ≠ some w.heap.size := fun hh => by have := hl _ hh; omega
      rw [h1]
      exact ⟨handed_grown hu hg (.inr hne), hne⟩
  · exact (h4.trans (hb.mono (by omega))).grown hg (by omega) (fun k hk => by cases hk; exact Nat.le_refl _)
/-- The arguments lie, are of what goOf takes, and have different names. -/
structure NamesOk (w : World) (A : Option Addr) (gs : List NRec) : Prop where
  many : gs.length ≤ 1000000
  lie : gs = [] ∨ ∃ b off, A = some ⟨b, off, none⟩ ∧ b < w.heap.size ∧ ∀ i, i < gs.length → (gs.getD i n0).lies w b (off + i * 5)
  ok : ∀ i, i < gs.length → (gs.getD i n0).a.ok w
  differ : ∀ i k, i < k → k < gs.length → (gs.getD i n0).s ≠ (gs.getD k n0).s
  short : ∀ i, i < gs.length → (gs.getD i n0).s.size ≤ maxLen
def MapOk (gs : List NRec) (w : World) (e : Ending) (w' : World) : Prop :=
  ∃ us, e = .returned (.tuple #[.map (some w.heap.size), .bool true]) ∧ MapSo gs w gs.length us w'
theorem map_none (A : Option Addr) (c : Nat) (w : World) : Calls Tryd.prog 37 #[.slice A 0 c] w (MapOk [] w) := by
  have hmm := @run_makeMap Tryd.prog
  have HS := Lib.hid (mapSo_start [] w)
  go_enter Tryd.func37, Tryd.ntmps37
  go_wp2
  go_loop [14] (fun i => i = .int .i64 0) (fun _ => 0)
  case atStart => exact rfl
  case round =>
    obtain rfl := hrel
    go_wp2
    go_ret2
    exact ⟨[], rfl, HS.out⟩

set_option maxHeartbeats 2000000 in
set_option maxRecDepth 100000 in
theorem map_any (b off n c : Nat) (gs : List NRec) (w : World) (hn : gs.length = n) (hm : n ≤ 1000000) (hb : b < w.heap.size) (hxs : ∀ i, i < n → (gs.getD i n0).lies w b (off + i * 5)) (hok : ∀ i, i < n → (gs.getD i n0).a.ok w)
    (hd : ∀ i k, i < k → k < n → (gs.getD i n0).s ≠ (gs.getD k n0).s) (hz : ∀ i, i < n → (gs.getD i n0).s.size ≤ maxLen) :
    Calls Tryd.prog 37 #[.slice (some ⟨b, off, none⟩) n c] w (MapOk gs w) := by
  have hmm := @run_makeMap Tryd.prog
  have HX := Lib.hid hxs
  have HK := Lib.hid hok
  have HD := Lib.hid hd
  have HZ := Lib.hid hz
  have HN := Lib.hid hn
  have HS0 := Lib.hid (mapSo_start gs w)
  clear hxs hok hd hz hn
  go_enter Tryd.func37, Tryd.ntmps37
  go_wp2
  go_loopw [14] (fun i wr => ∃ (k : Nat) (us : List Value), k ≤ n ∧ i = .int .i64 k ∧ Hid (MapSo gs w k us wr ∧ w.heap.size < wr.heap.size)) (fun i _ => n - (intOf i).toNat)
  case atStart => exact ⟨0, [], Nat.zero_le _, rfl, Lib.hid ⟨HS0.out, by simp⟩⟩
  case round =>
    obtain ⟨k, us, hk, rfl, HS⟩ := hrel
    clear HS0
    obtain ⟨⟨hl, hown, _, hbel⟩, hsz⟩ := HS.out
    have h0 : (0 : Int) ≤ k := by omega
    by_cases hlt : k < n
    · have hkn : (k : Int) < n := by omega
      obtain ⟨c0, c1, c2, c3, c4⟩ := HX.out k hlt
      have d0 := (hbel.cell (p := ⟨b, off + k * 5, none⟩) hb).trans c0
      have d1 := (hbel.cell (p := ⟨b, off + k * 5 + 1, none⟩) hb).trans c1
      have d2 := (hbel.cell (p := ⟨b, off + k * 5 + 2, none⟩) hb).trans c2
      have d3 := (hbel.cell (p := ⟨b, off + k * 5 + 3, none⟩) hb).trans c3
      have d4 := (hbel.cell (p := ⟨b, off + k * 5 + 4, none⟩) hb).trans c4
      clear c0 c1 c2 c3 c4 hl hown hbel
      go_wp2_with fail
      refine (goOf_arg w.heap.size [(gs.getD k n0).a] 0 w _ (HK.out k hlt) (HS.out.1.2.2.2.alloc (by omega) _) (by simp; omega)).mono ?_
      rintro e w1 ⟨u, rfl, h1, hq, hb1, hld⟩
      have HQ1 := Lib.hid hq
      have HL1 := Lib.hid hld
      have hc := hb1.cell (p := ⟨wr.heap.size, 0, none⟩) (by simp)
      have HB1 := Lib.hid ((((Below.refl wr.heap.size wr).alloc (Nat.le_refl _) _)).trans (hb1.mono (by simp)))
      have hno := (look_none (lookN_none (pairs gs us) (gs.getD k n0).s (fun p hp => by
        obtain ⟨i, a1, a2, a3, _⟩ := pairs_mem _ _ _ hp
        rw [a3]
        exact HD.out i k (by have := HS.out.1.1; omega) hlt)))
      simp only [List.getD_eq_getElem?_getD] at hno
      have HNO := Lib.hid hno
      clear hq hld hb1 d0 d1 d2 d3 d4 hno
      have HO1 := Lib.hid (HS.out.1.2.1.kept (grown_none HB1.out) (by simp))
      rcases h1 with rfl | ⟨t, x, rfl⟩
      all_goals
        go_wp2_with (at_lookup; refine wpList_lookup_own_ok _ rfl _ _ 72 rfl 9 20 lawS Tryd.underlying72 RV (zeroI _) (.held .nilIface) [] rfl w.heap.size k _ rfl HO1.out _ _ rfl (keyS _ (HZ.out k hlt)) ?_; intro v ps hv; rw [HNO.out]; clear hv; refine Hid.out ?_)
        refine Lib.hid ?_
        go_wp2_with (at_mapUpdate; refine wpList_mapUpdate_own _ rfl _ _ _ 72 rfl 9 20 lawS Tryd.underlying72 RV w.heap.size k _ rfl HO1.out (by unfold maxLen; omega) _ _ _ rfl rfl (keyS _ (HZ.out k hlt)) (.held _) [] rfl ?_; intro w2 hown2 hg2; refine Hid.out ?_)
        refine Lib.hid ?_
        have HS2 := Lib.hid (mapSo_step HS.out.1 (by have := HN.out; omega) hsz HB1.out HQ1.out (fun g hg => by have := HL1.out g hg; simp only [World.size_alloc] at this; omega) hown2 hg2)
        have hsz2 := Nat.le_trans HB1.out.size hg2.size
        clear hown2 hg2
        go_wp2
        go_roundw
        case rel => exact ⟨k + 1, _, by omega, by go_num, Lib.hid ⟨HS2.out, by omega⟩⟩
        case measure => simp [intOf]; omega
    · obtain rfl : k = n := by omega
      clear hl hown hbel
      go_wp2
      go_ret2
      obtain rfl := HN.out
      exact ⟨us, rfl, HS.out.1⟩
theorem mapOf_names (A : Option Addr) (c : Nat) (gs : List NRec) (w : World) (h : NamesOk w A gs) :
    Calls Tryd.prog 37 #[.slice A gs.length c] w (MapOk gs w) := by
  rcases h.lie with rfl | ⟨b, off, rfl, h1, h2⟩
  · exact map_none A c w
  · exact map_any b off gs.length c gs w rfl h.many h1 h2 h.ok h.differ h.short
end Go.Proofs.YtpjadgdimkdblaaDoor
