/- The entries that In keeps of its arguments; asSliceForIn walked. The shelf's contract of (*strings.Builder).WriteString laid at this program: its numbers; no walk. A builder beside other rows of the call's own: what stays as it was. No walk. What the loops of In carry, and how a round hands it on. No loop is walked here. -/
import Derived.Test.YtpjadgdimkdblaaDoorValues
import Derived.Shelf.Strings.BuilderK
import Derived.Test.YtpjadgdimkdblaaDoorProg
import Derived.Test.YtpjadgdimkdblaaDoorWords
import Derived.Lib.OthersKept
import Derived.Test.YtpjadgdimkdblaaDoorArgs
namespace Go.Proofs.YtpjadgdimkdblaaDoor
open Go.RowKit
set_option linter.unusedVariables false

theorem asSlice_list (sv : Value) (w : World) :
    Calls Tryd.prog 56 #[.iface 71 sv] w fun e w' => e = .returned (.tuple #[sv, .bool true]) ∧ w = w' := by
  have t1 := ta_ll
  go_enter Tryd.func56, Tryd.ntmps56
  go_wp2_with fail
  go_ret2
  exact ⟨rfl, rfl⟩
theorem asSlice_flat (x : VRec) (w : World) (h0 : 0 ≤ x.k) (h4 : x.k ≤ 4) :
    Calls Tryd.prog 56 #[x.fl] w fun e w' => e = .returned (.tuple #[.slice none 0 0, .bool false]) ∧ w = w' := by
  obtain ⟨k, n, t, A, m, c⟩ := x
  simp only at h0 h4
  have h : k = 0 ∨ k = 1 ∨ k = 2 ∨ k = 3 ∨ k = 4 := by omega
  rcases h with rfl | rfl | rfl | rfl | rfl
  all_goals
    unfold VRec.fl ifaceOf
    simp only []
    have t0 := ta_nl
    have t1 := ta_il
    have t2 := ta_sl
    have t3 := ta_bl
    go_enter Tryd.func56, Tryd.ntmps56
    go_wp2_with fail
    go_ret2
    exact ⟨rfl, rfl⟩
/-- The array of 32 entries, as it begins. -/
def metaZ : Array Value := ((List.replicate 32 [Value.slice none 0 0, .nilIface, .int .i64 0]).flatten).toArray
theorem zeroMeta (w : World) : (zeroValue 94).run Tryd.prog w = .ok (.agg metaZ) w := by kernel_rfl
/-- The three cells of an entry. -/
def mv (u : Value) (a : ARec) : Value := if a.x.k = 5 then (match u with | .iface _ sv => sv | _ => .slice none 0 0) else .slice none 0 0
def mi (u : Value) (a : ARec) : Value := if a.x.k = 5 then .nilIface else u
def ml (a : ARec) : Nat := if a.x.k = 5 then a.ys.length else 0
def Entry (cs : Array Value) (i : Nat) (v j : Value) (l : Nat) : Prop := cs[i * 3]? = some v ∧ cs[i * 3 + 1]? = some j ∧ cs[i * 3 + 2]? = some (.int .i64 l)
def MetaAt (cs : Array Value) (us : List Value) (gs : List ARec) (k : Nat) : Prop :=
  cs.size = 96 ∧ (∀ i, i < k → Entry cs i (mv (us.getD i .nilIface) (gs.getD i a0)) (mi (us.getD i .nilIface) (gs.getD i a0)) (ml (gs.getD i a0))) ∧ (∀ i, k ≤ i → i < 32 → Entry cs i (.slice none 0 0) .nilIface 0)
theorem flat3 (a b c : Value) (n : Nat) : ∀ i, i < n → ((List.replicate n [a, b, c]).flatten)[i * 3]? = some a ∧ ((List.replicate n [a, b, c]).flatten)[i * 3 + 1]? = some b ∧ ((List.replicate n [a, b, c]).flatten)[i * 3 + 2]? = some c := by
  induction n with
  | zero => intro i h; omega
  | succ n ih =>
    intro i h
    rw [List.replicate_succ, List.flatten_cons]
    rcases i with _ | i
    · exact ⟨rfl, rfl, rfl⟩
    · have := ih i (by omega)
      rw [show (i + 1) * 3 = i * 3 + 3 from by omega]
      exact this
theorem metaZ_entry : ∀ i, i < 32 → Entry metaZ i (.slice none 0 0) .nilIface 0 := by
  intro i hi
  have := flat3 (.slice none 0 0) .nilIface (.int .i64 0) 32 i hi
  unfold Entry metaZ
  simpa using this
theorem metaAt_start (us : List Value) (gs : List ARec) : MetaAt metaZ us gs 0 := ⟨rfl, fun i h => by omega, fun i _ h => metaZ_entry i h⟩
theorem entry_other {cs : Array Value} {i j : Nat} {v q : Value} {l : Nat} {x : Value} (h : Entry cs i v q l) (hj : j / 3 ≠ i) : Entry (cs.setIfInBounds j x) i v q l := by
  unfold Entry at h ⊢
  rw [Array.getElem?_setIfInBounds_ne (by omega), Array.getElem?_setIfInBounds_ne (by omega), Array.getElem?_setIfInBounds_ne (by omega)]
  exact h
theorem entry_list {cs : Array Value} {i : Nat} {v : Value} {l : Nat} (hs : cs.size = 96) (hi : i < 32) (h : Entry cs i (.slice none 0 0) .nilIface 0) :
    Entry ((cs.setIfInBounds (i * 3 + 2) (.int .i64 l)).setIfInBounds (i * 3) v) i v .nilIface l := by
  unfold Entry at h ⊢
  refine ⟨?_, ?_, ?_⟩
  · rw [Array.getElem?_setIfInBounds_self_of_lt (by simp; omega)]
  · rw [Array.getElem?_setIfInBounds_ne (by omega), Array.getElem?_setIfInBounds_ne (by omega)]; exact h.2.1
  · rw [Array.getElem?_setIfInBounds_ne (by omega), Array.getElem?_setIfInBounds_self_of_lt (by omega)]
theorem entry_one {cs : Array Value} {i : Nat} {u : Value} (hs : cs.size = 96) (hi : i < 32) (h : Entry cs i (.slice none 0 0) .nilIface 0) :
    Entry (cs.setIfInBounds (i * 3 + 1) u) i (.slice none 0 0) u 0 := by
  unfold Entry at h ⊢
  refine ⟨?_, ?_, ?_⟩
  · rw [Array.getElem?_setIfInBounds_ne (by omega)]; exact h.1
  · rw [Array.getElem?_setIfInBounds_self_of_lt (by omega)]
  · rw [Array.getElem?_setIfInBounds_ne (by omega)]; exact h.2.2
theorem metaAt_list {cs : Array Value} {us : List Value} {gs : List ARec} {k : Nat} (h : MetaAt cs us gs k) (hk : k < 32) (h5 : (gs.getD k a0).x.k = 5) (sv : Value) (t : TypeId) (hu : us.getD k .nilIface = .iface t sv) :
    MetaAt ((cs.setIfInBounds (k * 3 + 2) (.int .i64 (gs.getD k a0).ys.length)).setIfInBounds (k * 3) sv) us gs (k + 1) := by
  refine ⟨by rw [← h.1]; simp, fun i hi => ?_, fun i hi h32 => entry_other (entry_other (h.2.2 i (by omega) h32) (by omega)) (by omega)⟩
  by_cases e : i = k
  · subst e
    have := entry_list (v := sv) (l := (gs.getD i a0).ys.length) h.1 hk (h.2.2 i (Nat.le_refl _) hk)
    unfold mv mi ml
    rw [if_pos h5, if_pos h5, if_pos h5, hu]
    exact this
  · exact entry_other (entry_other (h.2.1 i (by omega)) (by omega)) (by omega)
theorem metaAt_one {cs : Array Value} {us : List Value} {gs : List ARec} {k : Nat} (h : MetaAt cs us gs k) (hk : k < 32) (h5 : ¬ (gs.getD k a0).x.k = 5) :
    MetaAt (cs.setIfInBounds (k * 3 + 1) (us.getD k .nilIface)) us gs (k + 1) := by
  refine ⟨by rw [← h.1]; simp, fun i hi => ?_, fun i hi h32 => entry_other (h.2.2 i (by omega) h32) (by omega)⟩
  by_cases e : i = k
  · subst e
    have := entry_one (u := us.getD i .nilIface) h.1 hk (h.2.2 i (Nat.le_refl _) hk)
    unfold mv mi ml
    rw [if_neg h5, if_neg h5, if_neg h5]
    exact this
  · exact entry_other (h.2.1 i (by omega)) (by omega)
end Go.Proofs.YtpjadgdimkdblaaDoor
namespace Go.Proofs
open Go.Shelf
def Tryd.wsRen : Go.Shelf.Ren := ⟨fun | 166 => 58 | 240 => 66 | 276 => 74 | n => n, fun | 9 => 9 | 3 => 3 | 4 => 4 | 20 => 20 | 0 => 0 | 5 => 5 | 72 => 99 | 76 => 101 | 70 => 97 | 37 => 59 | 75 => 68 | 164 => 122 | 80 => 104 | n => n, fun | n => n⟩
theorem Tryd.wsLays : Go.Proofs.Lays.n166 Tryd.prog Tryd.wsRen := {
  mixed := by kernel_rfl
  f166 := Tryd.func58.trans (congrArg some (by kernel_rfl))
  f240 := Tryd.func66.trans (congrArg some (by kernel_rfl))
  f276 := Tryd.func74.trans (congrArg some (by kernel_rfl))
  t0 := Tryd.underlying0
  a0 := Tryd.isAgg0
  z0 := Tryd.sizeOf0
  v0 := Tryd.zeroValue0
  t3 := Tryd.underlying3
  a3 := Tryd.isAgg3
  z3 := Tryd.sizeOf3
  v3 := Tryd.zeroValue3
  t4 := Tryd.underlying4
  a4 := Tryd.isAgg4
  z4 := Tryd.sizeOf4
  v4 := Tryd.zeroValue4
  t9 := Tryd.underlying9
  a9 := Tryd.isAgg9
  z9 := Tryd.sizeOf9
  v9 := Tryd.zeroValue9
  t20 := Tryd.underlying20
  a20 := Tryd.isAgg20
  z20 := Tryd.sizeOf20
  v20 := Tryd.zeroValue20
  t37 := Tryd.underlying59
  a37 := Tryd.isAgg59
  z37 := Tryd.sizeOf59
  v37 := Tryd.zeroValue59
  t70 := Tryd.underlying97
  a70 := Tryd.isAgg97
  z70 := Tryd.sizeOf97
  v70 := Tryd.zeroValue97
  t72 := Tryd.underlying99
  a72 := Tryd.isAgg99
  z72 := Tryd.sizeOf99
  v72 := Tryd.zeroValue99
  t75 := Tryd.underlying68
  a75 := Tryd.isAgg68
  z75 := Tryd.sizeOf68
  v75 := Tryd.zeroValue68
  t164 := Tryd.underlying122
  a164 := Tryd.isAgg122
  z164 := Tryd.sizeOf122
  v164 := Tryd.zeroValue122 }
theorem Tryd.wsExtra : Builder.Extra Tryd.prog Tryd.wsRen := {
  sizeBuilder := by kernel_rfl
  liesBuilder := by kernel_rfl
  t5 := Tryd.underlying5
  a5 := Tryd.isAgg5
  z5 := Tryd.sizeOf5
  v5 := Tryd.zeroValue5
  infoByte := by kernel_rfl
  cellsByte := by kernel_rfl
  sizeByte := by kernel_rfl
  neB5 := by decide }
open Go.RowKit in
theorem Tryd.writeString (B b : Nat) (bs : List Value) (s : ByteArray) (w : World) (h : Lib.IsBuilderF 99 5 B b bs w) (hlen : bs.length + s.size ≤ 140737488355328) (hBw : B ≤ w.heap.size) :
    Calls Tryd.prog 58 #[.pointer (some ⟨b, 0, none⟩), .string s] w fun e w' => e = .returned (.tuple #[.int .i64 s.size, .nilIface]) ∧ (Lib.BuilderAtF 99 5 B b (.pointer (some ⟨b, 0, none⟩)) (bs ++ Lib.strCells s) w' ∧ Below B w w' ∧ Lib.OthersKept 5 (some b) w w') := Any.Builder_WriteString_k Tryd.wsLays Tryd.wsExtra B b bs s w h hlen hBw
end Go.Proofs
namespace Go.Proofs.YtpjadgdimkdblaaDoor
open Go.RowKit
set_option linter.unusedVariables false

/-- Block b is a builder that holds the bytes l. -/
def Bld (B b : Nat) (l : List UInt8) (w : World) : Prop := Lib.IsBuilderF 99 5 B b (Lib.byteCells l) w
theorem own_ne_block {w : World} {B : Nat} {e T : TypeId} {size n g : Nat} {v : Value} {xs : List Value} {cs : Array Value} {fz : Nat × Nat} (h : w.ownsRow B e size v n xs) (hg : w.heap[g]? = some (.cells cs T fz)) (hne : e ≠ T) : v.ownBlock ≠ some g := by
  rcases h.2 with ⟨rfl, _⟩ | ⟨g', cap, cur, rfl, _, hh, _⟩
  · simp [Value.ownBlock]
  · intro he
    have e1 : g' = g := by simpa [Value.ownBlock] using he
    subst e1
    rw [hg] at hh
    injection hh with hh
    injection hh with _ h2
    exact hne h2.symm
theorem own_others {w w' : World} {B b : Nat} {e T u : TypeId} {size n : Nat} {v : Value} {xs : List Value} {cs : Array Value} {fz : Nat × Nat} (h : w.ownsRow B e size v n xs) (hb : w.heap[b]? = some (.cells cs T fz)) (h1 : e ≠ T) (h2 : e ≠ u) (hk : Lib.OthersKept u (some b) w w') : w'.ownsRow B e size v n xs := by
  have hne := own_ne_block h hb h1
  refine ⟨h.1, ?_⟩
  rcases h.2 with hn | ⟨g, cap, cur, rfl, hg, hh, r⟩
  · exact .inl hn
  · refine .inr ⟨g, cap, cur, rfl, hg, hk g _ hh (by simpa [Value.ownBlock] using hne) (fun c fz hc => ?_), r⟩
    injection hc with _ h3
    exact h2 h3
theorem block_others {w w' : World} {b g : Nat} {u T : TypeId} {cs : Array Value} {fz : Nat × Nat} (h : w.heap[g]? = some (.cells cs T fz)) (hb : g ≠ b) (hu : T ≠ u) (hk : Lib.OthersKept u (some b) w w') : w'.heap[g]? = some (.cells cs T fz) :=
  hk g _ h (by simpa using hb) (fun c fz hc => by injection hc with _ h3; exact hu h3)
theorem bld_block {B b : Nat} {l : List UInt8} {w : World} (h : Bld B b l w) : ∃ cs, w.heap[b]? = some (.cells cs 99 (0, 0)) := by
  rcases h with ⟨_, v, h, _⟩ | ⟨_, v, h, _⟩ <;> exact ⟨_, h⟩
theorem bldAt_grown {B b : Nat} {p : Value} {bs : List Value} {w w' : World} {row : Option Nat} (h : Lib.BuilderAtF 99 5 B b p bs w) (hg : w.grownBy w' row) (hb : row ≠ some b)
    (hr : ∀ g c fz, row = some g → w.heap[g]? ≠ some (.cells c 5 fz)) : Lib.BuilderAtF 99 5 B b p bs w' := by
  obtain ⟨h1, v, h2, h3, h4⟩ := h
  have hlt : b < w.heap.size := (Array.getElem?_eq_some_iff.1 h2).1
  refine ⟨h1, v, (hg.block b hlt (fun e => hb e.symm)).trans h2, h3.kept hg ?_, h4⟩
  rcases hv : v.ownBlock with _ | g
  · exact .inl rfl
  · right
    intro e
    rcases h3.2 with ⟨rfl, _⟩ | ⟨g', cap, cur, fz, rfl, _, hh, _⟩
    · simp [Value.ownBlock] at hv
    · have e1 : g' = g := by simpa [Value.ownBlock] using hv
      subst e1
      exact hr g' cur fz e.symm hh
theorem bld_grown {B b : Nat} {l : List UInt8} {w w' : World} {row : Option Nat} (h : Bld B b l w) (hg : w.grownBy w' row) (hb : row ≠ some b)
    (hr : ∀ g c fz, row = some g → w.heap[g]? ≠ some (.cells c 5 fz)) : Bld B b l w' :=
  h.elim (fun h => .inl (bldAt_grown h hg hb hr)) (fun h => .inr (bldAt_grown h hg hb hr))
/-- An append to a row of another kind leaves the builder. -/
theorem bld_append {B B2 b : Nat} {l : List UInt8} {w w' : World} {e : TypeId} {size n : Nat} {v : Value} {xs : List Value} (h : Bld B b l w) (ho : w.ownsRow B2 e size v n xs) (hg : w.grownBy w' v.ownBlock)
    (h1 : e ≠ 99) (h2 : e ≠ 5) : Bld B b l w' := by
  obtain ⟨cs, hb⟩ := bld_block h
  exact bld_grown h hg (own_ne_block ho hb h1) (fun g c fz hr hh => own_ne_block ho hh h2 hr)
theorem bld_alloc {B b : Nat} {l : List UInt8} {w : World} (h : Bld B b l w) (o : Obj) : Bld B b l (w.alloc o) := Lib.IsBuilderF.alloc h o
/-- A store into a block of another kind leaves the builder. -/
theorem bld_quiet {B b : Nat} {l : List UInt8} {w w' : World} (h : Bld B b l w) (hg : w.grownBy w' none) : Bld B b l w' := bld_grown h hg (by simp) (fun g c fz hr => by cases hr)
theorem bld_app {B b : Nat} {l : List UInt8} {s : ByteArray} {w : World} (h : Lib.BuilderAtF 99 5 B b (.pointer (some ⟨b, 0, none⟩)) (Lib.byteCells l ++ Lib.strCells s) w) : Bld B b (l ++ s.data.toList) w := by
  unfold Bld
  rw [Lib.byteCells_append]
  exact .inr h
end Go.Proofs.YtpjadgdimkdblaaDoor
namespace Go.Proofs.YtpjadgdimkdblaaDoor
open Go.RowKit
set_option linter.unusedVariables false

def cnt (a : ARec) : Nat := if a.x.k = 5 then a.ys.length else 1
def flatN (gs : List ARec) (k : Nat) : Nat := ((gs.take k).map cnt).sum
def anyL (gs : List ARec) (k : Nat) : Bool := (gs.take k).any (fun a => a.x.k == 5)
theorem flatN_succ {gs : List ARec} {k : Nat} (h : k < gs.length) : flatN gs (k + 1) = flatN gs k + cnt (gs.getD k a0) := by
  unfold flatN
  rw [List.take_add_one, List.getElem?_eq_getElem h, List.getD_eq_getElem?_getD, List.getElem?_eq_getElem h, List.map_append, List.sum_append]
  rfl
theorem anyL_succ {gs : List ARec} {k : Nat} (h : k < gs.length) : anyL gs (k + 1) = (anyL gs k || (gs.getD k a0).x.k == 5) := by
  unfold anyL
  rw [List.take_add_one, List.getElem?_eq_getElem h, List.getD_eq_getElem?_getD, List.getElem?_eq_getElem h, List.any_append]
  simp only [Option.toList, List.any_cons, List.any_nil, Bool.or_false, Option.getD]
/-- What In is called with. -/
structure InArgs (A : Option Addr) (n : Nat) (us : List Value) (gs : List ARec) (Bh : Nat) (w : World) : Prop where
  few : n ≤ 32
  gsn : gs.length = n
  usn : us.length = n
  row : ∀ i, i < n → ∃ g, A = some ⟨g, 0, none⟩ ∧ g < w.heap.size ∧ w.cell? ⟨g, i, none⟩ = some (us.getD i .nilIface)
  handed : ∀ i, i < n → (gs.getD i a0).handed Bh (us.getD i .nilIface) w
  kinds : ∀ i, i < n → 0 ≤ (gs.getD i a0).x.k ∧ (gs.getD i a0).x.k ≤ 5
  small : ∀ i, i < n → (gs.getD i a0).ys.length ≤ 1000000
/-- A call that is refused: an error. -/
def Refused3 (w : World) (e : Ending) (w' : World) : Prop := ∃ t x, e = .returned (.tuple #[.string ⟨#[]⟩, .slice none 0 0, .iface t x]) ∧ Below w.heap.size w w'
theorem setCell_block {w : World} {b : Nat} {cs : Array Value} {t : TypeId} (h : w.heap[b]? = some (.cells cs t (0, 0))) (o : Nat) (v : Value) : (w.setCell ⟨b, o, none⟩ v).heap[b]? = some (.cells (cs.setIfInBounds o v) t (0, 0)) := by
  simp [World.setCell, Array.getElem?_modify, h]
theorem frozen_block {w : World} {b : Nat} {cs : Array Value} {t : TypeId} (h : w.heap[b]? = some (.cells cs t (0, 0))) (o : Nat) : w.frozen? ⟨b, o, none⟩ = false := by
  simp [World.frozen?, h]
/-- What the first loop carries. -/
def InSo (us : List Value) (gs : List ARec) (w : World) (k m : Nat) (any : Bool) (wr : World) : Prop :=
  m = flatN gs k ∧ any = anyL gs k ∧ (∃ cs, wr.heap[w.heap.size]? = some (.cells cs 94 (0, 0)) ∧ MetaAt cs us gs k) ∧ Below w.heap.size w wr ∧ wr.heap.size = w.heap.size + 1 ∧ (∀ i, i < k → ¬ ((gs.getD i a0).x.k = 5 ∧ (gs.getD i a0).ys = []))

def RowOf (w : World) (sv : Value) (xs : List VRec) : Prop :=
  ∃ A c, sv = .slice A xs.length c ∧ ∀ i, i < xs.length → ∃ g, A = some ⟨g, 0, none⟩ ∧ g < w.heap.size ∧ w.cell? ⟨g, i, none⟩ = some (xs.getD i z0).fl
theorem own_cell {w : World} {B : Nat} {e : TypeId} {v : Value} {n : Nat} {us : List Value} (h : w.ownsRow B e 1 v n us) (i : Nat) (hi : i < n) : ∃ g cap, v = .slice (some ⟨g, 0, none⟩) n cap ∧ g < w.heap.size ∧ w.cell? ⟨g, i, none⟩ = some (us.getD i .nilIface) := by
  have hl : us.length = n := by have := h.1; omega
  have hc := fun g => h.cells (g := g)
  rcases h.2 with ⟨_, rfl⟩ | ⟨g, cap, cur, rfl, hb, hh, _⟩
  · omega
  · refine ⟨g, cap, rfl, (Array.getElem?_eq_some_iff.1 hh).1, ?_⟩
    have := hc g rfl i us[i] (List.getElem?_eq_getElem (by omega))
    have hadd : (⟨g, 0, none⟩ : Addr).add i = ⟨g, i, none⟩ := by unfold Addr.add; split <;> simp_all
    rw [hadd] at this
    rw [this, List.getD_eq_getElem?_getD, List.getElem?_eq_getElem (by omega)]
    rfl
theorem own_cells {w : World} {B : Nat} {e : TypeId} {v : Value} {n : Nat} {us : List Value} (h : w.ownsRow B e 1 v n us) (h0 : 0 < n) : ∃ g cap, v = .slice (some ⟨g, 0, none⟩) n cap ∧ g < w.heap.size ∧ ∀ j u, us[j]? = some u → w.cell? ((⟨g, 0, none⟩ : Addr).add j) = some u := by
  have hc := fun g => h.cells (g := g)
  rcases h.2 with ⟨_, rfl⟩ | ⟨g, cap, cur, rfl, hb, hh, _⟩
  · omega
  · exact ⟨g, cap, rfl, (Array.getElem?_eq_some_iff.1 hh).1, hc g rfl⟩
theorem rowOf_own {w : World} {B : Nat} {e : TypeId} {v : Value} {xs : List VRec} (h : w.ownsRow B e 1 v xs.length (xs.map VRec.fl)) : RowOf w v xs := by
  obtain ⟨a, c, rfl⟩ := ownsRow_form h
  refine ⟨a, c, rfl, fun i hi => ?_⟩
  obtain ⟨g, cap, hv, hg, hc⟩ := own_cell h i hi
  injection hv with hv
  refine ⟨g, hv, hg, hc.trans ?_⟩
  rw [List.getD_eq_getElem?_getD, List.getD_eq_getElem?_getD, List.getElem?_map, List.getElem?_eq_getElem hi]
  rfl
/-- What In hands back. -/
def InOk (q : ByteArray) (gs : List ARec) (w : World) (e : Ending) (w' : World) : Prop :=
  match inSpec q.data.toList gs with
  | none => Refused3 w e w'
  | some p => ∃ sv, e = .returned (.tuple #[.string ⟨p.1.toArray⟩, sv, .nilIface]) ∧ RowOf w' sv p.2 ∧ Below w.heap.size w w'
theorem inOk_none {q : ByteArray} {gs : List ARec} {w w' : World} {e : Ending} (h : inSpec q.data.toList gs = none) (hr : Refused3 w e w') : InOk q gs w e w' := by unfold InOk; rw [h]; exact hr
theorem inOk_some {q : ByteArray} {gs : List ARec} {w w' : World} {e : Ending} {t : List UInt8} {vs : List VRec} (h : inSpec q.data.toList gs = some (t, vs)) (sv : Value) (he : e = .returned (.tuple #[.string ⟨t.toArray⟩, sv, .nilIface])) (hr : RowOf w' sv vs) (hb : Below w.heap.size w w') : InOk q gs w e w' := by unfold InOk; rw [h]; exact ⟨sv, he, hr, hb⟩
theorem spec_empty {q : List UInt8} {gs : List ARec} {i : Nat} (hi : i < gs.length) (h : emptyL (gs.getD i a0)) : inSpec q gs = none := by
  unfold inSpec
  rw [if_pos]
  refine ⟨gs.getD i a0, ?_, h⟩
  rw [List.getD_eq_getElem?_getD, List.getElem?_eq_getElem hi]
  exact List.getElem_mem hi
theorem spec_lists {q : List UInt8} {gs : List ARec} (h : ∀ i, i < gs.length → ¬ emptyL (gs.getD i a0)) (ha : gs.any isL = true) : inSpec q gs = ex q gs := by
  unfold inSpec
  rw [if_neg, if_pos ha]
  rintro ⟨a, hm, he⟩
  obtain ⟨i, hi, rfl⟩ := List.getElem_of_mem hm
  exact h i hi (by rw [List.getD_eq_getElem?_getD, List.getElem?_eq_getElem hi]; exact he)
theorem spec_plain {q : List UInt8} {gs : List ARec} (ha : gs.any isL = false) : inSpec q gs = some (q, gs.map ARec.x) := by
  unfold inSpec
  have hno : ∀ a ∈ gs, ¬ a.x.k = 5 := fun a hm h5 => by
    have := List.any_eq_false.1 ha a hm
    exact this (by unfold isL; simpa using h5)
  rw [if_neg (by rintro ⟨a, hm, he⟩; exact hno a hm he.1), if_neg (by rw [ha]; simp)]
/-- What the second loop carries. -/
def In2 (q : ByteArray) (us : List Value) (gs : List ARec) (n : Nat) (w : World) (b : Nat) (s : ByteArray) (off ai : Nat) (l : List UInt8) (vs : List VRec) (v : Value) (wr : World) : Prop :=
  Done q.data.toList gs (l ++ s.data.toList.take off) vs (s.data.toList.drop off) (gs.drop ai) ∧
  (∃ cs, wr.heap[w.heap.size]? = some (.cells cs 94 (0, 0)) ∧ MetaAt cs us gs n) ∧
  wr.ownsRow w.heap.size 20 1 v vs.length (vs.map VRec.fl) ∧ Bld b b l wr ∧ Below w.heap.size w wr ∧ w.heap.size < b ∧ b < wr.heap.size ∧
  vs.length ≤ ai * 1000000 ∧ l.length + s.size ≤ q.size + ai * 3000000
def strOfI : Value → ByteArray
  | .string s => s
  | _ => ByteArray.empty
theorem errNewI (s : ByteArray) (w : World) :
    Calls Tryd.prog 51 #[.string s] w fun e w' => Hid (∃ t x, e = .returned (.iface t x) ∧ Below w.heap.size w w') := by
  go_enter Tryd.func51, Tryd.ntmps51
  go_wp2_with fail
  go_ret
  exact Lib.hid ⟨_, _, rfl, (Below.refl _ _).alloc (Nat.le_refl _) _⟩

theorem cell_one_next (w : World) (X : Obj) (u : Value) (T : TypeId) : ∀ j z, [u][j]? = some z → ((w.alloc X).alloc (.cells #[u] T)).cell? ((⟨w.heap.size + 1, 0, none⟩ : Addr).add j) = some z := by
  have h := cell_one_new (w.alloc X) u T
  rw [World.size_alloc] at h
  exact h
theorem grown_two (w : World) (X Y : Obj) : w.grownBy ((w.alloc X).alloc Y) none :=
  ⟨rfl, rfl, rfl, by simp; omega, fun k hk _ => by rw [Below.heap_alloc _ _ _ (by simp; omega), Below.heap_alloc _ _ _ hk]⟩
theorem drop_gs {gs : List ARec} {i : Nat} (h : i < gs.length) : gs.drop i = gs.getD i a0 :: gs.drop (i + 1) := by
  rw [List.drop_eq_getElem_cons h, List.getD_eq_getElem?_getD, List.getElem?_eq_getElem h]
  rfl
theorem take_q {l r : List UInt8} {j : Nat} (h : l = l.take j ++ 63 :: r) (hj : j < l.length) : l.take (j + 1) = l.take j ++ [63] := by
  have hl : (l.take j).length = j := by rw [List.length_take]; omega
  have : l[j]? = some 63 := by
    rw [h, List.getElem?_append_right (by omega), hl, Nat.sub_self]
    rfl
  rw [List.take_add_one, this]
  rfl
theorem in2_done {q : ByteArray} {gs : List ARec} {s : ByteArray} {off ai j : Nat} {l : List UInt8} {vs : List VRec} (h : Done q.data.toList gs (l ++ s.data.toList.take off) vs (s.data.toList.drop off) (gs.drop ai)) (hk : idxQ (s.data.toList.drop off) 0 = (j : Int)) (ha : ai < gs.length) (hj : off + j < s.size) :
    Done q.data.toList gs (l ++ s.data.toList.take (off + j + 1) ++ more (gs.getD ai a0)) (vs ++ vals (gs.getD ai a0)) (s.data.toList.drop (off + j + 1)) (gs.drop (ai + 1)) := by
  rw [drop_gs ha] at h
  have h2 := done_step h hk
  obtain ⟨_, h3, _⟩ := idxN_some (s.data.toList.drop off) 0 j (by simpa using hk)
  have e : s.data.toList.take (off + j + 1) = s.data.toList.take off ++ (s.data.toList.drop off).take j ++ [63] := by
    rw [show off + j + 1 = off + (j + 1) from by omega, List.take_add, take_q h3 (by rw [List.length_drop, size_list]; omega), List.append_assoc]
  rw [List.drop_drop] at h2
  rw [e, show off + j + 1 = off + (j + 1) from by omega]
  simpa [List.append_assoc] using h2
theorem in2_one {q : ByteArray} {us : List Value} {gs : List ARec} {n : Nat} {w : World} {b : Nat} {s : ByteArray} {off ai j : Nat} {l : List UInt8} {vs : List VRec} {v v2 : Value} {wr w1 w2 : World}
    (h : In2 q us gs n w b s off ai l vs v wr) (hk : idxQ (s.data.toList.drop off) 0 = (j : Int)) (ha : ai < gs.length) (hj : off + j < s.size) (h5 : ¬ (gs.getD ai a0).x.k = 5) (hg1 : wr.grownBy w1 none)
    (ho : w2.ownsRow w.heap.size 20 1 v2 (vs.length + 1) (vs.map VRec.fl ++ [(gs.getD ai a0).x.fl])) (hg2 : w1.grownBy w2 v.ownBlock) :
    In2 q us gs n w b s (off + j + 1) (ai + 1) l (vs ++ [(gs.getD ai a0).x]) v2 w2 := by
  obtain ⟨h1, ⟨cs, h2, h3⟩, h4, hbl, hbe, hb1, hb2, hs1, hs2⟩ := h
  have hd := in2_done h1 hk ha hj
  unfold more vals at hd
  rw [if_neg h5, if_neg h5, List.append_nil] at hd
  have h4' := h4.kept hg1 (none_or _)
  have hlen : (vs ++ [(gs.getD ai a0).x]).length ≤ (ai + 1) * 1000000 := by
    have := @List.length_append _ vs [(gs.getD ai a0).x]
    simp only [List.length_cons, List.length_nil] at this
    omega
  have hlen2 : l.length + s.size ≤ q.size + (ai + 1) * 3000000 := Nat.le_trans hs2 (Nat.add_le_add_left (Nat.mul_le_mul_right _ (Nat.le_succ _)) _)
  have hM1 := (hg1.block _ (by omega) (by simp)).trans h2
  refine ⟨hd, ⟨cs, (hg2.block _ (by have := hg1.size; omega) (fun e => own_ne_block h4' hM1 (by decide) e.symm)).trans hM1, h3⟩, ?_, bld_append (bld_quiet hbl hg1) h4' hg2 (by decide) (by decide), (hbe.grown hg1 (by omega) (fun g hg => by cases hg)).grown hg2 (by have := hg1.size; omega) (fun g hg => (h4'.lt g hg).1), hb1, by have := hg1.size; have := hg2.size; omega, hlen, hlen2⟩
  rw [List.length_append, List.map_append]
  exact ho
theorem in2_list {q : ByteArray} {us : List Value} {gs : List ARec} {n : Nat} {w : World} {b : Nat} {s : ByteArray} {off ai j : Nat} {l : List UInt8} {vs : List VRec} {v v2 : Value} {wr w1 w2 : World}
    (h : In2 q us gs n w b s off ai l vs v wr) (hk : idxQ (s.data.toList.drop off) 0 = (j : Int)) (ha : ai < gs.length) (hj : off + j < s.size) (h5 : (gs.getD ai a0).x.k = 5) (hys : (gs.getD ai a0).ys.length ≤ 1000000)
    (hM : ∃ cs, w1.heap[w.heap.size]? = some (.cells cs 94 (0, 0)) ∧ MetaAt cs us gs n) (h4 : w1.ownsRow w.heap.size 20 1 v vs.length (vs.map VRec.fl))
    (hbl : Bld b b (l ++ s.data.toList.take (off + j + 1) ++ Lib.repeatL [44, 32, 63] ((gs.getD ai a0).ys.length - 1)) w1) (hbe : Below w.heap.size w w1) (hsz : b < w1.heap.size)
    (ho : w2.ownsRow w.heap.size 20 1 v2 (vs.length + (gs.getD ai a0).ys.length) (vs.map VRec.fl ++ (gs.getD ai a0).ys.map VRec.fl)) (hg2 : w1.grownBy w2 v.ownBlock) :
    In2 q us gs n w b (s.extract (off + j + 1) s.size) 0 (ai + 1) (l ++ s.data.toList.take (off + j + 1) ++ Lib.repeatL [44, 32, 63] ((gs.getD ai a0).ys.length - 1)) (vs ++ (gs.getD ai a0).ys) v2 w2 := by
  obtain ⟨h1, _, _, _, _, hb1, _, hs1, hs2⟩ := h
  obtain ⟨cs, h2, h3⟩ := hM
  have hd := in2_done h1 hk ha hj
  unfold more vals at hd
  rw [if_pos h5, if_pos h5] at hd
  have hcut : (s.extract (off + j + 1) s.size).data.toList = s.data.toList.drop (off + j + 1) := by
    rw [cut_list, List.take_of_length_le (by rw [List.length_drop, size_list]; omega)]
  have hcsz : (s.extract (off + j + 1) s.size).size = s.size - (off + j + 1) := by
    rw [← size_list, hcut, List.length_drop, size_list]
  refine ⟨?_, ⟨cs, (hg2.block _ (by omega) (fun e => own_ne_block h4 h2 (by decide) e.symm)).trans h2, h3⟩, ?_, bld_append hbl h4 hg2 (by decide) (by decide), hbe.grown hg2 (by omega) (fun g hg => (h4.lt g hg).1), hb1, by have := hg2.size; omega, by simp only [List.length_append]; omega, ?_⟩
  · rw [hcut, List.take_zero, List.append_nil, List.drop_zero]
    exact hd
  · rw [List.length_append, List.map_append]
    exact ho
  · simp only [List.length_append, hcsz, Lib.repeatL_length, List.length_take, size_list, List.length_cons, List.length_nil]
    omega
theorem cut_end (s : ByteArray) (i : Nat) : (s.extract i s.size).data.toList = s.data.toList.drop i := by
  rw [cut_list, List.take_of_length_le (by rw [List.length_drop, size_list]; omega)]
theorem cut_end_size (s : ByteArray) (i : Nat) : (s.extract i s.size).size = s.size - i := by
  rw [← size_list, cut_end, List.length_drop, size_list]
theorem cut_front (s : ByteArray) (i : Nat) : (s.extract 0 i).data.toList = s.data.toList.take i := by
  rw [cut_list, List.drop_zero, Nat.sub_zero]
theorem repeat_back (l : List UInt8) : ∀ c, Lib.repeatL l (c + 1) = Lib.repeatL l c ++ l
  | 0 => by simp [Lib.repeatL]
  | c + 1 => by
    show l ++ Lib.repeatL l (c + 1) = (l ++ Lib.repeatL l c) ++ l
    rw [repeat_back l c, List.append_assoc]
/-- What the inner loop carries: the builder holds L, all else is as it was. -/
def In3 (us : List Value) (gs : List ARec) (n : Nat) (w : World) (b ab : Nat) (sv : Value) (len : Nat) (vs : List VRec) (v : Value) (L : List UInt8) (w' : World) : Prop :=
  Bld b b L w' ∧ w'.heap[ab]? = some (.cells #[sv, .nilIface, .int .i64 len] 93 (0, 0)) ∧ (∃ cs, w'.heap[w.heap.size]? = some (.cells cs 94 (0, 0)) ∧ MetaAt cs us gs n) ∧
  w'.ownsRow w.heap.size 20 1 v vs.length (vs.map VRec.fl) ∧ Below w.heap.size w w' ∧ w.heap.size < b ∧ b < w'.heap.size
theorem in3_start {q : ByteArray} {us : List Value} {gs : List ARec} {n : Nat} {w : World} {b : Nat} {s : ByteArray} {off ai : Nat} {l : List UInt8} {vs : List VRec} {v : Value} {wr : World} (h : In2 q us gs n w b s off ai l vs v wr) (sv : Value) (len : Nat) :
    In3 us gs n w b wr.heap.size sv len vs v l (wr.alloc (.cells #[sv, .nilIface, .int .i64 len] 93)) := by
  obtain ⟨h1, ⟨cs, h2, h3⟩, h4, hbl, hbe, hb1, hb2, hs1, hs2⟩ := h
  exact ⟨bld_alloc hbl _, heap_alloc_new wr _, ⟨cs, (Below.heap_alloc wr _ _ (by omega)).trans h2, h3⟩, h4.alloc _, hbe.alloc (by omega) _, hb1, by simp; omega⟩
theorem in3_write {us : List Value} {gs : List ARec} {n : Nat} {w : World} {b ab : Nat} {sv : Value} {len : Nat} {vs : List VRec} {v : Value} {L : List UInt8} {s : ByteArray} {w1 w2 : World} (h : In3 us gs n w b ab sv len vs v L w1)
    (ha : Lib.BuilderAtF 99 5 b b (.pointer (some ⟨b, 0, none⟩)) (Lib.byteCells L ++ Lib.strCells s) w2) (hb : Below b w1 w2) (hk : Lib.OthersKept 5 (some b) w1 w2) :
    In3 us gs n w b ab sv len vs v (L ++ s.data.toList) w2 := by
  obtain ⟨h1, h2, ⟨cs, h3, h4⟩, h5, h6, h7, h8⟩ := h
  obtain ⟨bc, hbb⟩ := bld_block h1
  have n1 : ab ≠ b := fun e => by rw [e, hbb] at h2; injection h2 with h2; injection h2 with _ h2; exact absurd h2 (by decide)
  have n2 : w.heap.size ≠ b := by omega
  exact ⟨bld_app ha, block_others h2 n1 (by decide) hk, ⟨cs, block_others h3 n2 (by decide) hk, h4⟩, own_others h5 hbb (by decide) (by decide) hk, h6.trans (hb.mono (by omega)), h7, by have := hb.size; omega⟩
theorem add_zero (g i : Nat) : (⟨g, 0, none⟩ : Addr).add i = ⟨g, i, none⟩ := by unfold Addr.add; split <;> simp_all
theorem below_cells {B g : Nat} {us : List Value} {w w' : World} (hb : Below B w w') (hg : g < B) (h : ∀ j u, us[j]? = some u → w.cell? ((⟨g, 0, none⟩ : Addr).add j) = some u) : ∀ j u, us[j]? = some u → w'.cell? ((⟨g, 0, none⟩ : Addr).add j) = some u := by
  intro j u hu
  have := h j u hu
  rw [add_zero] at this ⊢
  exact (hb.cell (p := ⟨g, j, none⟩) hg).trans this
theorem fls_one (ys : List VRec) : ∀ u ∈ ys.map VRec.fl, u.oneCell' = true := by
  intro u hu
  obtain ⟨x, _, rfl⟩ := List.mem_map.1 hu
  rcases (show x.fl = .nilIface ∨ ∃ a y, x.fl = .iface a y from ifaceOf_form _ _ _) with e | ⟨t, y, e⟩ <;> rw [e] <;> rfl
theorem in3_cells {us : List Value} {gs : List ARec} {n : Nat} {w : World} {b ab : Nat} {sv : Value} {len : Nat} {vs : List VRec} {v : Value} {L : List UInt8} {w' : World} (h : In3 us gs n w b ab sv len vs v L w') :
    w'.cell? ⟨ab, 0, none⟩ = some sv ∧ w'.cell? ⟨ab, 1, none⟩ = some .nilIface ∧ w'.cell? ⟨ab, 2, none⟩ = some (.int .i64 len) :=
  ⟨(cell_of_row _ _ _ _ _ _ h.2.1).trans rfl, (cell_of_row _ _ _ _ _ _ h.2.1).trans rfl, (cell_of_row _ _ _ _ _ _ h.2.1).trans rfl⟩
/-- The row and the builder at the end. -/
def InEnd (w : World) (b : Nat) (vs : List VRec) (v : Value) (L : List UInt8) (w' : World) : Prop :=
  Bld b b L w' ∧ w'.ownsRow w.heap.size 20 1 v vs.length (vs.map VRec.fl) ∧ Below w.heap.size w w' ∧ w.heap.size < b ∧ b < w'.heap.size
theorem in2_end {q : ByteArray} {us : List Value} {gs : List ARec} {n : Nat} {w : World} {b : Nat} {s : ByteArray} {off ai : Nat} {l : List UInt8} {vs : List VRec} {v : Value} {wr w2 : World} (h : In2 q us gs n w b s off ai l vs v wr)
    (ha : Lib.BuilderAtF 99 5 b b (.pointer (some ⟨b, 0, none⟩)) (Lib.byteCells l ++ Lib.strCells s) w2) (hb : Below b wr w2) (hk : Lib.OthersKept 5 (some b) wr w2) : InEnd w b vs v (l ++ s.data.toList) w2 := by
  obtain ⟨h1, _, h4, hbl, hbe, hb1, hb2, hs1, hs2⟩ := h
  obtain ⟨bc, hbb⟩ := bld_block hbl
  exact ⟨bld_app ha, own_others h4 hbb (by decide) (by decide) hk, hbe.trans (hb.mono (by omega)), hb1, by have := hb.size; omega⟩
theorem end_read {w : World} {b : Nat} {vs : List VRec} {v : Value} {L : List UInt8} {w1 w2 : World} (h : InEnd w b vs v L w1) (hb : Below b w1 w2) (hk : Lib.OthersKept 5 (some b) w1 w2) : w2.ownsRow w.heap.size 20 1 v vs.length (vs.map VRec.fl) ∧ Below w.heap.size w w2 := by
  obtain ⟨hbl, h4, hbe, hb1, hb2⟩ := h
  obtain ⟨bc, hbb⟩ := bld_block hbl
  exact ⟨own_others h4 hbb (by decide) (by decide) hk, hbe.trans (hb.mono (by omega))⟩
theorem end_spec {q : ByteArray} {us : List Value} {gs : List ARec} {n : Nat} {w : World} {b : Nat} {s : ByteArray} {off ai : Nat} {l : List UInt8} {vs : List VRec} {v : Value} {wr : World} (h : In2 q us gs n w b s off ai l vs v wr) (hi : idxQ (s.data.toList.drop off) 0 = -1) (hl : gs.length = ai) : ex q.data.toList gs = some (l ++ s.data.toList, vs) := by
  have h1 := h.1
  rw [show gs.drop ai = [] from List.drop_of_length_le (by omega)] at h1
  have := done_end h1 hi
  rwa [List.append_assoc, List.take_append_drop] at this
theorem end_few {q : ByteArray} {us : List Value} {gs : List ARec} {n : Nat} {w : World} {b : Nat} {s : ByteArray} {off ai : Nat} {l : List UInt8} {vs : List VRec} {v : Value} {wr : World} (h : In2 q us gs n w b s off ai l vs v wr) (hi : idxQ (s.data.toList.drop off) 0 = -1) (hl : ai < gs.length) : ex q.data.toList gs = none := by
  have h1 := h.1
  rw [drop_gs hl] at h1
  exact done_few h1 hi
end Go.Proofs.YtpjadgdimkdblaaDoor
