/- A builder beside other rows of the call's own: what stays as it was. No walk. -/
import Derived.Test.YtdjgknfmehkigaaWords
import Derived.Test.YtdjgknfmehkigaaWs
import Derived.Lib.OthersKept
namespace Go.Proofs.Ytdjgknfmehkigaa
open Go.RowKit
set_option linter.unusedVariables false

/-- Block b is a builder that holds the bytes l. -/
def Bld (B b : Nat) (l : List UInt8) (w : World) : Prop := Lib.IsBuilderF 62 5 B b (Lib.byteCells l) w
theorem own_ne_block {w : World} {B : Nat} {e T : TypeId} {size n g : Nat} {v : Value} {xs : List Value} {cs : Array Value} {fz : Nat × Nat} (h : w.ownsRow B e size v n xs) (hg : w.heap[g]? = some (.cells cs T fz)) (hne : e ≠ T) : v.ownBlock ≠ some g := by
  rcases h.2 with ⟨rfl, _⟩ | ⟨g', cap, cur, rfl, _, hh, _⟩
  · simp [Value.ownBlock]
  · intro he
    have e1 : g' = g := by simpa [Value.ownBlock] using he
    subst e1
    rw [hg] at hh
    injection hh with hh
    injection hh with _ h2
    exact hne h2.symm
theorem own_others {w w' : World} {B b : Nat} {e T u : TypeId} {size n : Nat} {v : Value} {xs : List Value} {cs : Array Value} {fz : Nat × Nat} (h : w.ownsRow B e size v n xs) (hb : w.heap[b]? = some (.cells cs T fz)) (h1 : e ≠ T) (h2 : e ≠ u) (hk : Lib.OthersKept u (some b) w w') : w'.ownsRow B e size v n xs := by
  have hne := own_ne_block h hb h1
  refine ⟨h.1, ?_⟩
  rcases h.2 with hn | ⟨g, cap, cur, rfl, hg, hh, r⟩
  · exact .inl hn
  · refine .inr ⟨g, cap, cur, rfl, hg, hk g _ hh (by simpa [Value.ownBlock] using hne) (fun c fz hc => ?_), r⟩
    injection hc with _ h3
    exact h2 h3
theorem block_others {w w' : World} {b g : Nat} {u T : TypeId} {cs : Array Value} {fz : Nat × Nat} (h : w.heap[g]? = some (.cells cs T fz)) (hb : g ≠ b) (hu : T ≠ u) (hk : Lib.OthersKept u (some b) w w') : w'.heap[g]? = some (.cells cs T fz) :=
  hk g _ h (by simpa using hb) (fun c fz hc => by injection hc with _ h3; exact hu h3)
theorem bld_block {B b : Nat} {l : List UInt8} {w : World} (h : Bld B b l w) : ∃ cs, w.heap[b]? = some (.cells cs 62 (0, 0)) := by
  rcases h with ⟨_, v, h, _⟩ | ⟨_, v, h, _⟩ <;> exact ⟨_, h⟩
theorem bldAt_grown {B b : Nat} {p : Value} {bs : List Value} {w w' : World} {row : Option Nat} (h : Lib.BuilderAtF 62 5 B b p bs w) (hg : w.grownBy w' row) (hb : row ≠ some b)
    (hr : ∀ g c fz, row = some g → w.heap[g]? ≠ some (.cells c 5 fz)) : Lib.BuilderAtF 62 5 B b p bs w' := by
  obtain ⟨h1, v, h2, h3, h4⟩ := h
  have hlt : b < w.heap.size := (Array.getElem?_eq_some_iff.1 h2).1
  refine ⟨h1, v, (hg.block b hlt (fun e => hb e.symm)).trans h2, h3.kept hg ?_, h4⟩
  rcases hv : v.ownBlock with _ | g
  · exact .inl rfl
  · right
    intro e
    rcases h3.2 with ⟨rfl, _⟩ | ⟨g', cap, cur, fz, rfl, _, hh, _⟩
    · simp [Value.ownBlock] at hv
    · have e1 : g' = g := by simpa [Value.ownBlock] using hv
      subst e1
      exact hr g' cur fz e.symm hh
theorem bld_grown {B b : Nat} {l : List UInt8} {w w' : World} {row : Option Nat} (h : Bld B b l w) (hg : w.grownBy w' row) (hb : row ≠ some b)
    (hr : ∀ g c fz, row = some g → w.heap[g]? ≠ some (.cells c 5 fz)) : Bld B b l w' :=
  h.elim (fun h => .inl (bldAt_grown h hg hb hr)) (fun h => .inr (bldAt_grown h hg hb hr))
/-- An append to a row of another kind leaves the builder. -/
theorem bld_append {B B2 b : Nat} {l : List UInt8} {w w' : World} {e : TypeId} {size n : Nat} {v : Value} {xs : List Value} (h : Bld B b l w) (ho : w.ownsRow B2 e size v n xs) (hg : w.grownBy w' v.ownBlock)
    (h1 : e ≠ 62) (h2 : e ≠ 5) : Bld B b l w' := by
  obtain ⟨cs, hb⟩ := bld_block h
  exact bld_grown h hg (own_ne_block ho hb h1) (fun g c fz hr hh => own_ne_block ho hh h2 hr)
theorem bld_alloc {B b : Nat} {l : List UInt8} {w : World} (h : Bld B b l w) (o : Obj) : Bld B b l (w.alloc o) := Lib.IsBuilderF.alloc h o
/-- A store into a block of another kind leaves the builder. -/
theorem bld_quiet {B b : Nat} {l : List UInt8} {w w' : World} (h : Bld B b l w) (hg : w.grownBy w' none) : Bld B b l w' := bld_grown h hg (by simp) (fun g c fz hr => by cases hr)
theorem bld_app {B b : Nat} {l : List UInt8} {s : ByteArray} {w : World} (h : Lib.BuilderAtF 62 5 B b (.pointer (some ⟨b, 0, none⟩)) (Lib.byteCells l ++ Lib.strCells s) w) : Bld B b (l ++ s.data.toList) w := by
  unfold Bld
  rw [Lib.byteCells_append]
  exact .inr h
end Go.Proofs.Ytdjgknfmehkigaa
