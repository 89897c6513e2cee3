/- What a list of lists of values that reads as data is. No walk. -/
import Derived.Test.YtpjadgdimkdblaaDoorOpen
namespace Go.Proofs.YtpjadgdimkdblaaDoor
open Go.RowKit Go.WideShapes Go.Deep
set_option linter.unusedVariables false

structure LRec where
  A : Option Addr
  n : Nat
  c : Nat
  xs : List VRec
def l0 : LRec := ⟨none, 0, 0, []⟩
def LRec.good (w : World) (l : LRec) : Prop := l.n ≤ maxLen ∧ (l.A = none → l.c = 0) ∧ l.xs.length = l.n ∧ ListAt w l.A l.xs
def LsAt (w : World) (A : Option Addr) (ls : List LRec) : Prop :=
  ls = [] ∨ ∃ b off, A = some ⟨b, off, none⟩ ∧ b < w.heap.size ∧ ∀ i, i < ls.length → w.cell? ⟨b, off + i, none⟩ = some (.slice (ls.getD i l0).A (ls.getD i l0).n (ls.getD i l0).c) ∧ (ls.getD i l0).good w
theorem cellsSlice : Tryd.prog.cellsOf 32 = 1 := by kernel_rfl
theorem open_lists {H : Type} {enc : TypeId × Value → H} {w : World} {held : Bool} {A : Option Addr} {n c : Nat} {d : DataW H} {ps : List MemPlace} (h : DataW.Trod enc Tryd.prog w 0 (fun _ => true) held 43 (.slice A n c) d ps) :
    n ≤ maxLen ∧ (A = none → c = 0) ∧ ∃ ls : List LRec, ls.length = n ∧ LsAt w A ls := by
  obtain ⟨fuel, hf⟩ := h
  rcases open_slice1 Tryd.underlying43 cellsSlice hf with ⟨hcs, _⟩ | ⟨a, len, cap, m, k, V, D, Pl, hcs, _, hl, hm, hmm, _, hel⟩
  · simp [Value.cells] at hcs
    obtain ⟨rfl, rfl, rfl⟩ := hcs
    exact ⟨Nat.zero_le _, fun _ => rfl, [], rfl, .inl rfl⟩
  · simp [Value.cells] at hcs
    obtain ⟨rfl, rfl, rfl⟩ := hcs
    simp only [if_true] at hmm
    subst hmm
    have hr : ∀ i, ∃ r : LRec, i < n → w.cell? (a.add i) = some (.slice r.A r.n r.c) ∧ r.good w := by
      intro i
      by_cases hi : i < n
      · obtain ⟨h1, h2⟩ := hel i (by omega)
        have hv : ∃ A' n' c', V i = .slice A' n' c' := by
          rcases DataW.trod_slice Tryd.underlying32 h2 with ⟨h3, _⟩ | ⟨a, len, cap, _, _, _, _, h3, _⟩
          · exact ⟨_, _, _, (List.cons.inj h3).1⟩
          · exact ⟨_, _, _, (List.cons.inj h3).1⟩
        obtain ⟨A', n', c', hv⟩ := hv
        rw [hv] at h1 h2
        obtain ⟨q1, q2, xs, q3, q4⟩ := open_values (A := A') (n := n') (c := c') ⟨k, h2⟩
        exact ⟨⟨A', n', c', xs⟩, fun _ => ⟨h1, q1, q2, q3, q4⟩⟩
      · exact ⟨l0, fun h => absurd h hi⟩
    obtain ⟨R, hR⟩ := Classical.axiomOfChoice hr
    refine ⟨by omega, fun h => by (cases h), (List.range n).map R, by simp, ?_⟩
    rcases Nat.eq_zero_or_pos n with rfl | hn
    · exact .inl rfl
    have hc1 := (hR 0 hn).1
    have hz2 : a.add 0 = a := by
      obtain ⟨b, off, sp⟩ := a
      unfold Addr.add
      cases sp <;> simp
    rw [hz2] at hc1
    have hsp : a.spot = none := World.cell?_spot hc1
    obtain ⟨b, off, spot⟩ := a
    simp only at hsp
    subst hsp
    have e : ∀ i, (⟨b, off, none⟩ : Addr).add i = ⟨b, off + i, none⟩ := fun i => by unfold Addr.add; split <;> simp_all
    simp only [e] at hR
    have hb : b < w.heap.size := by
      rcases Nat.lt_or_ge b w.heap.size with h | h
      · exact h
      · exfalso
        have hh := hc1
        unfold World.cell? at hh
        simp [Array.getElem?_eq_none h] at hh
    refine .inr ⟨b, off, rfl, hb, fun i hi => ?_⟩
    have hi' : i < n := by simpa using hi
    have hg : ((List.range n).map R).getD i l0 = R i := by
      rw [List.getD_eq_getElem?_getD, List.getElem?_map, List.getElem?_range hi']
      rfl
    rw [hg]
    exact hR i hi'
end Go.Proofs.YtpjadgdimkdblaaDoor
