/- What a list of texts that reads as data is. No walk. -/
import Derived.Test.YtdjgknfmehkigaaDoorBet
import Derived.SliceStrings
import Derived.Carry
namespace Go.Proofs.YtdjgknfmehkigaaDoor
open Go.RowKit Go.WideShapes Go.ChangeShapes
set_option linter.unusedVariables false

theorem cellsString : Tryd.prog.cellsOf 9 = 1 := by kernel_rfl
theorem open_strs {H : Type} {enc : TypeId × Value → H} {w : World} {held : Bool} {A : Option Addr} {n c : Nat} {d : DataW H} {ps : List MemPlace} (h : DataW.Trod enc Tryd.prog w 0 (fun _ => true) held 22 (.slice A n c) d ps) :
    n ≤ maxLen ∧ ∃ ss : List ByteArray, ss.length = n ∧ StrsAt w A ss ∧ ∀ i, i < n → (ss.getD i ByteArray.empty).size ≤ maxLen := by
  obtain ⟨fuel, hf⟩ := h
  rcases open_strings Tryd.underlying22 Tryd.underlying9 cellsString hf with ⟨hcs, _⟩ | ⟨a, len, cap, ss, hcs, _, hl, hm, hlen, _, hcell, hsz⟩
  · simp [Value.cells] at hcs
    obtain ⟨rfl, rfl, rfl⟩ := hcs
    exact ⟨Nat.zero_le _, [], rfl, .inl rfl, fun i hi => by omega⟩
  · simp [Value.cells] at hcs
    obtain ⟨rfl, rfl, rfl⟩ := hcs
    simp only [if_true] at hlen
    have htk : (ss.take n).length = n := by rw [List.length_take]; omega
    have hget : ∀ i, i < n → (ss.take n).getD i ByteArray.empty = ss.getD i ByteArray.empty := fun i hi => by
      rw [List.getD_eq_getElem?_getD, List.getD_eq_getElem?_getD, List.getElem?_take_of_lt hi]
    refine ⟨by omega, ss.take n, htk, ?_, fun i hi => ?_⟩
    · rcases Nat.eq_zero_or_pos n with rfl | hn
      · exact .inl rfl
      have hc1 := hcell 0 (by omega)
      have hz2 : a.add 0 = a := by
        obtain ⟨b, off, sp⟩ := a
        unfold Addr.add
        cases sp <;> simp
      rw [hz2] at hc1
      have hsp : a.spot = none := World.cell?_spot hc1
      obtain ⟨b, off, spot⟩ := a
      simp only at hsp
      subst hsp
      have e : ∀ i, (⟨b, off, none⟩ : Addr).add i = ⟨b, off + i, none⟩ := fun i => by unfold Addr.add; split <;> simp_all
      refine .inr ⟨b, off, rfl, World.block_lt_of_cell? w ⟨b, off, none⟩ hc1, fun i hi => ?_⟩
      rw [htk] at hi
      rw [hget i hi, ← e]
      exact hcell i (by omega)
    · rw [hget i hi]
      have hi2 : i < ss.length := by omega
      rw [List.getD_eq_getElem?_getD, List.getElem?_eq_getElem hi2]
      exact hsz _ (List.getElem_mem hi2)
end Go.Proofs.YtdjgknfmehkigaaDoor
