/- A list of texts that reads as data: texts that lie in memory; zzFits2 of such. -/
import Derived.Test.YtpjadgdimkdblaaDoorOpenLists
import Derived.SliceStrings
import Derived.Carry
namespace Go.Proofs.YtpjadgdimkdblaaDoor
open Go.RowKit Go.WideShapes Go.ChangeShapes
set_option linter.unusedVariables false

def StrsAt (w : World) (A : Option Addr) (ss : List ByteArray) : Prop :=
  ss = [] ∨ ∃ b off, A = some ⟨b, off, none⟩ ∧ b < w.heap.size ∧ ∀ i, i < ss.length → w.cell? ⟨b, off + i, none⟩ = some (.string (ss.getD i ByteArray.empty))
theorem strsAt_below {w w' : World} {A : Option Addr} {ss : List ByteArray} (h : StrsAt w A ss) (hb : Below w.heap.size w w') : StrsAt w' A ss := by
  rcases h with rfl | ⟨b, off, rfl, h1, h2⟩
  · exact .inl rfl
  · exact .inr ⟨b, off, rfl, Nat.lt_of_lt_of_le h1 hb.size, fun i hi => (hb.cell (p := ⟨b, off + i, none⟩) h1).trans (h2 i hi)⟩
theorem cellsString : Tryd.prog.cellsOf 9 = 1 := by kernel_rfl
theorem open_strs {H : Type} {enc : TypeId × Value → H} {w : World} {held : Bool} {A : Option Addr} {n c : Nat} {d : DataW H} {ps : List MemPlace} (h : DataW.Trod enc Tryd.prog w 0 (fun _ => true) held 28 (.slice A n c) d ps) :
    n ≤ maxLen ∧ ∃ ss : List ByteArray, ss.length = n ∧ StrsAt w A ss ∧ ∀ i, i < n → (ss.getD i ByteArray.empty).size ≤ maxLen := by
  obtain ⟨fuel, hf⟩ := h
  rcases open_strings Tryd.underlying28 Tryd.underlying9 cellsString hf with ⟨hcs, _⟩ | ⟨a, len, cap, ss, hcs, _, hl, hm, hlen, _, hcell, hsz⟩
  · simp [Value.cells] at hcs
    obtain ⟨rfl, rfl, rfl⟩ := hcs
    exact ⟨Nat.zero_le _, [], rfl, .inl rfl, fun i hi => by omega⟩
  · simp [Value.cells] at hcs
    obtain ⟨rfl, rfl, rfl⟩ := hcs
    simp only [if_true] at hlen
    have htk : (ss.take n).length = n := by rw [List.length_take]; omega
    have hget : ∀ i, i < n → (ss.take n).getD i ByteArray.empty = ss.getD i ByteArray.empty := fun i hi => by
      rw [List.getD_eq_getElem?_getD, List.getD_eq_getElem?_getD, List.getElem?_take_of_lt hi]
    refine ⟨by omega, ss.take n, htk, ?_, fun i hi => ?_⟩
    · rcases Nat.eq_zero_or_pos n with rfl | hn
      · exact .inl rfl
      have hc1 := hcell 0 (by omega)
      have hz2 : a.add 0 = a := by
        obtain ⟨b, off, sp⟩ := a
        unfold Addr.add
        cases sp <;> simp
      rw [hz2] at hc1
      have hsp : a.spot = none := World.cell?_spot hc1
      obtain ⟨b, off, spot⟩ := a
      simp only at hsp
      subst hsp
      have e : ∀ i, (⟨b, off, none⟩ : Addr).add i = ⟨b, off + i, none⟩ := fun i => by unfold Addr.add; split <;> simp_all
      refine .inr ⟨b, off, rfl, World.block_lt_of_cell? w ⟨b, off, none⟩ hc1, fun i hi => ?_⟩
      rw [htk] at hi
      rw [hget i hi, ← e]
      exact hcell i (by omega)
    · rw [hget i hi]
      have hi2 : i < ss.length := by omega
      rw [List.getD_eq_getElem?_getD, List.getElem?_eq_getElem hi2]
      exact hsz _ (List.getElem_mem hi2)
def FitsOk (n : Nat) (w : World) (e : Ending) (w' : World) : Prop := ∃ r : Bool, e = .returned (.bool r) ∧ (r = true → n ≤ 2147483647) ∧ w = w'
set_option maxHeartbeats 1000000 in
theorem fits2_any (A : Option Addr) (n c : Nat) (ss : List ByteArray) (w : World) (hn : ss.length = n) (hm : n ≤ maxLen) (hx : StrsAt w A ss) :
    Calls Tryd.prog 21 #[.slice A n c] w (FitsOk n w) := by
  unfold maxLen at hm
  have HX := Lib.hid hx
  have HN := Lib.hid hn
  clear hx hn
  by_cases h3 : (2147483647 : Int) < n
  · go_enter Tryd.func21, Tryd.ntmps21
    go_wp2_with fail
    go_ret
    exact ⟨false, rfl, (fun h => by cases h), rfl⟩
  go_enter Tryd.func21, Tryd.ntmps21
  go_wp2_with fail
  go_loop [10] (fun i => ∃ (k : Nat), k ≤ n ∧ i = .int .i64 k) (fun i => n - (intOf i).toNat)
  case atStart => exact ⟨0, by omega, rfl⟩
  case round =>
    obtain ⟨k, hk, rfl⟩ := hrel
    have h0 : (0 : Int) ≤ k := by omega
    by_cases hlt : k < n
    · have hkn : (k : Int) < n := by omega
      have hne : ss ≠ [] := fun e => by have := HN.out; rw [e] at this; simp at this; omega
      obtain ⟨b, off, rfl, hb, hl⟩ := HX.out.resolve_left hne
      have hcell := hl k (by rw [HN.out]; exact hlt)
      generalize ss.getD k ByteArray.empty = x at hcell
      clear hb hl hne
      by_cases hx : (2147483647 : Int) < x.size
      · go_wp2_with fail
        go_ret
        exact ⟨false, rfl, (fun h => by cases h), rfl⟩
      · go_wp2_with fail
        go_round
        case rel => exact ⟨k + 1, by omega, by go_num⟩
        case measure => simp [intOf]; omega
    · obtain rfl : k = n := by omega
      go_wp2_with fail
      go_ret
      exact ⟨true, rfl, (fun _ => by omega), rfl⟩
end Go.Proofs.YtpjadgdimkdblaaDoor
