/- What a list of values that reads as data is: records that lie in memory. No walk. What a list of values that reads as data is: records that lie in memory, with numbers of 64 bits. No walk. -/
import Derived.Test.YtpjadgdimkdblaaDoorArgs
import Derived.Deep.Slices
import Derived.SliceStrings
import Derived.Carry
namespace Go.Proofs.YtpjadgdimkdblaaDoor
open Go.RowKit Go.WideShapes Go.Deep
set_option linter.unusedVariables false

theorem cellsValue : Tryd.prog.cellsOf 34 = 4 := by kernel_rfl
set_option maxRecDepth 100000 in
theorem open_value {H : Type} {enc : TypeId × Value → H} {w : World} {base : Nat} {spare : Nat → Bool} {held : Bool} {fuel : Nat} {cs : List Value} {x : DataW H × List MemPlace} (h : DataW.trod enc Tryd.prog w base spare held fuel 34 cs = some x) : ∃ r : VRec, cs = r.cells := by
  obtain ⟨xs, n, _, _, hl, hlen, hf⟩ := DataW.trod_struct Tryd.underlying34 h
  rw [cellsValue] at hl
  match cs, hl with
  | [a, b, c, d], _ =>
    match xs, hlen with
    | [y0, y1, y2, y3], _ =>
      have f0 := hf 0 _ rfl
      have f1 := hf 1 _ rfl
      have f2 := hf 2 _ rfl
      have f3 := hf 3 _ rfl
      obtain ⟨k, h0, _⟩ := DataW.trod_int Tryd.underlying3 f0
      obtain ⟨m, h1, _⟩ := DataW.trod_int Tryd.underlying2 f1
      obtain ⟨s, h2, _⟩ := DataW.trod_string Tryd.underlying9 f2
      have h3 : ∃ A m c, d = .slice A m c := by
        rcases DataW.trod_slice Tryd.underlying32 f3 with ⟨h3, _⟩ | ⟨a, len, cap, _, _, _, _, h3, _⟩
        · exact ⟨_, _, _, (List.cons.inj h3).1⟩
        · exact ⟨_, _, _, (List.cons.inj h3).1⟩
      obtain ⟨A, l, q, rfl⟩ := h3
      have e0 : a = .int .i64 k := (List.cons.inj h0).1
      have e1 : b = .int .i64 m := (List.cons.inj h1).1
      have e2 : c = .string s := (List.cons.inj h2).1
      subst e0 e1 e2
      exact ⟨⟨k, m, s, A, l, q⟩, rfl⟩
theorem lies_of_cells {w : World} {b o : Nat} {r : VRec} (h : w.cells? 0 ⟨b, o, none⟩ 4 = some r.cells) : r.lies w b o := by
  obtain ⟨_, _, h⟩ := World.cells?_some h
  have e : ∀ i, (⟨b, o, none⟩ : Addr).add i = ⟨b, o + i, none⟩ := fun i => by unfold Addr.add; split <;> simp_all
  have h0 := h 0 (by omega)
  have h1 := h 1 (by omega)
  have h2 := h 2 (by omega)
  have h3 := h 3 (by omega)
  rw [e] at h0 h1 h2 h3
  exact ⟨h0, h1, h2, h3⟩
set_option maxRecDepth 100000 in
theorem open_values {H : Type} {enc : TypeId × Value → H} {w : World} {held : Bool} {A : Option Addr} {n c : Nat} {d : DataW H} {ps : List MemPlace} (h : DataW.Trod enc Tryd.prog w 0 (fun _ => true) held 32 (.slice A n c) d ps) :
    n ≤ maxLen ∧ (A = none → c = 0) ∧ ∃ xs : List VRec, xs.length = n ∧ ListAt w A xs := by
  obtain ⟨fuel, hf⟩ := h
  rcases open_slice Tryd.underlying32 hf with ⟨hcs, _⟩ | ⟨a, len, cap, m, k, D, Pl, hcs, _, hl, hm, hmm, _, hel⟩
  · simp [Value.cells] at hcs
    obtain ⟨rfl, rfl, rfl⟩ := hcs
    exact ⟨Nat.zero_le _, fun _ => rfl, [], rfl, .inl rfl⟩
  · simp [Value.cells] at hcs
    obtain ⟨rfl, rfl, rfl⟩ := hcs
    simp only [if_true] at hmm
    subst hmm
    rw [cellsValue] at hel
    have hr : ∀ i, ∃ r : VRec, i < n → w.cells? 0 (a.add (i * 4)) 4 = some r.cells := by
      intro i
      by_cases hi : i < n
      · obtain ⟨cs', h1, h2⟩ := hel i (by omega)
        obtain ⟨r, rfl⟩ := open_value h2
        exact ⟨r, fun _ => h1⟩
      · exact ⟨z0, fun h => absurd h hi⟩
    obtain ⟨R, hR⟩ := Classical.axiomOfChoice hr
    refine ⟨by omega, fun h => by (cases h), (List.range n).map R, by simp, ?_⟩
    rcases Nat.eq_zero_or_pos n with rfl | hn
    · exact .inl rfl
    have hc0 := hR 0 hn
    obtain ⟨_, _, hc⟩ := World.cells?_some hc0
    have hc1 := hc 0 (by omega)
    have hz : a.add (0 * 4) = a := by
      obtain ⟨b, off, sp⟩ := a
      unfold Addr.add
      cases sp <;> simp
    have hz2 : a.add 0 = a := hz
    rw [hz, hz2] at hc1
    have hsp : a.spot = none := World.cell?_spot (hc1.trans (show (R 0).cells[0]? = some (.int .i64 (R 0).k) from rfl))
    obtain ⟨b, off, spot⟩ := a
    simp only at hsp
    subst hsp
    have e : ∀ i, (⟨b, off, none⟩ : Addr).add i = ⟨b, off + i, none⟩ := fun i => by unfold Addr.add; split <;> simp_all
    simp only [e] at hR
    have hb : b < w.heap.size := by
      rcases Nat.lt_or_ge b w.heap.size with h | h
      · exact h
      · exfalso
        have hh := hc1.trans (show (R 0).cells[0]? = some (.int .i64 (R 0).k) from rfl)
        unfold World.cell? at hh
        simp [Array.getElem?_eq_none h] at hh
    refine .inr ⟨b, off, rfl, hb, fun i hi => ?_⟩
    have hi' : i < n := by simpa using hi
    have hg : ((List.range n).map R).getD i z0 = R i := by
      rw [List.getD_eq_getElem?_getD, List.getElem?_map, List.getElem?_range hi']
      rfl
    rw [hg]
    exact lies_of_cells (hR i hi')
end Go.Proofs.YtpjadgdimkdblaaDoor
namespace Go.Proofs.YtpjadgdimkdblaaDoor
open Go.RowKit Go.WideShapes Go.Deep
set_option linter.unusedVariables false

set_option maxRecDepth 100000 in
theorem open_valueB {H : Type} {enc : TypeId × Value → H} {w : World} {base : Nat} {spare : Nat → Bool} {held : Bool} {fuel : Nat} {cs : List Value} {x : DataW H × List MemPlace} (h : DataW.trod enc Tryd.prog w base spare held fuel 34 cs = some x) : ∃ r : VRec, cs = r.cells ∧ (Lit.int .i64 r.n).wf = true := by
  obtain ⟨xs, n, _, _, hl, hlen, hf⟩ := DataW.trod_struct Tryd.underlying34 h
  rw [cellsValue] at hl
  match cs, hl with
  | [a, b, c, d], _ =>
    match xs, hlen with
    | [y0, y1, y2, y3], _ =>
      have f0 := hf 0 _ rfl
      have f1 := hf 1 _ rfl
      have f2 := hf 2 _ rfl
      have f3 := hf 3 _ rfl
      obtain ⟨k, h0, _⟩ := DataW.trod_int Tryd.underlying3 f0
      obtain ⟨m, h1, _, hwf⟩ := DataW.trod_int Tryd.underlying2 f1
      obtain ⟨s, h2, _⟩ := DataW.trod_string Tryd.underlying9 f2
      have h3 : ∃ A m c, d = .slice A m c := by
        rcases DataW.trod_slice Tryd.underlying32 f3 with ⟨h3, _⟩ | ⟨a, len, cap, _, _, _, _, h3, _⟩
        · exact ⟨_, _, _, (List.cons.inj h3).1⟩
        · exact ⟨_, _, _, (List.cons.inj h3).1⟩
      obtain ⟨A, l, q, rfl⟩ := h3
      have e0 : a = .int .i64 k := (List.cons.inj h0).1
      have e1 : b = .int .i64 m := (List.cons.inj h1).1
      have e2 : c = .string s := (List.cons.inj h2).1
      subst e0 e1 e2
      exact ⟨⟨k, m, s, A, l, q⟩, rfl, hwf⟩
set_option maxRecDepth 100000 in
theorem open_valuesB {H : Type} {enc : TypeId × Value → H} {w : World} {held : Bool} {A : Option Addr} {n c : Nat} {d : DataW H} {ps : List MemPlace} (h : DataW.Trod enc Tryd.prog w 0 (fun _ => true) held 32 (.slice A n c) d ps) :
    n ≤ maxLen ∧ (A = none → c = 0) ∧ ∃ xs : List VRec, xs.length = n ∧ ListAt w A xs ∧ ∀ i, i < n → (Lit.int .i64 (xs.getD i z0).n).wf = true := by
  obtain ⟨fuel, hf⟩ := h
  rcases open_slice Tryd.underlying32 hf with ⟨hcs, _⟩ | ⟨a, len, cap, m, k, D, Pl, hcs, _, hl, hm, hmm, _, hel⟩
  · simp [Value.cells] at hcs
    obtain ⟨rfl, rfl, rfl⟩ := hcs
    exact ⟨Nat.zero_le _, fun _ => rfl, [], rfl, .inl rfl, fun i hi => by omega⟩
  · simp [Value.cells] at hcs
    obtain ⟨rfl, rfl, rfl⟩ := hcs
    simp only [if_true] at hmm
    subst hmm
    rw [cellsValue] at hel
    have hr : ∀ i, ∃ r : VRec, i < n → w.cells? 0 (a.add (i * 4)) 4 = some r.cells ∧ (Lit.int .i64 r.n).wf = true := by
      intro i
      by_cases hi : i < n
      · obtain ⟨cs', h1, h2⟩ := hel i (by omega)
        obtain ⟨r, rfl, hwf⟩ := open_valueB h2
        exact ⟨r, fun _ => ⟨h1, hwf⟩⟩
      · exact ⟨z0, fun h => absurd h hi⟩
    obtain ⟨R, hR⟩ := Classical.axiomOfChoice hr
    have hgR : ∀ i, i < n → ((List.range n).map R).getD i z0 = R i := fun i hi' => by
      rw [List.getD_eq_getElem?_getD, List.getElem?_map, List.getElem?_range hi']
      rfl
    refine ⟨by omega, fun h => by (cases h), (List.range n).map R, by simp, ?_, fun i hi => by rw [hgR i hi]; exact (hR i hi).2⟩
    rcases Nat.eq_zero_or_pos n with rfl | hn
    · exact .inl rfl
    have hc0 := (hR 0 hn).1
    obtain ⟨_, _, hc⟩ := World.cells?_some hc0
    have hc1 := hc 0 (by omega)
    have hz : a.add (0 * 4) = a := by
      obtain ⟨b, off, sp⟩ := a
      unfold Addr.add
      cases sp <;> simp
    have hz2 : a.add 0 = a := hz
    rw [hz, hz2] at hc1
    have hsp : a.spot = none := World.cell?_spot (hc1.trans (show (R 0).cells[0]? = some (.int .i64 (R 0).k) from rfl))
    obtain ⟨b, off, spot⟩ := a
    simp only at hsp
    subst hsp
    have e : ∀ i, (⟨b, off, none⟩ : Addr).add i = ⟨b, off + i, none⟩ := fun i => by unfold Addr.add; split <;> simp_all
    have hR2 : ∀ i, i < n → w.cells? 0 ⟨b, off + i * 4, none⟩ 4 = some (R i).cells := fun i hi => by rw [← e]; exact (hR i hi).1
    have hb : b < w.heap.size := by
      rcases Nat.lt_or_ge b w.heap.size with h | h
      · exact h
      · exfalso
        have hh := hc1.trans (show (R 0).cells[0]? = some (.int .i64 (R 0).k) from rfl)
        unfold World.cell? at hh
        simp [Array.getElem?_eq_none h] at hh
    refine .inr ⟨b, off, rfl, hb, fun i hi => ?_⟩
    have hi' : i < n := by simpa using hi
    have hg : ((List.range n).map R).getD i z0 = R i := by
      rw [List.getD_eq_getElem?_getD, List.getElem?_map, List.getElem?_range hi']
      rfl
    rw [hg]
    exact lies_of_cells (hR2 i hi')
end Go.Proofs.YtpjadgdimkdblaaDoor
