/- What a list of arguments with names that reads as data is: records that lie in memory. No walk. A lone value that reads as data is a record whose list lies in memory. No walk. -/
import Derived.Test.YtpjadgdimkdblaaDoorRight
import Derived.Test.YtpjadgdimkdblaaDoorOpen
namespace Go.Proofs.YtpjadgdimkdblaaDoor
open Go.RowKit Go.WideShapes Go.Deep
set_option linter.unusedVariables false

set_option maxRecDepth 100000 in
theorem open_arec {H : Type} {enc : TypeId × Value → H} {w : World} {held : Bool} {fuel : Nat} {cs : List Value} {x : DataW H × List MemPlace} (h : DataW.trod enc Tryd.prog w 0 (fun _ => true) held fuel 34 cs = some x) : ∃ a : ARec, cs = a.x.cells ∧ a.lain w ∧ a.x.t.size ≤ maxLen ∧ (Lit.int .i64 a.x.n).wf = true := by
  obtain ⟨xs, n, _, _, hl, hlen, hf⟩ := DataW.trod_struct Tryd.underlying34 h
  rw [cellsValue] at hl
  match cs, hl with
  | [a, b, c, d], _ =>
    match xs, hlen with
    | [y0, y1, y2, y3], _ =>
      have f0 := hf 0 _ rfl
      have f1 := hf 1 _ rfl
      have f2 := hf 2 _ rfl
      have f3 := hf 3 _ rfl
      obtain ⟨k, h0, _⟩ := DataW.trod_int Tryd.underlying3 f0
      obtain ⟨m, h1, _, hwf⟩ := DataW.trod_int Tryd.underlying2 f1
      obtain ⟨s, h2, _, hsz⟩ := DataW.trod_string Tryd.underlying9 f2
      have h3 : ∃ A m c, d = .slice A m c := by
        rcases DataW.trod_slice Tryd.underlying32 f3 with ⟨h3, _⟩ | ⟨a, len, cap, _, _, _, _, h3, _⟩
        · exact ⟨_, _, _, (List.cons.inj h3).1⟩
        · exact ⟨_, _, _, (List.cons.inj h3).1⟩
      obtain ⟨A, l, q, rfl⟩ := h3
      have e0 : a = .int .i64 k := (List.cons.inj h0).1
      have e1 : b = .int .i64 m := (List.cons.inj h1).1
      have e2 : c = .string s := (List.cons.inj h2).1
      subst e0 e1 e2
      obtain ⟨q1, q2, ys, q3, q4⟩ := open_values (A := A) (n := l) (c := q) ⟨_, f3⟩
      exact ⟨⟨⟨k, m, s, A, l, q⟩, ys⟩, rfl, ⟨q3.symm, show ys.length ≤ maxLen from q3.symm ▸ q1, q4⟩, hsz, hwf⟩
theorem cellsArg : Tryd.prog.cellsOf 39 = 5 := by kernel_rfl
def NRec.cells (x : NRec) : List Value := .string x.s :: x.a.x.cells
set_option maxRecDepth 100000 in
theorem open_nrec {H : Type} {enc : TypeId × Value → H} {w : World} {held : Bool} {fuel : Nat} {cs : List Value} {x : DataW H × List MemPlace} (h : DataW.trod enc Tryd.prog w 0 (fun _ => true) held fuel 39 cs = some x) : ∃ g : NRec, cs = g.cells ∧ g.a.lain w ∧ g.s.size ≤ maxLen := by
  obtain ⟨xs, n, _, _, hl, hlen, hf⟩ := DataW.trod_struct Tryd.underlying39 h
  rw [cellsArg] at hl
  match cs, hl with
  | [a, b, c, d, e], _ =>
    match xs, hlen with
    | [y0, y1], _ =>
      have f0 := hf 0 _ rfl
      have f1 := hf 1 _ rfl
      obtain ⟨s, h0, _, hsz⟩ := DataW.trod_string Tryd.underlying9 f0
      have e0 : a = .string s := (List.cons.inj h0).1
      obtain ⟨r, hr, hlr, _⟩ := open_arec f1
      refine ⟨⟨s, r⟩, ?_, hlr, hsz⟩
      subst e0
      unfold NRec.cells
      rw [← hr]
      rfl
theorem lies_of_cells5 {w : World} {b o : Nat} {r : NRec} (h : w.cells? 0 ⟨b, o, none⟩ 5 = some r.cells) : r.lies w b o := by
  obtain ⟨_, _, h⟩ := World.cells?_some h
  have e : ∀ i, (⟨b, o, none⟩ : Addr).add i = ⟨b, o + i, none⟩ := fun i => by unfold Addr.add; split <;> simp_all
  have h0 := h 0 (by omega)
  have h1 := h 1 (by omega)
  have h2 := h 2 (by omega)
  have h3 := h 3 (by omega)
  have h4 := h 4 (by omega)
  rw [e] at h0 h1 h2 h3 h4
  exact ⟨h0, h1, h2, h3, h4⟩
set_option maxRecDepth 100000 in
theorem open_args {H : Type} {enc : TypeId × Value → H} {w : World} {held : Bool} {A : Option Addr} {n c : Nat} {d : DataW H} {ps : List MemPlace} (h : DataW.Trod enc Tryd.prog w 0 (fun _ => true) held 40 (.slice A n c) d ps) :
    n ≤ maxLen ∧ (A = none → c = 0) ∧ ∃ gs : List NRec, gs.length = n ∧ NamesLain w A gs := by
  obtain ⟨fuel, hf⟩ := h
  rcases open_slice Tryd.underlying40 hf with ⟨hcs, _⟩ | ⟨a, len, cap, m, k, D, Pl, hcs, _, hl, hm, hmm, _, hel⟩
  · simp [Value.cells] at hcs
    obtain ⟨rfl, rfl, rfl⟩ := hcs
    exact ⟨Nat.zero_le _, fun _ => rfl, [], rfl, ⟨.inl rfl, fun i hi => by simp at hi, fun i hi => by simp at hi⟩⟩
  · simp [Value.cells] at hcs
    obtain ⟨rfl, rfl, rfl⟩ := hcs
    simp only [if_true] at hmm
    subst hmm
    rw [cellsArg] at hel
    have hr : ∀ i, ∃ r : NRec, i < n → w.cells? 0 (a.add (i * 5)) 5 = some r.cells ∧ r.a.lain w ∧ r.s.size ≤ maxLen := by
      intro i
      by_cases hi : i < n
      · obtain ⟨cs', h1, h2⟩ := hel i (by omega)
        obtain ⟨r, rfl, hwf⟩ := open_nrec h2
        exact ⟨r, fun _ => ⟨h1, hwf⟩⟩
      · exact ⟨n0, fun h => absurd h hi⟩
    obtain ⟨R, hR⟩ := Classical.axiomOfChoice hr
    have hgR : ∀ i, i < n → ((List.range n).map R).getD i n0 = R i := fun i hi' => by
      rw [List.getD_eq_getElem?_getD, List.getElem?_map, List.getElem?_range hi']
      rfl
    refine ⟨by omega, fun h => by (cases h), (List.range n).map R, by simp, ?_, fun i hi => ?_, fun i hi => ?_⟩
    · rcases Nat.eq_zero_or_pos n with rfl | hn
      · exact .inl rfl
      have hc0 := (hR 0 hn).1
      obtain ⟨_, _, hc⟩ := World.cells?_some hc0
      have hc1 := hc 0 (by omega)
      have hz : a.add (0 * 5) = a := by
        obtain ⟨b, off, sp⟩ := a
        unfold Addr.add
        cases sp <;> simp
      have hz2 : a.add 0 = a := hz
      rw [hz, hz2] at hc1
      have hsp : a.spot = none := World.cell?_spot (hc1.trans (show (R 0).cells[0]? = some (.string (R 0).s) from rfl))
      obtain ⟨b, off, spot⟩ := a
      simp only at hsp
      subst hsp
      have e : ∀ i, (⟨b, off, none⟩ : Addr).add i = ⟨b, off + i, none⟩ := fun i => by unfold Addr.add; split <;> simp_all
      have hR2 : ∀ i, i < n → w.cells? 0 ⟨b, off + i * 5, none⟩ 5 = some (R i).cells := fun i hi => by rw [← e]; exact (hR i hi).1
      have hb : b < w.heap.size := by
        rcases Nat.lt_or_ge b w.heap.size with h | h
        · exact h
        · exfalso
          have hh := hc1.trans (show (R 0).cells[0]? = some (.string (R 0).s) from rfl)
          unfold World.cell? at hh
          simp [Array.getElem?_eq_none h] at hh
      refine .inr ⟨b, off, rfl, hb, fun i hi => ?_⟩
      have hi' : i < n := by simpa using hi
      rw [hgR i hi']
      exact lies_of_cells5 (hR2 i hi')
    · have hi' : i < n := by simpa using hi
      rw [hgR i hi']
      exact (hR i hi').2.1
    · have hi' : i < n := by simpa using hi
      rw [hgR i hi']
      exact (hR i hi').2.2
end Go.Proofs.YtpjadgdimkdblaaDoor
namespace Go.Proofs.YtpjadgdimkdblaaDoor
open Go.RowKit Go.WideShapes Go.Deep
set_option linter.unusedVariables false

set_option maxRecDepth 100000 in
theorem open_val {H : Type} {enc : TypeId × Value → H} {w : World} {held : Bool} {base : Nat} {r : Reach} {v : Value} {d : DataW H} {ps : List MemPlace} (hv : Value.okWide Tryd.prog w r base 34 v) (h : DataW.Trod enc Tryd.prog w 0 (fun _ => true) held 34 v d ps) :
    ∃ a : ARec, v = a.x.agg ∧ a.lain w ∧ a.x.t.size ≤ maxLen ∧ (Lit.int .i64 a.x.n).wf = true := by
  unfold Value.okWide at hv
  rw [Tryd.underlying34] at hv
  obtain ⟨cs, rfl, _, _⟩ := hv
  obtain ⟨fuel, hf⟩ := h
  obtain ⟨a, hc, hl, hz, hwf⟩ := open_arec hf
  refine ⟨a, ?_, hl, hz, hwf⟩
  have h2 : cs.toList = a.x.cells := hc
  have h3 : cs = a.x.cells.toArray := by rw [← h2]
  rw [h3]
  rfl
end Go.Proofs.YtpjadgdimkdblaaDoor
