/- What (squirrel.expr).ToSql answers of a text with arguments that are no lists: the text and the arguments as they are. A walk. -/
import Derived.Test.YtdjgknfmehkigaaDoorText
import Derived.BigQuiet
import Derived.Deep.QuietTactic
import Derived.OwnWalk
import Derived.Stop.Asserts
namespace Go.Proofs.YtdjgknfmehkigaaDoor
open Go.RowKit
set_option linter.unusedVariables false

/-- Where arguments that were handed on lie. -/
def ArgsAt (w : World) (A : Option Addr) (xs : List VRec) : Prop :=
  xs = [] ∨ ∃ g, A = some ⟨g, 0, none⟩ ∧ g < w.heap.size ∧ ∀ i, i < xs.length → w.cell? ⟨g, i, none⟩ = some (xs.getD i z0).fl
theorem argsAt_below {w w' : World} {A : Option Addr} {xs : List VRec} (h : ArgsAt w A xs) (hb : Below w.heap.size w w') : ArgsAt w' A xs := by
  rcases h with rfl | ⟨g, rfl, h1, h2⟩
  · exact .inl rfl
  · exact .inr ⟨g, rfl, Nat.lt_of_lt_of_le h1 hb.size, fun i hi => (hb.cell (p := ⟨g, i, none⟩) h1).trans (h2 i hi)⟩
theorem argsAt_own {w : World} {B : Nat} {v : Value} {xs : List VRec} (h : w.ownsRow B 20 1 v xs.length (xs.map VRec.fl)) : ∃ A c, v = .slice A xs.length c ∧ ArgsAt w A xs := by
  have hc := fun g => h.cells (g := g)
  have hlt := h.lt
  rcases h.2 with ⟨hv, h0⟩ | ⟨g, cap, cur, hv, _⟩
  · subst hv
    have : xs = [] := List.eq_nil_of_length_eq_zero h0
    subst this
    exact ⟨none, 0, rfl, .inl rfl⟩
  · subst hv
    refine ⟨_, cap, rfl, .inr ⟨g, rfl, (hlt g rfl).2, fun i hi => ?_⟩⟩
    have h3 := hc g rfl i (xs.getD i z0).fl (by rw [List.getElem?_map, List.getD_eq_getElem?_getD, List.getElem?_eq_getElem hi]; rfl)
    have hadd : (⟨g, 0, none⟩ : Addr).add i = ⟨g, i, none⟩ := by unfold Addr.add; split <;> simp_all
    rw [hadd] at h3
    exact h3
theorem ta_qi (v : Value) (w : World) : (Instr.typeAssert (.iface 2 v) 20 62 true).run Tryd.prog w = .ok (.tuple #[.nilIface, .bool false]) w := run_typeAssert_lacksB Tryd.underlying62 (by kernel_rfl) (by kernel_rfl) v _ w
theorem ta_qs (v : Value) (w : World) : (Instr.typeAssert (.iface 9 v) 20 62 true).run Tryd.prog w = .ok (.tuple #[.nilIface, .bool false]) w := run_typeAssert_lacksB Tryd.underlying62 (by kernel_rfl) (by kernel_rfl) v _ w
theorem ta_qb (v : Value) (w : World) : (Instr.typeAssert (.iface 4 v) 20 62 true).run Tryd.prog w = .ok (.tuple #[.nilIface, .bool false]) w := run_typeAssert_lacksB Tryd.underlying62 (by kernel_rfl) (by kernel_rfl) v _ w
theorem ta_qn (w : World) : (Instr.typeAssert .nilIface 20 62 true).run Tryd.prog w = .ok (.tuple #[.nilIface, .bool false]) w := by kernel_rfl
theorem ta_q (x : VRec) (w : World) : (Instr.typeAssert x.fl 20 62 true).run Tryd.prog w = .ok (.tuple #[.nilIface, .bool false]) w := by
  unfold VRec.fl ifaceOf
  split
  · exact ta_qn w
  · split
    · exact ta_qi _ w
    · split
      · exact ta_qs _ w
      · exact ta_qb _ w
theorem box2 (w : World) (u v : Value) (T : TypeId) : (w.alloc (.cells #[u, v] T)).cell? ⟨w.heap.size, 0, none⟩ = some u ∧ (w.alloc (.cells #[u, v] T)).cell? ⟨w.heap.size, 1, none⟩ = some v := by
  have h := heap_alloc_new w (.cells #[u, v] T)
  exact ⟨(cell_of_row _ _ _ _ _ _ h).trans rfl, (cell_of_row _ _ _ _ _ _ h).trans rfl⟩
set_option maxHeartbeats 2000000 in
set_option maxRecDepth 100000 in
theorem toSql_any (q : ByteArray) (A : Option Addr) (n c : Nat) (xs : List VRec) (w : World) (hn : xs.length = n) (hm : n ≤ 1000000) (hx : ArgsAt w A xs) :
    Calls Tryd.prog 90 #[.agg #[.string q, .slice A n c]] w fun e w' => e = .returned (.tuple #[.string q, .slice A n c, .nilIface]) ∧ Below w.heap.size w w' := by
  have HX := Lib.hid (argsAt_below hx ((Below.refl w.heap.size w).alloc (Nat.le_refl _) (.cells #[.string q, .slice A n c] 90)))
  have HN := Lib.hid hn
  have HB := Lib.hid ((Below.refl w.heap.size w).alloc (Nat.le_refl _) (.cells #[.string q, .slice A n c] 90))
  have b0 := box2 w (.string q) (.slice A n c) 90
  clear hx hn
  go_enter Tryd.func90, Tryd.ntmps90
  go_wp2_with fail
  generalize w.alloc (.cells #[.string q, .slice A n c] 90) = w1 at HX HB b0 ⊢
  obtain ⟨b0, b1⟩ := b0
  go_loop [5, 21] (fun s i => ∃ k : Nat, k ≤ n ∧ i = .int .i64 k ∧ s = .bool true) (fun _ i => n - (intOf i).toNat)
  case atStart => exact ⟨0, Nat.zero_le _, rfl, rfl⟩
  case round =>
    obtain ⟨k, hk, rfl, rfl⟩ := hrel
    have h0 : (0 : Int) ≤ k := by omega
    by_cases hlt : k < n
    · have hkn : (k : Int) < n := by omega
      have hne : xs ≠ [] := fun e => by have := HN.out; rw [e] at this; simp at this; omega
      obtain ⟨g, rfl, hg, hl⟩ := HX.out.resolve_left hne
      have hcell := hl k (by rw [HN.out]; exact hlt)
      have hta := ta_q (xs.getD k z0)
      generalize (xs.getD k z0).fl = u at hcell hta
      clear hl hne hg
      go_wp2_with fail
      go_round
      case rel => exact ⟨k + 1, by omega, by go_num, rfl⟩
      case measure => simp [intOf]; omega
    · obtain rfl : k = n := by omega
      go_wp2_with fail
      go_quiet (fail)
      go_wp2_with fail
      go_ret3
      exact ⟨rfl, HB.out.trans ⟨rfl, rfl, rfl, Nat.le_refl _, fun _ _ => rfl⟩⟩
end Go.Proofs.YtdjgknfmehkigaaDoor
