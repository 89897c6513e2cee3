/- The entries that In keeps of its arguments; asSliceForIn walked. -/
import Derived.Test.YtdjgknfmehkigaaValues
namespace Go.Proofs.Ytdjgknfmehkigaa
open Go.RowKit
set_option linter.unusedVariables false

theorem asSlice_list (sv : Value) (w : World) :
    Calls Try.prog 26 #[.iface 41 sv] w fun e w' => e = .returned (.tuple #[sv, .bool true]) ∧ w = w' := by
  have t1 := ta_ll
  go_enter Try.func26, Try.ntmps26
  go_wp2_with fail
  go_ret2
  exact ⟨rfl, rfl⟩
theorem asSlice_flat (x : VRec) (w : World) (h0 : 0 ≤ x.k) (h4 : x.k ≤ 4) :
    Calls Try.prog 26 #[x.fl] w fun e w' => e = .returned (.tuple #[.slice none 0 0, .bool false]) ∧ w = w' := by
  obtain ⟨k, n, t, A, m, c⟩ := x
  simp only at h0 h4
  have h : k = 0 ∨ k = 1 ∨ k = 2 ∨ k = 3 ∨ k = 4 := by omega
  rcases h with rfl | rfl | rfl | rfl | rfl
  all_goals
    unfold VRec.fl ifaceOf
    simp only []
    have t0 := ta_nl
    have t1 := ta_il
    have t2 := ta_sl
    have t3 := ta_bl
    go_enter Try.func26, Try.ntmps26
    go_wp2_with fail
    go_ret2
    exact ⟨rfl, rfl⟩
/-- The array of 32 entries, as it begins. -/
def metaZ : Array Value := ((List.replicate 32 [Value.slice none 0 0, .nilIface, .int .i64 0]).flatten).toArray
theorem zeroMeta (w : World) : (zeroValue 55).run Try.prog w = .ok (.agg metaZ) w := by kernel_rfl
/-- The three cells of an entry. -/
def mv (u : Value) (a : ARec) : Value := if a.x.k = 5 then (match u with | .iface _ sv => sv | _ => .slice none 0 0) else .slice none 0 0
def mi (u : Value) (a : ARec) : Value := if a.x.k = 5 then .nilIface else u
def ml (a : ARec) : Nat := if a.x.k = 5 then a.ys.length else 0
def Entry (cs : Array Value) (i : Nat) (v j : Value) (l : Nat) : Prop := cs[i * 3]? = some v ∧ cs[i * 3 + 1]? = some j ∧ cs[i * 3 + 2]? = some (.int .i64 l)
def MetaAt (cs : Array Value) (us : List Value) (gs : List ARec) (k : Nat) : Prop :=
  cs.size = 96 ∧ (∀ i, i < k → Entry cs i (mv (us.getD i .nilIface) (gs.getD i a0)) (mi (us.getD i .nilIface) (gs.getD i a0)) (ml (gs.getD i a0))) ∧ (∀ i, k ≤ i → i < 32 → Entry cs i (.slice none 0 0) .nilIface 0)
theorem flat3 (a b c : Value) (n : Nat) : ∀ i, i < n → ((List.replicate n [a, b, c]).flatten)[i * 3]? = some a ∧ ((List.replicate n [a, b, c]).flatten)[i * 3 + 1]? = some b ∧ ((List.replicate n [a, b, c]).flatten)[i * 3 + 2]? = some c := by
  induction n with
  | zero => intro i h; omega
  | succ n ih =>
    intro i h
    rw [List.replicate_succ, List.flatten_cons]
    rcases i with _ | i
    · exact ⟨rfl, rfl, rfl⟩
    · have := ih i (by omega)
      rw [show (i + 1) * 3 = i * 3 + 3 from by omega]
      exact this
theorem metaZ_entry : ∀ i, i < 32 → Entry metaZ i (.slice none 0 0) .nilIface 0 := by
  intro i hi
  have := flat3 (.slice none 0 0) .nilIface (.int .i64 0) 32 i hi
  unfold Entry metaZ
  simpa using this
theorem metaAt_start (us : List Value) (gs : List ARec) : MetaAt metaZ us gs 0 := ⟨rfl, fun i h => by omega, fun i _ h => metaZ_entry i h⟩
theorem entry_other {cs : Array Value} {i j : Nat} {v q : Value} {l : Nat} {x : Value} (h : Entry cs i v q l) (hj : j / 3 ≠ i) : Entry (cs.setIfInBounds j x) i v q l := by
  unfold Entry at h ⊢
  rw [Array.getElem?_setIfInBounds_ne (by omega), Array.getElem?_setIfInBounds_ne (by omega), Array.getElem?_setIfInBounds_ne (by omega)]
  exact h
theorem entry_list {cs : Array Value} {i : Nat} {v : Value} {l : Nat} (hs : cs.size = 96) (hi : i < 32) (h : Entry cs i (.slice none 0 0) .nilIface 0) :
    Entry ((cs.setIfInBounds (i * 3 + 2) (.int .i64 l)).setIfInBounds (i * 3) v) i v .nilIface l := by
  unfold Entry at h ⊢
  refine ⟨?_, ?_, ?_⟩
  · rw [Array.getElem?_setIfInBounds_self_of_lt (by simp; omega)]
  · rw [Array.getElem?_setIfInBounds_ne (by omega), Array.getElem?_setIfInBounds_ne (by omega)]; exact h.2.1
  · rw [Array.getElem?_setIfInBounds_ne (by omega), Array.getElem?_setIfInBounds_self_of_lt (by omega)]
theorem entry_one {cs : Array Value} {i : Nat} {u : Value} (hs : cs.size = 96) (hi : i < 32) (h : Entry cs i (.slice none 0 0) .nilIface 0) :
    Entry (cs.setIfInBounds (i * 3 + 1) u) i (.slice none 0 0) u 0 := by
  unfold Entry at h ⊢
  refine ⟨?_, ?_, ?_⟩
  · rw [Array.getElem?_setIfInBounds_ne (by omega)]; exact h.1
  · rw [Array.getElem?_setIfInBounds_self_of_lt (by omega)]
  · rw [Array.getElem?_setIfInBounds_ne (by omega)]; exact h.2.2
theorem metaAt_list {cs : Array Value} {us : List Value} {gs : List ARec} {k : Nat} (h : MetaAt cs us gs k) (hk : k < 32) (h5 : (gs.getD k a0).x.k = 5) (sv : Value) (t : TypeId) (hu : us.getD k .nilIface = .iface t sv) :
    MetaAt ((cs.setIfInBounds (k * 3 + 2) (.int .i64 (gs.getD k a0).ys.length)).setIfInBounds (k * 3) sv) us gs (k + 1) := by
  refine ⟨by rw [← h.1]; simp, fun i hi => ?_, fun i hi h32 => entry_other (entry_other (h.2.2 i (by omega) h32) (by omega)) (by omega)⟩
  by_cases e : i = k
  · subst e
    have := entry_list (v := sv) (l := (gs.getD i a0).ys.length) h.1 hk (h.2.2 i (Nat.le_refl _) hk)
    unfold mv mi ml
    rw [if_pos h5, if_pos h5, if_pos h5, hu]
    exact this
  · exact entry_other (entry_other (h.2.1 i (by omega)) (by omega)) (by omega)
theorem metaAt_one {cs : Array Value} {us : List Value} {gs : List ARec} {k : Nat} (h : MetaAt cs us gs k) (hk : k < 32) (h5 : ¬ (gs.getD k a0).x.k = 5) :
    MetaAt (cs.setIfInBounds (k * 3 + 1) (us.getD k .nilIface)) us gs (k + 1) := by
  refine ⟨by rw [← h.1]; simp, fun i hi => ?_, fun i hi h32 => entry_other (h.2.2 i (by omega) h32) (by omega)⟩
  by_cases e : i = k
  · subst e
    have := entry_one (u := us.getD i .nilIface) h.1 hk (h.2.2 i (Nat.le_refl _) hk)
    unfold mv mi ml
    rw [if_neg h5, if_neg h5, if_neg h5]
    exact this
  · exact entry_other (h.2.1 i (by omega)) (by omega)
end Go.Proofs.Ytdjgknfmehkigaa
