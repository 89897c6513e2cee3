/- full9 and sign9: walks. Of texts with question marks between, the inner ones not empty, no two question marks stand side by side. -/
import Derived.Test.YtdjgknfmehkigaaDoorRepl
import Derived.Test.YtdjgknfmehkigaaDoorStrE
import Derived.RegionTactic
import Derived.ChangeAlike
import Derived.OpenShut
namespace Go.Proofs.YtdjgknfmehkigaaDoor
open Go.RowKit
set_option linter.unusedVariables false

def fullP (ss : List ByteArray) : Prop := ∀ i, 1 ≤ i → i + 1 < ss.length → (ss.getD i ByteArray.empty).size ≠ 0
open Classical in
/-- Whether full9 says yes. -/
noncomputable def fullB (ss : List ByteArray) : Bool := decide (fullP ss)
theorem fullB_iff {ss : List ByteArray} : fullB ss = true ↔ fullP ss := by unfold fullB; simp
theorem fullB_false {ss : List ByteArray} (h : ¬ fullP ss) : fullB ss = false := by unfold fullB; simp only [decide_eq_false_iff_not]; exact h
set_option maxHeartbeats 1000000 in
theorem full_at (A : Option Addr) (n c : Nat) (ss : List ByteArray) (w : World) (hn : ss.length = n) (hm : n ≤ 20) (hx : StrsAt w A ss) :
    Calls Tryd.prog 19 #[.slice A n c] w fun e w' => e = .returned (.bool (fullB ss)) ∧ w = w' := by
  have HX := Lib.hid hx
  have HN := Lib.hid hn
  clear hx hn
  go_enter Tryd.func19, Tryd.ntmps19
  go_wp2_with fail
  go_loop [3] (fun i => ∃ (k : Nat), k ≤ n + 1 ∧ 1 ≤ k ∧ i = .int .i64 k ∧ Hid (∀ j, 1 ≤ j → j < k → j + 1 < n → (ss.getD j ByteArray.empty).size ≠ 0)) (fun i => n + 1 - (intOf i).toNat)
  case atStart => exact ⟨1, by omega, by omega, rfl, Lib.hid (fun j h1 h2 => by omega)⟩
  case round =>
    obtain ⟨k, hk, hk1, rfl, HK⟩ := hrel
    have h0 : (0 : Int) ≤ k := by omega
    by_cases hlt : k + 1 < n
    · have hkn : (k : Int) + 1 < n := by omega
      have hkn2 : (k : Int) < n := by omega
      have hne : ss ≠ [] := fun e => by have := HN.out; rw [e] at this; simp at this; omega
      obtain ⟨b, off, rfl, hb, hl⟩ := HX.out.resolve_left hne
      have hcell := hl k (by rw [HN.out]; omega)
      generalize hx : ss.getD k ByteArray.empty = x at hcell
      have HXX := Lib.hid hx
      clear hb hl hne hx
      by_cases hz : x.size = 0
      · have he := toList_empty hz
        go_wp2_with fail
        go_ret
        refine ⟨ret_bool (fullB_false ?_).symm, rfl⟩
        intro h
        have := h k hk1 (by rw [HN.out]; omega)
        rw [HXX.out] at this
        exact this hz
      · have he := toList_some hz
        go_wp2_with fail
        go_round
        case rel =>
          refine ⟨k + 1, by omega, by omega, by go_num, Lib.hid (fun j h1 h2 h3 => ?_)⟩
          by_cases hjk : j = k
          · subst hjk
            rw [HXX.out]
            exact hz
          · exact HK.out j h1 (by omega) h3
        case measure => simp [intOf]; omega
    · have hkn : ¬ (k : Int) + 1 < n := by omega
      go_wp2_with fail
      go_ret
      refine ⟨ret_bool (fullB_iff.2 ?_).symm, rfl⟩
      intro i h1 h2
      rw [HN.out] at h2
      exact HK.out i h1 (by omega) h2
def SgOk (w : World) (e : Ending) (w' : World) : Prop := ∃ f sg, FormSg f sg ∧ e = .returned (.tuple #[.string sg, .int .i64 f]) ∧ Below w.heap.size w w'
theorem b2 (w : World) (X Y : Obj) : Below w.heap.size w ((w.alloc X).alloc Y) := ((Below.refl _ w).alloc (Nat.le_refl _) X).alloc (by simp) Y
set_option maxHeartbeats 1000000 in
theorem sign_at (kd : Int) (w : World) (hkd : (Lit.int .u8 kd).wf = true) : Calls Tryd.prog 20 #[.int .u8 kd] w (SgOk w) := by
  have hbd := Go.bounds_u8 hkd
  have hk3 : kd % 3 = 0 ∨ kd % 3 = 1 ∨ kd % 3 = 2 := by omega
  clear hkd
  rcases hk3 with hk | hk | hk
  all_goals
    go_enter Tryd.func20, Tryd.ntmps20
    go_wp2_with fail
    go_region
    all_goals
      go_wp2_with fail
      go_ret2
      refine ⟨_, _, ?_, rfl, (b2 w _ _).drew⟩
      first | exact .inl ⟨rfl, rfl⟩ | exact .inr (.inl ⟨rfl, rfl⟩) | exact .inr (.inr ⟨rfl, rfl⟩)
theorem sepQ_skip (a : List UInt8) (h : ∀ c ∈ a, (c.toNat : Int) ≠ 63) (l : List UInt8) : sepQ (a ++ l) = sepQ l := by
  induction a with
  | nil => rfl
  | cons c a ih =>
    have hc : ((c.toNat : Int) == 63) = false := by rw [beq_eq_false_iff_ne]; exact h c (by simp)
    have ih2 := ih (fun d hd => h d (by simp [hd]))
    show (!(((c.toNat : Int) == 63) && _) && sepQ (a ++ l)) = sepQ l
    rw [hc, ih2]
    rfl
theorem sepQ_free {a : List UInt8} (h : ∀ c ∈ a, (c.toNat : Int) ≠ 63) : sepQ a = true := by
  have := sepQ_skip a h []
  rw [List.append_nil] at this
  rw [this]
  rfl
theorem sepQ_mark {a : List UInt8} (h : ∀ c ∈ a, (c.toNat : Int) ≠ 63) {l : List UInt8} (hl : a ≠ [] ∨ l = []) : sepQ (63 :: (a ++ l)) = sepQ l := by
  cases a with
  | nil =>
    obtain rfl : l = [] := hl.resolve_left (fun e => e rfl)
    rfl
  | cons c a =>
    have hc : ((c.toNat : Int) == 63) = false := by rw [beq_eq_false_iff_ne]; exact h c (by simp)
    have hs := sepQ_skip (c :: a) h l
    rw [List.cons_append] at hs ⊢
    show (!((((63 : UInt8).toNat : Int) == 63) && ((c.toNat : Int) == 63)) && sepQ (c :: (a ++ l))) = sepQ l
    rw [hs, hc, Bool.and_false]
    rfl
theorem sep_bet (ss : List ByteArray) : ∀ k, (∀ i, i < k → bare1 (ss.getD i ByteArray.empty)) → (∀ i, 1 ≤ i → i < k → (ss.getD i ByteArray.empty).size ≠ 0) → ∀ r, sepQ r = true → sepQ ((betS qf ss k).data.toList ++ r) = true
  | 0, _, _, r, hr => hr
  | k + 1, h, hf, r, hr => by
    have hk := free63 (h k (by omega))
    by_cases h0 : k = 0
    · subst h0
      have e1 : (betS qf ss (0 + 1)).data.toList = (ss.getD 0 ByteArray.empty).data.toList := by rw [betS_one, app_list]; rfl
      rw [e1, sepQ_skip _ hk]
      exact hr
    · rw [bet_list qf ss k h0]
      have e3 : (betS qf ss k).data.toList ++ ((qf k).data.toList ++ (ss.getD k ByteArray.empty).data.toList) ++ r = (betS qf ss k).data.toList ++ (63 :: ((ss.getD k ByteArray.empty).data.toList ++ r)) := by
        show (betS qf ss k).data.toList ++ ([63] ++ (ss.getD k ByteArray.empty).data.toList) ++ r = _
        simp
      rw [e3]
      refine sep_bet ss k (fun i hi => h i (by omega)) (fun i h1 h2 => hf i h1 (by omega)) _ ?_
      rw [sepQ_mark hk (.inl fun e => hf k (by omega) (by omega) (by rw [← size_list, e]; rfl))]
      exact hr
/-- Texts of which the inner ones are not empty, with question marks between: no two question marks side by side. -/
theorem sep_full (ss : List ByteArray) (n : Nat) (hn : ss.length = n) (hb : ∀ i, i < n → bare1 (ss.getD i ByteArray.empty)) (hf : fullP ss) : sepQ (betS qf ss n).data.toList = true := by
  cases n with
  | zero => rfl
  | succ k =>
    have hk := free63 (hb k (by omega))
    by_cases h0 : k = 0
    · subst h0
      have e1 : (betS qf ss (0 + 1)).data.toList = (ss.getD 0 ByteArray.empty).data.toList := by rw [betS_one, app_list]; rfl
      rw [e1]
      exact sepQ_free hk
    · rw [bet_list qf ss k h0]
      refine sep_bet ss k (fun i hi => hb i (by omega)) (fun i h1 h2 => hf i h1 (by omega)) _ ?_
      have := sepQ_mark hk (l := []) (.inr rfl)
      rw [List.append_nil] at this
      exact this.trans rfl
end Go.Proofs.YtdjgknfmehkigaaDoor
