/- zzAllowed at a byte of ASCII, and errors.New: walks. -/
import Derived.Test.YtpjadgdimkdblaaDoorCnS
namespace Go.Proofs.YtpjadgdimkdblaaDoor
open Go.RowKit
set_option linter.unusedVariables false

theorem isA_iff {c : UInt8} : isA c = true ↔ (97 ≤ c.toNat ∧ c.toNat ≤ 122 ∨ 65 ≤ c.toNat ∧ c.toNat ≤ 90 ∨ 48 ≤ c.toNat ∧ c.toNat ≤ 57) := by
  unfold isA
  simp
set_option maxHeartbeats 1000000 in
set_option maxRecDepth 100000 in
theorem allowed_any (c : UInt8) (hc : c.toNat < 128) (w : World) :
    Calls Tryd.prog 53 #[.int .u8 (c.toNat : Int)] w fun e w' => e = .returned (.bool (isA c)) ∧ w = w' := by
  cases h : isA c with
  | true =>
    rw [isA_iff] at h
    generalize c.toNat = x at h hc ⊢
    rcases h with h | h | h
    all_goals
      have h1 : (48 : Int) ≤ x := by omega
      have h2 : (x : Int) < 128 := by omega
      go_enter Tryd.func53, Tryd.ntmps53
      go_wp2_with fail
      go_ret
      exact ⟨rfl, rfl⟩
  | false =>
    have h : ¬ (97 ≤ c.toNat ∧ c.toNat ≤ 122 ∨ 65 ≤ c.toNat ∧ c.toNat ≤ 90 ∨ 48 ≤ c.toNat ∧ c.toNat ≤ 57) := fun e => by rw [isA_iff.2 e] at h; cases h
    generalize c.toNat = x at h hc ⊢
    have h4 : x < 48 ∨ (57 < x ∧ x < 65) ∨ (90 < x ∧ x < 97) ∨ 122 < x := by omega
    clear h
    have h0 : (0 : Int) ≤ x := by omega
    have h2 : (x : Int) < 128 := by omega
    rcases h4 with h | h | h | h
    all_goals
      go_enter Tryd.func53, Tryd.ntmps53
      go_wp2_with fail
      go_ret
      refine ⟨ret_bool ?_, rfl⟩
      simp
      omega
theorem errNew_any (s : ByteArray) (w : World) :
    Calls Tryd.prog 51 #[.string s] w fun e w' => e = .returned (.iface 105 (.pointer (some ⟨w.heap.size, 0, none⟩))) ∧ Below w.heap.size w w' := by
  go_enter Tryd.func51, Tryd.ntmps51
  go_wp2_with fail
  go_ret
  exact ⟨rfl, (Below.refl _ _).alloc (Nat.le_refl _) _⟩
end Go.Proofs.YtpjadgdimkdblaaDoor
