/- What brackets9 answers: whether a text has a bracket. A walk; every world, every text. -/
import Derived.Test.YtdjgknfmehkigaaBare
namespace Go.Proofs.Ytdjgknfmehkigaa
open Go.RowKit
set_option linter.unusedVariables false

def nobr (s : ByteArray) : Prop := ∀ i, i < s.size → bt s i ≠ 40 ∧ bt s i ≠ 41
open Classical in
noncomputable def brB (s : ByteArray) : Bool := decide (¬ nobr s)
theorem brB_false {s : ByteArray} : brB s = false ↔ nobr s := by unfold brB; simp
theorem brB_true {s : ByteArray} (h : ¬ nobr s) : brB s = true := by unfold brB; simp [h]
set_option maxHeartbeats 1000000 in
theorem brackets9_any (s : ByteArray) (w : World) (hs : s.size ≤ maxLen) :
    Calls Try.prog 9 #[.string s] w fun e w' => e = .returned (.bool (brB s)) ∧ w = w' := by
  unfold maxLen at hs
  go_enter Try.func9, Try.ntmps9
  go_wp2
  go_loop [6] (fun i => ∃ m : Nat, m ≤ s.size ∧ i = .int .i64 m ∧ ∀ j, j < m → bt s j ≠ 40 ∧ bt s j ≠ 41) (fun i => s.size - (intOf i).toNat)
  case atStart => exact ⟨0, Nat.zero_le _, rfl, fun j h => by omega⟩
  case round =>
    obtain ⟨m, hm2, rfl, hb⟩ := hrel
    have HB2 := Lib.hid hb
    clear hb
    by_cases hmt : m < s.size
    · have hg := bt_get s m hmt
      have hmm : (0 : Int) ≤ m := by omega
      have hmn : (m : Int) < s.size := by omega
      have HG := Lib.hid hg
      clear hg
      go_wp2
      case roundEnd =>
        go_round
        case rel =>
          refine ⟨m + 1, by omega, by go_num, fun j hj => ?_⟩
          by_cases hjk : j = m
          · subst hjk
            rw [HG.out]
            simp only [beq_eq_false_iff_ne, ne_eq] at *
            omega
          · exact HB2.out j (by omega)
        case measure => simp [intOf]; omega
      all_goals
        go_ret
        refine ⟨ret_bool (brB_true ?_).symm, rfl⟩
        intro h
        have h := h m hmt
        rw [HG.out] at h
        first | omega | (simp only [beq_iff_eq] at *; omega)
    · go_wp2
      go_ret
      exact ⟨ret_bool (brB_false.2 fun i hi => HB2.out i (by omega)).symm, rfl⟩
end Go.Proofs.Ytdjgknfmehkigaa
