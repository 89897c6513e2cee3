/- What sqlx's zzIndex answers of a question mark: the place of the first one, or -1. A walk; every world, every text. -/
import Derived.Test.YtpjadgdimkdblaaDoorProg
import Derived.Test.YtpjadgdimkdblaaDoorWords
namespace Go.Proofs.YtpjadgdimkdblaaDoor
open Go.RowKit
set_option linter.unusedVariables false

set_option maxHeartbeats 1000000 in
theorem x_idx (s : ByteArray) (w : World) (hs : s.size ≤ 1000000000) :
    Calls Tryd.prog 49 #[.string s, .string ⟨#[63]⟩] w fun e w' => e = .returned (.int .i64 (idxQ s.data.toList 0)) ∧ w = w' := by
  go_enter Tryd.func49, Tryd.ntmps49
  go_wp2
  go_loop [5] (fun i => ∃ k : Nat, k ≤ s.size ∧ i = .int .i64 k ∧ Hid (idxQ (s.data.toList.drop k) k = idxQ s.data.toList 0)) (fun i => s.size - (intOf i).toNat)
  case atStart => exact ⟨0, Nat.zero_le _, rfl, Lib.hid rfl⟩
  case round =>
    obtain ⟨k, hk, rfl, HK⟩ := hrel
    have h0 : (0 : Int) ≤ k := by omega
    by_cases hlt : k < s.size
    · have hki : (k : Int) + 1 ≤ s.size := by omega
      have HE := Lib.hid (one_byte s k hlt)
      have HD := Lib.hid (drop_at s k hlt)
      go_wp2
      case roundEnd =>
        go_round
        case rel =>
          refine ⟨k + 1, by omega, by go_num, Lib.hid ?_⟩
          have h := HK.out
          have e : ¬ (s[k].toNat : Int) = 63 := fun e => by
            have g := ‹((s.extract k (k + 1)).toList == [63]) = false›
            rw [Go.ByteArray.toList_eq, HE.out, beq_eq_false_iff_ne] at g
            exact g (by rw [show s[k] = 63 from UInt8.toNat_inj.1 (by rw [show (63 : UInt8).toNat = 63 from rfl]; omega)])
          rw [HD.out, idxQ, if_neg e] at h
          exact h
        case measure => simp [intOf]; omega
      go_ret
      have h := HK.out
      have e : (s[k].toNat : Int) = 63 := by
        have g := ‹((s.extract k (k + 1)).toList == [63]) = true›
        rw [Go.ByteArray.toList_eq, HE.out, beq_iff_eq, List.cons.injEq] at g
        rw [g.1]
        rfl
      rw [HD.out, idxQ, if_pos e] at h
      exact ⟨ret_int64 h, rfl⟩
    · have hki : ¬ (k : Int) + 1 ≤ s.size := by omega
      go_wp2
      go_ret
      have h := HK.out
      rw [drop_end s k hlt, idxQ] at h
      rw [← h]
      exact ⟨rfl, rfl⟩
end Go.Proofs.YtpjadgdimkdblaaDoor
