/- What findMatchingClosingBracketIndex answers at a text of ASCII: the place of the bracket that closes the first one. A walk; every world. -/
import Derived.Test.YtdjgknfmehkigaaBare
namespace Go.Proofs.Ytdjgknfmehkigaa
open Go.RowKit
set_option linter.unusedVariables false

/-- The place of the closing bracket in what is left of a text from place i on, with n brackets open. -/
def closL : List UInt8 → Nat → Int → Nat
  | [], _, _ => 0
  | c :: l, i, n => if (c.toNat : Int) = 40 then closL l (i + 1) (n + 1) else if (c.toNat : Int) = 41 then (if n - 1 = 0 then i else closL l (i + 1) (n - 1)) else closL l (i + 1) n
def closing (s : ByteArray) : Nat := closL s.data.toList 0 0

set_option maxHeartbeats 1000000 in
theorem closing_any (s : ByteArray) (w : World) (hs : s.size ≤ 1000000000) (ha : ∀ i, (h : i < s.size) → (s[i]'h).toNat < 128) :
    Calls Try.prog 22 #[.string s] w fun e w' => e = .returned (.int .i64 (closing s)) ∧ Below w.heap.size w w' := by
  have HA := Lib.hid ha
  clear ha
  go_enter Try.func22, Try.ntmps22
  go_wp2
  go_loopw [3] (fun n w' => ∃ (pos : Nat) (cnt : Int), w' = w.iter s pos ∧ n = .int .i64 cnt ∧ -(pos : Int) ≤ cnt ∧ cnt ≤ pos ∧ pos ≤ s.size ∧ Hid (closL (s.data.toList.drop pos) pos cnt = closing s)) (fun _ w' => s.size - w'.iterPos w.heap.size)
  case atStart => exact ⟨0, 0, rfl, rfl, by omega, by omega, by omega, Lib.hid rfl⟩
  case round =>
    obtain ⟨pos, cnt, rfl, rfl, hc0, hc1, hps, HC⟩ := hrel
    by_cases hp : pos < s.size
    · have hnx : ∀ ty, (Instr.next (.pointer (some ⟨w.heap.size, 0, none⟩)) true ty).run Try.prog (w.iter s pos) = _ := fun ty => run_next_ascii w s pos ty hp (HA.out pos hp)
      have HG := Lib.hid (drop_at s pos hp)
      go_wp2
      case roundEnd =>
        go_roundw
        case rel =>
          have h := HC.out
          rw [HG.out, closL] at h
          have e : (s[pos].toNat : Int) = 40 := by simpa using ‹(_ == (40 : Int)) = true›
          rw [if_pos e] at h
          exact ⟨pos + 1, _, rfl, rfl, by omega, by omega, by omega, Lib.hid h⟩
        case measure => simp; omega
      case roundEnd =>
        go_roundw
        case rel =>
          have h := HC.out
          rw [HG.out, closL] at h
          have e : ¬ (s[pos].toNat : Int) = 40 := by simpa using ‹(_ == (40 : Int)) = false›
          have e2 : (s[pos].toNat : Int) = 41 := by simpa using ‹(_ == (41 : Int)) = true›
          have e3 : ¬ cnt - 1 = 0 := by simpa using ‹(_ == (0 : Int)) = false›
          rw [if_neg e, if_pos e2, if_neg e3] at h
          exact ⟨pos + 1, _, rfl, rfl, by omega, by omega, by omega, Lib.hid h⟩
        case measure => simp; omega
      case roundEnd =>
        go_roundw
        case rel =>
          have h := HC.out
          rw [HG.out, closL] at h
          have e : ¬ (s[pos].toNat : Int) = 40 := by simpa using ‹(_ == (40 : Int)) = false›
          have e2 : ¬ (s[pos].toNat : Int) = 41 := by simpa using ‹(_ == (41 : Int)) = false›
          rw [if_neg e, if_neg e2] at h
          exact ⟨pos + 1, _, rfl, rfl, by omega, by omega, by omega, Lib.hid h⟩
        case measure => simp; omega
      go_ret
      have h := HC.out
      rw [HG.out, closL] at h
      have e : ¬ (s[pos].toNat : Int) = 40 := by simpa using ‹(_ == (40 : Int)) = false›
      have e2 : (s[pos].toNat : Int) = 41 := by simpa using ‹(_ == (41 : Int)) = true›
      have e3 : cnt - 1 = 0 := by simpa using ‹(_ == (0 : Int)) = true›
      rw [if_neg e, if_pos e2, if_pos e3] at h
      exact ⟨ret_int64 (by omega), (Below.refl _ _).alloc (Nat.le_refl _) _⟩
    · have hnx : ∀ ty, (Instr.next (.pointer (some ⟨w.heap.size, 0, none⟩)) true ty).run Try.prog (w.iter s pos) = _ := fun ty => run_next_end w s pos ty hp
      go_wp2
      go_ret
      have h := HC.out
      rw [drop_end s pos hp, closL] at h
      exact ⟨ret_int64 (by omega), (Below.refl _ _).alloc (Nat.le_refl _) _⟩

theorem closingOf_any (s : ByteArray) (w : World) (hs : s.size ≤ 1000000000) (ha : ∀ i, (h : i < s.size) → (s[i]'h).toNat < 128) :
    Calls Try.prog 10 #[.string s] w fun e w' => e = .returned (.int .i64 (closing s)) ∧ Below w.heap.size w w' := by
  have HA := Lib.hid ha
  clear ha
  go_enter Try.func10, Try.ntmps10
  go_wp2_with (first | (go_at_call 22; refine (closing_any _ _ hs HA.out).mono ?_; rintro e w' ⟨rfl, hb⟩) | go_in)
  go_ret
  exact ⟨rfl, hb⟩
end Go.Proofs.Ytdjgknfmehkigaa
