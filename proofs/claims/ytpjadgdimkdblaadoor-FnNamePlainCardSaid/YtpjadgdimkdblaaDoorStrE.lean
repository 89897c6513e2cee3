/- Whether a text is empty, as the walk asks it. -/
import Derived.Test.YtpjadgdimkdblaaDoorWords
namespace Go.Proofs.YtpjadgdimkdblaaDoor
open Go.RowKit
set_option linter.unusedVariables false

theorem loop_len (bs : ByteArray) : ∀ n i r, bs.size - i = n → (ByteArray.toList.loop bs i r).length = r.length + n := by
  intro n
  induction n with
  | zero =>
    intro i r h
    unfold ByteArray.toList.loop
    rw [if_neg (by omega)]
    simp
  | succ n ih =>
    intro i r h
    unfold ByteArray.toList.loop
    rw [if_pos (by omega), ih _ _ (by omega)]
    simp only [List.length_cons]
    omega
theorem toList_len (t : ByteArray) : t.toList.length = t.size := by
  unfold ByteArray.toList
  rw [loop_len t t.size 0 [] (by omega)]
  simp
theorem toList_empty {t : ByteArray} (h : t.size = 0) : t.toList.isEmpty = true := by
  have := toList_len t
  rw [h] at this
  rw [List.eq_nil_of_length_eq_zero this]
  rfl
theorem toList_some {t : ByteArray} (h : ¬ t.size = 0) : t.toList.isEmpty = false := by
  have := toList_len t
  cases hl : t.toList with
  | nil => rw [hl] at this; exact absurd this.symm h
  | cons a l => rfl
end Go.Proofs.YtpjadgdimkdblaaDoor
