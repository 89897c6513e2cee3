/- strconv.AppendInt of a small number, to a row of bytes of the call's own; digits9 of such a number. -/
import Derived.Test.YtpjadgdimkdblaaDoorWords
import Derived.Test.YtpjadgdimkdblaaDoorShelf
import Derived.Lib.AppendStr
namespace Go.Proofs.YtpjadgdimkdblaaDoor
open Go.RowKit
set_option linter.unusedVariables false

theorem Tryd.infoByte : (Tryd.prog.info? 5).map (fun i => (i.zero, i.size, i.bytes)) = some (some (.int .u8 0), 1, 1) := by kernel_rfl
def AppIOk (B n i : Nat) (sv : Value) (xs : List Value) (w : World) (e : Ending) (w' : World) : Prop :=
  ∃ v', e = .returned v' ∧ w'.ownsRow B 5 1 v' (n + (Lib.decDigits i).length) (xs ++ Lib.byteCells (Lib.decDigits i)) ∧ w.grownBy w' sv.ownBlock
theorem digits_len (i : Nat) (hi : i < 100) : (Lib.decDigits i).length ≤ 2 := by
  rw [Lib.decDigits]
  split
  · simp
  · rw [Lib.decDigits, dif_pos (by omega)]
    simp
theorem appendUint_small (B n i : Nat) (hi : i < 100) (sv : Value) (xs : List Value) (w : World) (hown : w.ownsRow B 5 1 sv n xs) (hB : B ≤ w.heap.size) (hlim : n ≤ 1000000000) :
    Calls Tryd.prog 68 #[sv, .int .u64 i, .int .i64 10] w (AppIOk B n i sv xs w) := by
  obtain ⟨i0, hi0, hz0, hz1, hz2⟩ := info_parts Tryd.infoByte
  have HO := Lib.hid hown
  have hdl : (ByteArray.mk (Lib.decDigits i).toArray).size ≤ 2 := by have := digits_len i hi; simpa [ByteArray.size] using this
  have HS := Lib.hid (show (ByteArray.mk (Lib.decDigits i).toArray).size = (Lib.decDigits i).length from by simp [ByteArray.size])
  have hi2 : (i : Int) < 100 := by omega
  have hi3 : (0 : Int) ≤ i := by omega
  clear hown
  go_enter Tryd.func68, Tryd.ntmps68
  go_wp2_with fail
  refine (Tryd.internal_strconv_small i hi w).mono ?_
  rintro e w' ⟨rfl, rfl⟩
  go_wp2_with (at_builtin; refine Hid.out ?_)
  refine Lib.hid ?_
  refine Lib.wpList_append_own_string _ rfl _ _ 59 9 rfl B 5 i0 Tryd.underlying59 Tryd.underlying9 hi0 hz0 hz1 hz2 sv n xs rfl HO.out ⟨(Lib.decDigits i).toArray⟩ rfl (by unfold maxLen; omega) (by omega) hB ?_
  intro v2 w2 hown2 hg2 _
  have HO2 := Lib.hid hown2
  have HG2 := Lib.hid hg2
  clear hown2 hg2
  go_wp2
  go_ret
  refine ⟨v2, rfl, ?_, HG2.out⟩
  have := HO2.out
  rw [HS.out] at this
  exact this
theorem appendInt1_small (B n i : Nat) (hi : i < 100) (sv : Value) (xs : List Value) (w : World) (hown : w.ownsRow B 5 1 sv n xs) (hB : B ≤ w.heap.size) (hlim : n ≤ 1000000000) :
    Calls Tryd.prog 61 #[sv, .int .i64 i, .int .i64 10] w (AppIOk B n i sv xs w) := by
  have HO := Lib.hid hown
  have hi2 : (i : Int) < 100 := by omega
  have hi3 : (0 : Int) ≤ i := by omega
  have hi4 : ¬ (i : Int) < 0 := by omega
  clear hown
  go_enter Tryd.func61, Tryd.ntmps61
  go_wp2_with fail
  refine (appendUint_small B n i hi sv xs w HO.out hB hlim).mono ?_
  rintro e w' ⟨v2, rfl, h2, h3⟩
  have H2 := Lib.hid h2
  have H3 := Lib.hid h3
  clear h2 h3
  go_wp2
  go_ret
  exact ⟨v2, rfl, H2.out, H3.out⟩
theorem appendInt_small (B n i : Nat) (hi : i < 100) (sv : Value) (xs : List Value) (w : World) (hown : w.ownsRow B 5 1 sv n xs) (hB : B ≤ w.heap.size) (hlim : n ≤ 1000000000) :
    Calls Tryd.prog 50 #[sv, .int .i64 i, .int .i64 10] w (AppIOk B n i sv xs w) := by
  have HO := Lib.hid hown
  clear hown
  go_enter Tryd.func50, Tryd.ntmps50
  go_wp2_with fail
  refine (appendInt1_small B n i hi sv xs w HO.out hB hlim).mono ?_
  rintro e w' ⟨v2, rfl, h2, h3⟩
  have H2 := Lib.hid h2
  have H3 := Lib.hid h3
  clear h2 h3
  go_wp2
  go_ret
  exact ⟨v2, rfl, H2.out, H3.out⟩
end Go.Proofs.YtpjadgdimkdblaaDoor
