/- FnClosingDeep walked: it answers true whatever the texts and the number are, and only makes new memory. -/
import Derived.Test.YtdjgknfmehkigaaClosePlain
import Derived.Test.YtdjgknfmehkigaaBr
namespace Go.Proofs.Ytdjgknfmehkigaa
open Go.RowKit
set_option linter.unusedVariables false

theorem two_cells (a b : ByteArray) (w : World) : ∀ i, i < 2 → (w.alloc (.cells #[.string a, .string b] 9)).cell? ⟨w.heap.size, 0 + i, none⟩ = some (.string ([a, b].getD i ByteArray.empty)) := by
  intro i hi
  rw [cell_of_row _ _ _ _ _ _ (heap_alloc_new w _)]
  have h : i = 0 ∨ i = 1 := by omega
  rcases h with rfl | rfl <;> rfl
theorem two_small (a b : ByteArray) (ha : a.size ≤ maxLen) (hb : b.size ≤ maxLen) : ∀ i, i < 2 → ([a, b].getD i ByteArray.empty).size ≤ maxLen := by
  intro i hi
  have h : i = 0 ∨ i = 1 := by omega
  rcases h with rfl | rfl <;> simp [ha, hb]
theorem bare_two {a b : ByteArray} (h : bareB [a, b] = true) : bare1 a ∧ bare1 b := by
  have h := (bareB_iff.1 h).1
  exact ⟨by simpa using h 0 (by simp), by simpa using h 1 (by simp)⟩

set_option maxHeartbeats 2000000 in
theorem closingDeep_no (a b : ByteArray) (d : Int) (w : World) (ha : a.size ≤ maxLen) (hb : b.size ≤ maxLen) (hd : (Lit.int .u8 d).wf = true)
    (hno : 2147483647 < a.size ∨ 2147483647 < b.size ∨ bareB [a, b] = false ∨ d < 1 ∨ 40 < d ∨ brB a = true ∨ brB b = true) :
    Calls Try.prog 3 #[.string a, .string b, .int .u8 d] w fun e w' => e = .returned (.bool true) ∧ Below w.heap.size w w' := by
  have HC := Lib.hid (two_cells a b w)
  have HZ := Lib.hid (two_small a b ha hb)
  have HD := Lib.hid hd
  clear hd
  have HN := Lib.hid hno
  clear hno
  by_cases h1 : (2147483647 : Int) < a.size
  · go_enter Try.func3, Try.ntmps3
    go_wp2_with fail
    go_ret
    exact ⟨rfl, Below.refl _ _⟩
  by_cases h2 : (2147483647 : Int) < b.size
  · go_enter Try.func3, Try.ntmps3
    go_wp2_with fail
    go_ret
    exact ⟨rfl, Below.refl _ _⟩
  cases hB : bareB [a, b] with
  | false =>
    go_enter Try.func3, Try.ntmps3
    go_wp2_with (first | (go_at_call 8; refine (bare9_any w.heap.size 0 2 2 [a, b] _ rfl (by omega) HC.out HZ.out).mono ?_; rintro e w' ⟨rfl, rfl⟩) | (go_at_call 9; refine (brackets9_any _ _ (by assumption)).mono ?_; rintro e w' ⟨rfl, rfl⟩))
    go_ret
    exact ⟨rfl, (Below.refl _ _).alloc (Nat.le_refl _) _⟩
  | true =>
  by_cases h3 : d < 1
  · go_enter Try.func3, Try.ntmps3
    go_wp2_with (first | (go_at_call 8; refine (bare9_any w.heap.size 0 2 2 [a, b] _ rfl (by omega) HC.out HZ.out).mono ?_; rintro e w' ⟨rfl, rfl⟩) | (go_at_call 9; refine (brackets9_any _ _ (by assumption)).mono ?_; rintro e w' ⟨rfl, rfl⟩))
    go_ret
    exact ⟨rfl, (Below.refl _ _).alloc (Nat.le_refl _) _⟩
  by_cases h4 : 40 < d
  · go_enter Try.func3, Try.ntmps3
    go_wp2_with (first | (go_at_call 8; refine (bare9_any w.heap.size 0 2 2 [a, b] _ rfl (by omega) HC.out HZ.out).mono ?_; rintro e w' ⟨rfl, rfl⟩) | (go_at_call 9; refine (brackets9_any _ _ (by assumption)).mono ?_; rintro e w' ⟨rfl, rfl⟩))
    go_ret
    exact ⟨rfl, (Below.refl _ _).alloc (Nat.le_refl _) _⟩
  cases h5 : brB a with
  | true =>
    go_enter Try.func3, Try.ntmps3
    go_wp2_with (first | (go_at_call 8; refine (bare9_any w.heap.size 0 2 2 [a, b] _ rfl (by omega) HC.out HZ.out).mono ?_; rintro e w' ⟨rfl, rfl⟩) | (go_at_call 9; refine (brackets9_any _ _ (by assumption)).mono ?_; rintro e w' ⟨rfl, rfl⟩))
    go_ret
    exact ⟨rfl, (Below.refl _ _).alloc (Nat.le_refl _) _⟩
  | false =>
  cases h6 : brB b with
  | true =>
    go_enter Try.func3, Try.ntmps3
    go_wp2_with (first | (go_at_call 8; refine (bare9_any w.heap.size 0 2 2 [a, b] _ rfl (by omega) HC.out HZ.out).mono ?_; rintro e w' ⟨rfl, rfl⟩) | (go_at_call 9; refine (brackets9_any _ _ (by assumption)).mono ?_; rintro e w' ⟨rfl, rfl⟩))
    go_ret
    exact ⟨rfl, (Below.refl _ _).alloc (Nat.le_refl _) _⟩
  | false =>
    have h := HN.out
    rw [hB, h5, h6] at h
    simp at h
    omega
set_option maxHeartbeats 2000000 in
theorem closingDeep_yes (a b : ByteArray) (d : Nat) (w : World) (ha : bare1 a) (hb : bare1 b) (hB : bareB [a, b] = true) (h0 : d < 40) (hna : nobr a) (hnb : nobr b) :
    Calls Try.prog 3 #[.string a, .string b, .int .u8 (d + 1 : Nat)] w fun e w' => e = .returned (.bool true) ∧ Below w.heap.size w w' := by
  have ha100 := ha.1
  have hb100 := hb.1
  have HC := Lib.hid (two_cells a b w)
  have HZ := Lib.hid (two_small a b (by unfold maxLen; omega) (by unfold maxLen; omega))
  have hbr1 := brB_false.2 hna
  have hbr2 := brB_false.2 hnb
  go_enter Try.func3, Try.ntmps3
  go_wp2_with (first | (go_at_call 8; refine (bare9_any w.heap.size 0 2 2 [a, b] _ rfl (by omega) HC.out HZ.out).mono ?_; rintro e w' ⟨rfl, rfl⟩) | (go_at_call 9; refine (brackets9_any _ _ (by unfold maxLen; omega)).mono ?_; rintro e w' ⟨rfl, rfl⟩))
  go_loop [7, 39] (fun v i => ∃ (k : Nat) (s : ByteArray), k ≤ d ∧ i = .int .u8 k ∧ v = .string s ∧ s.size ≤ 1 + 101 * k ∧ Hid (s = rep lp (a ++ lp) k)) (fun _ i => d - (intOf i).toNat)
  case atStart => exact ⟨0, lp, by omega, rfl, rfl, by decide, Lib.hid rfl⟩
  case round =>
    obtain ⟨k, s, hk, rfl, rfl, hs, HS⟩ := hrel
    by_cases hlt : k < d
    · go_wp2
      go_round
      case rel =>
        refine ⟨k + 1, _, by omega, by go_num, rfl, ?_, Lib.hid ?_⟩
        · rw [ByteArray.size_append', ByteArray.size_append', show (ByteArray.mk #[40]).size = 1 from rfl]; omega
        · rw [HS.out]; rfl
      case measure => simp [intOf]; omega
    · obtain rfl : k = d := by omega
      have hs2 : (s ++ b).size ≤ 101 + 101 * k := by rw [ByteArray.size_append']; omega
      go_wp2
      generalize hsb : s ++ b = sb at hs2
      have HSB := Lib.hid hsb
      clear hsb
      go_loop [7, 50] (fun v i => ∃ (m : Nat) (t : ByteArray), m ≤ k + 1 ∧ i = .int .u8 m ∧ v = .string t ∧ t.size ≤ 101 + 101 * k + 101 * m ∧ Hid (t = rep sb (rp ++ a) m)) (fun _ i => (k + 1) - (intOf i).toNat)
      case atStart => exact ⟨0, sb, by omega, rfl, rfl, by omega, Lib.hid rfl⟩
      case round =>
        obtain ⟨m, t, hm, rfl, rfl, ht, HT⟩ := hrel
        by_cases hlt2 : m < k + 1
        · go_wp2
          go_round
          case rel =>
            refine ⟨m + 1, _, by omega, by go_num, rfl, ?_, Lib.hid ?_⟩
            · rw [ByteArray.size_append', ByteArray.size_append', show (ByteArray.mk #[41]).size = 1 from rfl]; omega
            · rw [HT.out]; rfl
          case measure => simp [intOf]; omega
        · obtain rfl : m = k + 1 := by omega
          have ht2 : t = deepText a b k := by rw [HT.out, ← HSB.out, HS.out]; rfl
          have hfin : ((closing (t ++ rp) : Int) == (t.size : Int) - a.size - 1) = true := by rw [ht2, beq_iff_eq]; exact deep_closing a b k hna hnb
          have HA := Lib.hid (show asc (t ++ rp) from by rw [ht2]; exact asc_deep (asc_bare ha) (asc_bare hb) k)
          have htz : (t ++ rp).size ≤ 1000000000 := by rw [ByteArray.size_append', show rp.size = 1 from rfl]; omega
          have HF := Lib.hid hfin
          clear hfin ht2
          go_wp2_with fail
          refine (closingOf_any (t ++ rp) _ htz (asc_get HA.out)).mono ?_
          rintro e w1 ⟨rfl, hb1⟩
          have hf := HF.out
          go_wp2_with fail
          refine (closingOf_any (lp ++ rp) _ (by decide) (asc_get (asc_app asc_lp asc_rp))).mono ?_
          rintro e w2 ⟨rfl, hb2⟩
          rw [two_closing]
          go_wp2
          go_ret
          refine ⟨rfl, ?_⟩
          exact (((Below.refl _ _).alloc (Nat.le_refl _) _).trans (hb1.mono (by simp))).trans (hb2.mono (by have := hb1.size; simp at this; omega))

theorem closingDeep_any (a b : ByteArray) (d : Int) (w : World) (ha : a.size ≤ maxLen) (hb : b.size ≤ maxLen) (hd : (Lit.int .u8 d).wf = true) :
    Calls Try.prog 3 #[.string a, .string b, .int .u8 d] w fun e w' => e = .returned (.bool true) ∧ Below w.heap.size w w' := by
  by_cases hno : 2147483647 < a.size ∨ 2147483647 < b.size ∨ bareB [a, b] = false ∨ d < 1 ∨ 40 < d ∨ brB a = true ∨ brB b = true
  · exact closingDeep_no a b d w ha hb hd hno
  · simp only [not_or] at hno
    obtain ⟨h1, h2, h3, h4, h5, h6, h7⟩ := hno
    have hB : bareB [a, b] = true := by simpa using h3
    obtain ⟨n, rfl⟩ : ∃ n : Nat, d = (n + 1 : Nat) := ⟨(d - 1).toNat, by omega⟩
    exact closingDeep_yes a b n w (bare_two hB).1 (bare_two hB).2 hB (by omega) (brB_false.1 (by simpa using h6)) (brB_false.1 (by simpa using h7))
end Go.Proofs.Ytdjgknfmehkigaa
