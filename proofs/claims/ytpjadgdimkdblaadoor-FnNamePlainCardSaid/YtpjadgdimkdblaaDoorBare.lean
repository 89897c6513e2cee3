/- What bare9 and brackets9 answer: whether the texts are bare, whether a text has a bracket. Walks; every world, every text. -/
import Derived.Test.YtpjadgdimkdblaaDoorProg
import Derived.Test.YtpjadgdimkdblaaDoorWords
namespace Go.Proofs.YtpjadgdimkdblaaDoor
open Go.RowKit
set_option linter.unusedVariables false

/-- A byte that a bare text may hold. -/
def okc (c : Int) : Bool := !(decide (c < 32)) && (!(decide (c > 126)) && (!(c == 63) && (!(c == 58) && (!(c == 36) && !(c == 64)))))
theorem okc_bad {x : Int} (h : x < 32 ∨ 126 < x ∨ x = 63 ∨ x = 58 ∨ x = 36 ∨ x = 64) : okc x = false := by
  unfold okc
  rcases h with h | h | h | h | h | h <;> simp [h]
theorem okc_good {x : Int} (h : 32 ≤ x ∧ x ≤ 126 ∧ x ≠ 63 ∧ x ≠ 58 ∧ x ≠ 36 ∧ x ≠ 64) : okc x = true := by
  unfold okc
  simp
  omega
theorem okc_iff {x : Int} : okc x = true ↔ 32 ≤ x ∧ x ≤ 126 ∧ x ≠ 63 ∧ x ≠ 58 ∧ x ≠ 36 ∧ x ≠ 64 := by
  unfold okc
  simp
def bt (s : ByteArray) (i : Nat) : Int := ((s.data.toList.getD i 0).toNat : Int)
def bare1 (s : ByteArray) : Prop := s.size ≤ 100 ∧ ∀ i, i < s.size → okc (bt s i) = true
def bareP (ss : List ByteArray) : Prop := ∀ i, i < ss.length → bare1 (ss.getD i ByteArray.empty)

open Classical in
/-- Whether bare9 says yes. -/
noncomputable def bareB (ss : List ByteArray) : Bool := decide (bareP ss ∧ ss.length ≤ 20)
theorem bareB_true {ss : List ByteArray} (h : bareP ss) (hl : ss.length ≤ 20) : bareB ss = true := by unfold bareB; simp [h, hl]
theorem bareB_false {ss : List ByteArray} (h : ¬ (bareP ss ∧ ss.length ≤ 20)) : bareB ss = false := by unfold bareB; simp only [decide_eq_false_iff_not]; exact h
theorem bareB_iff {ss : List ByteArray} : bareB ss = true ↔ bareP ss ∧ ss.length ≤ 20 := by unfold bareB; simp
theorem bt_get (s : ByteArray) (i : Nat) (h : i < s.size) : bt s i = ((s[i]'h).toNat : Int) := by
  unfold bt
  have h' : i < s.data.toList.length := by simpa using h
  rw [List.getD_eq_getElem?_getD, List.getElem?_eq_getElem h']
  rfl
set_option maxHeartbeats 1000000 in
theorem bare9_nil (A : Option Addr) (c : Nat) (w : World) :
    Calls Tryd.prog 13 #[.slice A 0 c] w fun e w' => e = .returned (.bool true) ∧ w = w' := by
  go_enter Tryd.func13, Tryd.ntmps13
  go_wp2
  go_loop [8] (fun i => i = .int .i64 0) (fun _ => 0)
  case atStart => rfl
  case round =>
    subst hrel
    go_wp2
    go_ret
    exact ⟨rfl, rfl⟩
set_option maxHeartbeats 4000000 in
set_option maxRecDepth 100000 in
theorem bare9_any (b off n c : Nat) (ss : List ByteArray) (w : World) (hn : ss.length = n) (hm : n ≤ 9223372036854775807)
    (hss : ∀ i, i < n → w.cell? ⟨b, off + i, none⟩ = some (.string (ss.getD i ByteArray.empty))) (hz : ∀ i, i < n → (ss.getD i ByteArray.empty).size ≤ maxLen) :
    Calls Tryd.prog 13 #[.slice (some ⟨b, off, none⟩) n c] w fun e w' => e = .returned (.bool (bareB ss)) ∧ w = w' := by
  unfold maxLen at hz
  have HN := Lib.hid hn
  clear hn
  go_enter Tryd.func13, Tryd.ntmps13
  go_wp2
  go_loop [8] (fun i => ∃ k : Nat, k ≤ n ∧ i = .int .i64 k ∧ ∀ j, j < k → bare1 (ss.getD j ByteArray.empty)) (fun i => n - (intOf i).toNat)
  case atStart => exact ⟨0, Nat.zero_le _, rfl, fun j h => by omega⟩
  case round =>
    obtain ⟨k, hk, rfl, hb⟩ := hrel
    have HB := Lib.hid hb
    clear hb
    by_cases hlt : k < n
    · have hc := hss k hlt
      have hz1 := hz k hlt
      have hzz : (0 : Int) ≤ k := by omega
      have hkn : (k : Int) < n := by omega
      generalize hsk : ss.getD k ByteArray.empty = s at hc hz1
      have HS := Lib.hid hsk
      clear hsk hss hz
      by_cases hsz : (100 : Int) < s.size
      · go_wp2
        go_ret
        refine ⟨ret_bool (bareB_false ?_).symm, rfl⟩
        intro ⟨h, _⟩
        have := h k (by rw [HN.out]; exact hlt)
        rw [HS.out] at this
        have := this.1
        omega
      · go_wp2
        go_loop [22] (fun i => ∃ m : Nat, m ≤ s.size ∧ i = .int .i64 m ∧ ∀ j, j < m → okc (bt s j) = true) (fun i => s.size - (intOf i).toNat)
        case atStart => exact ⟨0, Nat.zero_le _, rfl, fun j h => by omega⟩
        case round =>
          obtain ⟨m, hm2, rfl, hb⟩ := hrel
          have HB2 := Lib.hid hb
          clear hb
          by_cases hmt : m < s.size
          · have hg := bt_get s m hmt
            have hmm : (0 : Int) ≤ m := by omega
            have hmn : (m : Int) < s.size := by omega
            have HG := Lib.hid hg
            clear hg
            go_wp2
            case roundEnd =>
              go_round
              case rel =>
                refine ⟨m + 1, by omega, by go_num, fun j hj => ?_⟩
                by_cases hjk : j = m
                · subst hjk
                  rw [HG.out]
                  exact okc_good (by simp only [beq_eq_false_iff_ne, ne_eq] at *; omega)
                · exact HB2.out j (by omega)
              case measure => simp [intOf]; omega
            all_goals
              go_ret
              refine ⟨ret_bool (bareB_false ?_).symm, rfl⟩
              intro ⟨h, _⟩
              have h := (h k (by rw [HN.out]; exact hlt)).2
              rw [HS.out] at h
              have h := okc_iff.1 ((HG.out) ▸ h m hmt)
              first | omega | (simp only [beq_iff_eq] at *; omega)
          · go_wp2
            go_round
            case rel =>
              refine ⟨k + 1, by omega, by go_num, fun j hj => ?_⟩
              by_cases hjk : j = k
              · subst hjk
                rw [HS.out]
                refine ⟨by omega, fun i hi => HB2.out i (by omega)⟩
              · exact HB.out j (by omega)
            case measure => simp [intOf]; omega
    · go_wp2
      go_ret
      refine ⟨ret_bool ?_, rfl⟩
      have hb := HB.out
      have hn := HN.out
      by_cases h20 : n ≤ 20
      · rw [bareB_true (fun i hi => hb i (by omega)) (by omega)]
        simp only [decide_eq_true_eq]
        omega
      · rw [bareB_false (fun h => by omega)]
        simp only [decide_eq_false_iff_not]
        omega


theorem asc_bare {s : ByteArray} (h : bare1 s) : asc s := by
  intro c hc
  obtain ⟨i, hi, rfl⟩ := List.getElem_of_mem hc
  have := h.2 i (by simpa using hi)
  unfold bt at this
  rw [List.getD_eq_getElem?_getD, List.getElem?_eq_getElem hi] at this
  have := okc_iff.1 this
  simp only [Option.getD_some] at this
  omega
end Go.Proofs.YtpjadgdimkdblaaDoor
