/- What Rebind makes of texts with question marks between; zzFits2, bare9 and Rebound of such. -/
import Derived.Test.YtdjgknfmehkigaaDoorReb
import Derived.Test.YtdjgknfmehkigaaDoorBare
import Derived.Test.YtdjgknfmehkigaaDoorBet
namespace Go.Proofs.YtdjgknfmehkigaaDoor
open Go.RowKit
set_option linter.unusedVariables false

theorem free63 {a : ByteArray} (h : bare1 a) : ∀ c ∈ a.data.toList, (c.toNat : Int) ≠ 63 := by
  intro c hc
  obtain ⟨i, hi, rfl⟩ := List.getElem_of_mem hc
  rw [size_list] at hi
  have := (okc_iff.1 (h.2 i hi)).2.2.1
  rw [bt_get a i hi] at this
  exact this
theorem bet_list (f : Nat → ByteArray) (ss : List ByteArray) (k : Nat) (h : k ≠ 0) : (betS f ss (k + 1)).data.toList = (betS f ss k).data.toList ++ ((f k).data.toList ++ (ss.getD k ByteArray.empty).data.toList) := by
  rw [betS_succ f ss k h, app_list, app_list, List.append_assoc]
theorem reb_bet (sg : ByteArray) (ss : List ByteArray) : ∀ k, (∀ i, i < k → bare1 (ss.getD i ByteArray.empty)) → ∀ r, rebL sg.data.toList ((betS qf ss k).data.toList ++ r) 0 = (betS (sf sg) ss k).data.toList ++ rebL sg.data.toList r (k - 1)
  | 0, _, r => rfl
  | k + 1, h, r => by
    have hk := free63 (h k (by omega))
    by_cases h0 : k = 0
    · subst h0
      show rebL _ (([] ++ (ss.getD 0 ByteArray.empty).data.toList : List UInt8) ++ r) 0 = _
      have e1 : (betS qf ss (0 + 1)).data.toList = (ss.getD 0 ByteArray.empty).data.toList := by rw [betS_one, app_list]; rfl
      have e2 : (betS (sf sg) ss (0 + 1)).data.toList = (ss.getD 0 ByteArray.empty).data.toList := by rw [betS_one, app_list]; rfl
      rw [e2, List.nil_append, rebL_skip _ _ hk]
    · have ih := reb_bet sg ss k (fun i hi => h i (by omega))
      rw [bet_list qf ss k h0, bet_list (sf sg) ss k h0]
      have e1 : (qf k).data.toList = [63] := rfl
      have e2 : (sf sg k).data.toList = sg.data.toList ++ Lib.decDigits k := by unfold sf; rw [app_list]
      have e3 : (betS qf ss k).data.toList ++ ([63] ++ (ss.getD k ByteArray.empty).data.toList) ++ r = (betS qf ss k).data.toList ++ (63 :: ((ss.getD k ByteArray.empty).data.toList ++ r)) := by simp
      rw [e1, e2, e3, ih, rebL_mark, rebL_skip _ _ hk, show k - 1 + 1 = k from by omega]
      simp [List.append_assoc]
theorem cnt_bet (ss : List ByteArray) : ∀ k, (∀ i, i < k → bare1 (ss.getD i ByteArray.empty)) → ∀ r, cntQ ((betS qf ss k).data.toList ++ r) = cntQ r + (k - 1)
  | 0, _, r => rfl
  | k + 1, h, r => by
    have hk := free63 (h k (by omega))
    by_cases h0 : k = 0
    · subst h0
      have e1 : (betS qf ss (0 + 1)).data.toList = (ss.getD 0 ByteArray.empty).data.toList := by rw [betS_one, app_list]; rfl
      rw [e1, cntQ_skip _ hk]
      rfl
    · have ih := cnt_bet ss k (fun i hi => h i (by omega))
      have e3 : (betS qf ss k).data.toList ++ ([63] ++ (ss.getD k ByteArray.empty).data.toList) ++ r = (betS qf ss k).data.toList ++ (63 :: ((ss.getD k ByteArray.empty).data.toList ++ r)) := by simp
      rw [bet_list qf ss k h0, show (qf k).data.toList = [63] from rfl, e3, ih, cntQ_mark, cntQ_skip _ hk]
      omega
theorem bet_size (f : Nat → ByteArray) (ss : List ByteArray) (hf : ∀ k, k < 100 → (f k).size ≤ 12) : ∀ k, k ≤ 20 → (∀ i, i < k → (ss.getD i ByteArray.empty).size ≤ 100) → (betS f ss k).size ≤ 120 * k
  | 0, _, _ => (by decide : (0 : Nat) ≤ 0)
  | k + 1, hk, h => by
    have ih := bet_size f ss hf k (by omega) (fun i hi => h i (by omega))
    have h1 := h k (by omega)
    have h2 := hf k (by omega)
    by_cases h0 : k = 0
    · rw [betS, if_pos h0, ByteArray.size_append']
      omega
    · rw [betS_succ f ss k h0, ByteArray.size_append', ByteArray.size_append']
      omega
theorem rebound_any (q : ByteArray) (k : Int) (sg : List UInt8) (w : World) (hk : (k = 2 ∧ sg = [36]) ∨ (k = 3 ∧ sg = [58, 97, 114, 103]) ∨ (k = 4 ∧ sg = [64, 112])) (hq : q.size ≤ 100000) (hc : cntQ q.data.toList ≤ 99) :
    Calls Tryd.prog 12 #[.int .i64 k, .string q] w fun e w' => e = .returned (.string ⟨(rebL sg q.data.toList 0).toArray⟩) ∧ Below w.heap.size w w' := by
  go_enter Tryd.func12, Tryd.ntmps12
  go_wp2_with fail
  refine (reb_any q k sg _ hk hq hc).mono ?_
  rintro e w' ⟨rfl, hb⟩
  go_wp2
  go_ret
  exact ⟨rfl, hb⟩
/-- Texts between which question marks stand, rebound. -/
theorem rebound_bet (ss : List ByteArray) (n : Nat) (k : Int) (sg : ByteArray) (w : World) (hk : (k = 2 ∧ sg.data.toList = [36]) ∨ (k = 3 ∧ sg.data.toList = [58, 97, 114, 103]) ∨ (k = 4 ∧ sg.data.toList = [64, 112])) (hn : n ≤ 20) (hb : ∀ i, i < n → bare1 (ss.getD i ByteArray.empty)) :
    Calls Tryd.prog 12 #[.int .i64 k, .string (betS qf ss n)] w fun e w' => e = .returned (.string (betS (sf sg) ss n)) ∧ Below w.heap.size w w' := by
  have h1 := reb_bet sg ss n hb []
  have h2 := cnt_bet ss n hb []
  rw [List.append_nil] at h1 h2
  have h3 := bet_size qf ss (fun _ _ => (by decide : 1 ≤ 12)) n hn (fun i hi => (hb i hi).1)
  refine (rebound_any (betS qf ss n) k sg.data.toList w hk (by omega) (by rw [h2]; simp [cntQ]; omega)).mono ?_
  rintro e w' ⟨rfl, hb⟩
  refine ⟨ret_string1 ?_, hb⟩
  apply ext_list
  show rebL _ _ _ = _
  rw [h1]
  simp [rebL]
theorem strsAt_below {w w' : World} {A : Option Addr} {ss : List ByteArray} (h : StrsAt w A ss) (hb : Below w.heap.size w w') : StrsAt w' A ss := by
  rcases h with rfl | ⟨b, off, rfl, h1, h2⟩
  · exact .inl rfl
  · exact .inr ⟨b, off, rfl, Nat.lt_of_lt_of_le h1 hb.size, fun i hi => (hb.cell (p := ⟨b, off + i, none⟩) h1).trans (h2 i hi)⟩
theorem bare_at (A : Option Addr) (n c : Nat) (ss : List ByteArray) (w : World) (hn : ss.length = n) (hm : n ≤ maxLen) (hx : StrsAt w A ss) (hz : ∀ i, i < n → (ss.getD i ByteArray.empty).size ≤ maxLen) :
    Calls Tryd.prog 11 #[.slice A n c] w fun e w' => e = .returned (.bool (bareB ss)) ∧ w = w' := by
  rcases hx with rfl | ⟨b, off, rfl, h1, h2⟩
  · obtain rfl : n = 0 := hn.symm
    refine (bare9_nil A c w).mono ?_
    rintro e w' ⟨rfl, rfl⟩
    refine ⟨?_, rfl⟩
    rw [bareB_true]
    · intro i hi; simp at hi
    · simp
  · exact bare9_any b off n c ss w hn (by unfold maxLen at hm; exact hm) (fun i hi => h2 i (by rw [hn]; exact hi)) hz
def FitsOk (n : Nat) (w : World) (e : Ending) (w' : World) : Prop := ∃ r : Bool, e = .returned (.bool r) ∧ (r = true → n ≤ 2147483647) ∧ w = w'
set_option maxHeartbeats 1000000 in
theorem fits2_any (A : Option Addr) (n c : Nat) (ss : List ByteArray) (w : World) (hn : ss.length = n) (hm : n ≤ maxLen) (hx : StrsAt w A ss) :
    Calls Tryd.prog 10 #[.slice A n c] w (FitsOk n w) := by
  unfold maxLen at hm
  have HX := Lib.hid hx
  have HN := Lib.hid hn
  clear hx hn
  by_cases h3 : (2147483647 : Int) < n
  · go_enter Tryd.func10, Tryd.ntmps10
    go_wp2_with fail
    go_ret
    exact ⟨false, rfl, (fun h => by cases h), rfl⟩
  go_enter Tryd.func10, Tryd.ntmps10
  go_wp2_with fail
  go_loop [10] (fun i => ∃ (k : Nat), k ≤ n ∧ i = .int .i64 k) (fun i => n - (intOf i).toNat)
  case atStart => exact ⟨0, by omega, rfl⟩
  case round =>
    obtain ⟨k, hk, rfl⟩ := hrel
    have h0 : (0 : Int) ≤ k := by omega
    by_cases hlt : k < n
    · have hkn : (k : Int) < n := by omega
      have hne : ss ≠ [] := fun e => by have := HN.out; rw [e] at this; simp at this; omega
      obtain ⟨b, off, rfl, hb, hl⟩ := HX.out.resolve_left hne
      have hcell := hl k (by rw [HN.out]; exact hlt)
      generalize ss.getD k ByteArray.empty = x at hcell
      clear hb hl hne
      by_cases hx : (2147483647 : Int) < x.size
      · go_wp2_with fail
        go_ret
        exact ⟨false, rfl, (fun h => by cases h), rfl⟩
      · go_wp2_with fail
        go_round
        case rel => exact ⟨k + 1, by omega, by go_num⟩
        case measure => simp [intOf]; omega
    · obtain rfl : k = n := by omega
      go_wp2_with fail
      go_ret
      exact ⟨true, rfl, (fun _ => by omega), rfl⟩
end Go.Proofs.YtdjgknfmehkigaaDoor
