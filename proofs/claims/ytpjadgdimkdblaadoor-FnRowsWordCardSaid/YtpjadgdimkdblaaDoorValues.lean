/- What valueOf and valuesOf answer of what goOf handed on of values that are no lists. Walks; every world. -/
import Derived.Test.YtpjadgdimkdblaaDoorArgs
import Derived.Test.YtpjadgdimkdblaaDoorTa
namespace Go.Proofs.YtpjadgdimkdblaaDoor
open Go.RowKit
set_option linter.unusedVariables false

set_option maxHeartbeats 2000000 in
theorem valueOf_flat (x : VRec) (w : World) (h0 : 0 ≤ x.k) (h4 : x.k ≤ 4) :
    Calls Tryd.prog 46 #[x.fl] w fun e w' => e = .returned (.agg #[.int .i64 x.back.k, .int .i64 x.back.n, .string x.back.t, .slice none 0 0]) ∧ Below w.heap.size w w' := by
  obtain ⟨k, n, t, A, m, c⟩ := x
  simp only at h0 h4
  have h : k = 0 ∨ k = 1 ∨ k = 2 ∨ k = 3 ∨ k = 4 := by omega
  rcases h with rfl | rfl | rfl | rfl | rfl
  all_goals
    unfold VRec.fl ifaceOf VRec.back
    simp only []
    have t1 := ta_ii
    have t2 := ta_si
    have t3 := ta_ss
    have t4 := ta_bi
    have t5 := ta_bs
    have t6 := ta_bb
    go_enter Tryd.func46, Tryd.ntmps46
    go_wp2_with fail
    exact bodyPost_ret (v := .agg #[_, _, _, _]) (by first | (simp [results, Tryd.results46, go_sem]; done) | (simp [results, Tryd.results46, go_sem]; rfl)) rfl ⟨rfl, ((Below.refl _ _).alloc (Nat.le_refl _) _)⟩

def ValuesOk (xs : List VRec) (w : World) (e : Ending) (w' : World) : Prop :=
  ∃ v, e = .returned v ∧ w'.ownsRow w.heap.size 34 4 v xs.length (backs xs) ∧ Below w.heap.size w w'
def ValuesSo (xs : List VRec) (w : World) (k : Nat) (v : Value) (wr : World) : Prop :=
  wr.ownsRow w.heap.size 34 4 v k (backs (xs.take k)) ∧ Below w.heap.size w wr
set_option maxHeartbeats 2000000 in
set_option maxRecDepth 100000 in
theorem valuesOf_flat (A : Option Addr) (n c : Nat) (xs : List VRec) (w : World) (hn : xs.length = n) (hm : n ≤ 1000000)
    (hx : ∀ i, i < n → ∃ b, A = some ⟨b, 0, none⟩ ∧ b < w.heap.size ∧ w.cell? ⟨b, i, none⟩ = some (xs.getD i z0).fl) (hk : ∀ i, i < n → 0 ≤ (xs.getD i z0).k ∧ (xs.getD i z0).k ≤ 4) :
    Calls Tryd.prog 39 #[.slice A n c] w (ValuesOk xs w) := by
  obtain ⟨i0, hi0, hz0, hz1, hz2⟩ := info_parts Tryd.infoValue
  have HX := Lib.hid hx
  have HK := Lib.hid hk
  have HN := Lib.hid hn
  clear hx hk hn
  go_enter Tryd.func39, Tryd.ntmps39
  go_wp2
  go_loopw [3, 8] (fun v i wr => ∃ k : Nat, k ≤ n ∧ i = .int .i64 k ∧ Hid (ValuesSo xs w k v wr)) (fun _ i _ => n - (intOf i).toNat)
  case atStart => exact ⟨0, Nat.zero_le _, rfl, Lib.hid ⟨World.ownsRow_nil _ _ _ _, Below.refl _ _⟩⟩
  case round =>
    obtain ⟨k, hk, rfl, HS⟩ := hrel
    have h0 : (0 : Int) ≤ k := by omega
    by_cases hlt : k < n
    · have hkn : (k : Int) < n := by omega
      obtain ⟨b, rfl, hb, hc⟩ := HX.out k hlt
      have hcell := (HS.out.2.cell (p := ⟨b, k, none⟩) hb).trans hc
      have h04 := HK.out k hlt
      generalize hxx : xs.getD k z0 = x at hcell h04
      have HXX := Lib.hid hxx
      have H04 := Lib.hid h04
      clear hxx hc h04
      go_wp2_with fail
      refine (valueOf_flat x _ H04.out.1 H04.out.2).mono ?_
      rintro e w1 ⟨rfl, hb1⟩
      have hsz0 := HS.out.2.size
      have hsz := hb1.size
      have HB1 := Lib.hid hb1
      have HO1 := Lib.hid (HS.out.1.kept (grown_none hb1) (none_or _))
      clear hb1 hcell
      generalize hyy : x.back = y
      have HYY := Lib.hid hyy
      clear hyy
      have HC1 := Lib.hid (show ∀ z ∈ [Value.int .i64 y.k, Value.int .i64 y.n, Value.string y.t, Value.slice none 0 0], z.oneCell' = true from fun z hz => by
        simp at hz
        rcases hz with rfl | rfl | rfl | rfl <;> rfl)
      go_wp2_with (at_builtin; go_must (refine wpList_append_own_at _ rfl _ _ 32 rfl w.heap.size 34 i0 _ 4 56 Tryd.underlying32 hi0 hz0 hz1 hz2 rfl (by decide) _ k (backs (xs.take k)) rfl (HO1.out.alloc _) ⟨w1.heap.size, 0, none⟩ 1 1 [.int .i64 y.k, .int .i64 y.n, .string y.t, .slice none 0 0] rfl rfl (cells_new _ [_, _, _, _] _) HC1.out (by unfold maxLen; omega) (by omega) (by simp; omega) ?_); intro v2 w2 hown2 hg2 _ hat2; refine Hid.out ?_)
      refine Lib.hid ?_
      have HS2 : Hid (ValuesSo xs w (k + 1) v2 w2) := by
        refine Lib.hid ⟨?_, ?_⟩
        · rw [List.take_add_one, List.getElem?_eq_getElem (by rw [HN.out]; exact hlt)]
          have e : xs[k]'(by rw [HN.out]; exact hlt) = x := by
            rw [← HXX.out, List.getD_eq_getElem?_getD, List.getElem?_eq_getElem (by rw [HN.out]; exact hlt)]
            rfl
          rw [e]
          unfold backs at hown2 ⊢
          rw [List.map_append, List.flatten_append]
          simp only [Option.toList, List.map_cons, List.map_nil, List.flatten_cons, List.flatten_nil, List.append_nil]
          have ey : y.cells = [.int .i64 y.k, .int .i64 y.n, .string y.t, .slice none 0 0] := by rw [← HYY.out]; rfl
          rw [HYY.out, ey]
          exact hown2
        · exact ((HS.out.2.trans (HB1.out.mono hsz0)).alloc (by omega) _).grown hg2 (by simp; omega) (fun k hk => (HO1.out.lt k hk).1)
      clear hown2 hg2 hat2
      go_wp2
      go_roundw
      case rel => exact ⟨k + 1, by omega, by go_num, HS2⟩
      case measure => simp [intOf]; omega
    · obtain rfl : k = n := by omega
      go_wp2
      go_ret
      obtain ⟨q1, q2⟩ := HS.out
      rw [List.take_of_length_le (by rw [HN.out]; omega)] at q1
      exact ⟨_, rfl, HN.out ▸ q1, q2⟩
end Go.Proofs.YtpjadgdimkdblaaDoor
