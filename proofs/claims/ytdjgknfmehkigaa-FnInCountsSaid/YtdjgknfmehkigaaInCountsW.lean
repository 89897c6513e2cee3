/- FnInCounts walked: it answers true whatever the list is, and only makes new memory. -/
import Derived.Test.YtdjgknfmehkigaaAppVals
namespace Go.Proofs.Ytdjgknfmehkigaa
open Go.RowKit
set_option linter.unusedVariables false

def marksS (n : Nat) : ByteArray := rep ⟨#[40, 63, 41]⟩ ⟨#[32, 63]⟩ n
theorem marksS_list (n : Nat) : (marksS n).data.toList = 40 :: 63 :: 41 :: Lib.repeatL [32, 63] n := by unfold marksS; rw [rep_list]; rfl
theorem marksS_size (n : Nat) : (marksS n).size = 3 + 2 * n := by
  unfold marksS
  rw [rep_size, show (ByteArray.mk #[40, 63, 41]).size = 3 from rfl, show (ByteArray.mk #[32, 63]).size = 2 from rfl]
  omega
def two (A : Option Addr) : ARec := lrec A 2 2 [z0, z0]
theorem not5 {xs : List VRec} (h : ∀ i, i < xs.length → (xs.getD i z0).right) : ∀ x ∈ xs, x.right := by
  intro x hx
  obtain ⟨i, hi, rfl⟩ := List.getElem_of_mem hx
  have := h i hi
  rwa [List.getD_eq_getElem?_getD, List.getElem?_eq_getElem hi] at this
theorem noempty {A : Option Addr} {xs gs : List VRec} (h : ∀ x ∈ xs, x.right) : ∀ i, i < (two A :: xs.map plain).length → ¬ emptyL ((two A :: xs.map plain).getD i a0) := by
  intro i hi he
  have hm := getD_mem hi
  rcases List.mem_cons.1 hm with e | e
  · rw [e] at he
    cases he.2
  · obtain ⟨x, hx, e⟩ := List.mem_map.1 e
    rw [← e] at he
    have h1 := (h x hx).1
    have h5 : x.k = 5 := he.1
    omega
theorem fine_spec (A : Option Addr) (xs : List VRec) (h : ∀ x ∈ xs, x.right) : inSpec (marksS xs.length).data.toList (two A :: xs.map plain) = some (40 :: 63 :: 44 :: 32 :: 63 :: 41 :: Lib.repeatL [32, 63] xs.length, z0 :: z0 :: xs) := by
  rw [spec_lists (noempty (gs := []) h) (by rfl), marksS_list, ex_none _ _ _ (by decide), ex_cons, ex_none _ _ _ (by decide)]
  have := ex_marks xs [] [] (fun x hx => by have := (h x hx).1; omega)
  rw [List.append_nil, List.append_nil] at this
  rw [this]
  simp [ex, more, vals, two, lrec, Lib.repeatL]
theorem many_spec (A : Option Addr) (xs : List VRec) (h : ∀ x ∈ xs, x.right) : inSpec (marksS xs.length ++ ⟨#[32, 63]⟩).data.toList (two A :: xs.map plain) = none := by
  rw [spec_lists (noempty (gs := []) h) (by rfl), app_list, marksS_list, List.cons_append, List.cons_append, List.cons_append, ex_none _ _ _ (by decide), ex_cons, ex_none _ _ _ (by decide)]
  have := ex_marks xs [32, 63] [] (fun x hx => by have := (h x hx).1; omega)
  rw [List.append_nil] at this
  rw [show (⟨#[32, 63]⟩ : ByteArray).data.toList = [32, 63] from rfl, this, ex_none _ _ _ (by decide), ex_nil]
  rfl
theorem few_spec (A : Option Addr) (xs : List VRec) (h : ∀ x ∈ xs, x.right) : inSpec (marksS xs.length).data.toList (two A :: (xs ++ [z0]).map plain) = none := by
  have h' : ∀ x ∈ xs ++ [z0], x.right := by
    intro x hx
    rcases List.mem_append.1 hx with hx | hx
    · exact h x hx
    · obtain rfl := List.mem_singleton.1 hx
      exact ⟨⟨by decide, by decide⟩, rfl, .inl rfl, .inl rfl, by decide⟩
  rw [spec_lists (noempty (gs := []) h') (by rfl), marksS_list, ex_none _ _ _ (by decide), ex_cons, ex_none _ _ _ (by decide), List.map_append]
  have := ex_marks xs [] ([z0].map plain) (fun x hx => by have := (h x hx).1; omega)
  rw [List.append_nil] at this
  rw [this]
  simp [ex]
theorem bare_spec (q : List UInt8) (xs : List VRec) (h : ∀ x ∈ xs, x.right) : inSpec q (xs.map plain) = some (q, xs) := by
  have hn : (xs.map plain).any isL = false := by
    rw [List.any_eq_false]
    intro a ha
    obtain ⟨x, hx, rfl⟩ := List.mem_map.1 ha
    have := (h x hx).1
    unfold isL
    simp [plain]
    omega
  rw [spec_plain hn, List.map_map]
  have : (ARec.x ∘ plain) = id := rfl
  rw [this, List.map_id]
theorem plains (xs : List VRec) : (xs.map plain).map ARec.x = xs := by
  rw [List.map_map]
  have : (ARec.x ∘ plain) = id := rfl
  rw [this, List.map_id]
theorem start_list (w2 : World) (X2 X3 : Obj) (w4 : World) (hg : (((w2.alloc (.cells (cellsL [z0, z0]).toArray 31)).alloc X2).alloc X3).grownBy w4 (some (w2.heap.size + 1 + 1))) : ListAt w4 (some ⟨w2.heap.size, 0, none⟩) [z0, z0] := by
  refine listAt_below (w := w2.alloc (.cells (cellsL [z0, z0]).toArray 31)) (listAt_lit w2 [z0, z0] _) ?_
  refine (((Below.refl _ _).alloc (Nat.le_refl _) X2).alloc (by simp) X3).grown hg (by simp) (fun g hg => ?_)
  injection hg with hg
  simp
  omega
theorem args_list {w : World} {A : Option Addr} {P : Option Addr} {xs : List VRec} (h : ListAt w A ([(two P).x] ++ xs)) : ListAt w A ((two P :: xs.map plain).map ARec.x) := by
  rw [List.map_cons, plains]
  exact h
theorem args_ok {w : World} {P : Option Addr} {xs : List VRec} (hp : ListAt w P [z0, z0]) (h : ∀ x ∈ xs, x.right) : ∀ a ∈ two P :: xs.map plain, a.ok w := by
  intro a ha
  rcases List.mem_cons.1 ha with rfl | ha
  · exact lrec_ok rfl (by decide) hp (fun i hi => by
      have hi : i < 2 := hi
      have : i = 0 ∨ i = 1 := by omega
      rcases this with rfl | rfl <;> exact ⟨by decide, by decide⟩)
  · obtain ⟨x, hx, rfl⟩ := List.mem_map.1 ha
    exact plain_ok (h x hx)
theorem args_small (P : Option Addr) (xs : List VRec) : ∀ a ∈ two P :: xs.map plain, a.ys.length ≤ 1000000 := by
  intro a ha
  rcases List.mem_cons.1 ha with rfl | ha
  · exact (by decide : 2 ≤ 1000000)
  · obtain ⟨x, hx, rfl⟩ := List.mem_map.1 ha
    exact Nat.zero_le _
theorem back_list (s : ByteArray) : (⟨s.data.toList.toArray⟩ : ByteArray) = s := by simp
theorem listAt_grown {w w' : World} {A : Option Addr} {b : Nat} {xs : List VRec} {row : Option Nat} (h : ListAt w A xs) (hA : A = some ⟨b, 0, none⟩) (hg : w.grownBy w' row) (hne : row ≠ some b) : ListAt w' A xs := by
  rcases h with h | ⟨b', off, h1, h2, h3⟩
  · exact .inl h
  · rw [hA] at h1
    injection h1 with h1
    injection h1 with e1 e2
    subst e1
    refine .inr ⟨b, off, by rw [hA, ← e2], Nat.lt_of_lt_of_le h2 hg.size, fun i hi => ?_⟩
    obtain ⟨k0, k1, k2, k3⟩ := h3 i hi
    exact ⟨hg.cell k0 (fun e => hne e.symm), hg.cell k1 (fun e => hne e.symm), hg.cell k2 (fun e => hne e.symm), hg.cell k3 (fun e => hne e.symm)⟩
theorem plain_small (xs : List VRec) : ∀ a ∈ xs.map plain, a.ys.length ≤ 1000000 := by
  intro a ha
  obtain ⟨x, hx, rfl⟩ := List.mem_map.1 ha
  exact Nat.zero_le _
theorem right_more {xs : List VRec} (h : ∀ x ∈ xs, x.right) : ∀ x ∈ xs ++ [z0], x.right := by
  intro x hx
  rcases List.mem_append.1 hx with hx | hx
  · exact h x hx
  · obtain rfl := List.mem_singleton.1 hx
    exact ⟨⟨by decide, by decide⟩, rfl, .inl rfl, .inl rfl, by decide⟩
set_option maxHeartbeats 2000000 in
set_option maxRecDepth 100000 in
theorem inCounts_any (A : Option Addr) (n c : Nat) (xs : List VRec) (more : Bool) (w : World) (hn : xs.length = n) (hm : n ≤ maxLen) (hA : A = none → c = 0) (hx : ListAt w A xs) :
    Calls Try.prog 5 #[.slice A n c, .bool more] w fun e w' => e = .returned (.bool true) ∧ Below w.heap.size w w' := by
  have HX := Lib.hid hx
  have HN := Lib.hid hn
  have HAc := Lib.hid hA
  unfold maxLen at hm
  clear hx hn hA
  by_cases h3 : (2147483647 : Int) < n
  · go_enter Try.func5, Try.ntmps5
    go_wp2_with fail
    go_ret
    exact ⟨rfl, Below.refl _ _⟩
  go_enter Try.func5, Try.ntmps5
  go_wp2_with fail
  refine (single_any A n c xs _ HN.out (by omega) HX.out).mono ?_
  rintro e w2 ⟨r, rfl, hr, hb2⟩
  have HB2 := Lib.hid hb2
  have HR := Lib.hid hr
  clear hr hb2
  cases r with
  | false =>
    go_wp2
    go_ret
    exact ⟨rfl, HB2.out⟩
  | true =>
  have hr2 := HR.out (by trivial)
  have HR2 := Lib.hid hr2.2
  clear HR hr2
  by_cases h20 : (10 : Int) < n
  · go_wp2
    go_ret
    exact ⟨rfl, HB2.out⟩
  go_wp2_with fail
  go_loop [5, 31] (fun v i => ∃ (k : Nat), k ≤ n ∧ i = .int .i64 k ∧ v = .string (marksS k)) (fun _ i => n - (intOf i).toNat)
  case atStart => exact ⟨0, by omega, rfl, rfl⟩
  case round =>
    obtain ⟨k, hk, rfl, rfl⟩ := hrel
    have hsz := marksS_size k
    by_cases hlt : k < n
    · have hkm : (k : Int) < n := by omega
      go_wp2
      go_round
      case rel => exact ⟨k + 1, by omega, by go_num, rfl⟩
      case measure => simp [intOf]; omega
    · obtain rfl : k = n := by omega
      have hkk := HN.out
      subst hkk
      have HRM := Lib.hid (not5 HR2.out)
      go_wp2_with (at_builtin; refine Hid.out ?_)
      refine Lib.hid ?_
      have ho1 := own_lit ((w2.alloc (.cells (cellsL [z0, z0]).toArray 31)).alloc (.cells (cellsL [(two (some ⟨w2.heap.size, 0, none⟩)).x]).toArray 31)) (w2.heap.size + 1) [(two (some ⟨w2.heap.size, 0, none⟩)).x] 1 rfl (by simp) (by decide)
      rw [World.size_alloc, World.size_alloc] at ho1
      have hbw : Below w.heap.size w (((w2.alloc (.cells (cellsL [z0, z0]).toArray 31)).alloc (.cells (cellsL [(two (some ⟨w2.heap.size, 0, none⟩)).x]).toArray 31)).alloc (.cells (cellsL [(two (some ⟨w2.heap.size, 0, none⟩)).x]).toArray 31)) := ((HB2.out.alloc HB2.out.size _).alloc (by have := HB2.out.size; simp; omega) _).alloc (by have := HB2.out.size; simp; omega) _
      refine app_vals rfl _ _ rfl (w2.heap.size + 1) _ 1 [(two (some ⟨w2.heap.size, 0, none⟩)).x] rfl ho1 A xs.length c rfl xs rfl HAc.out (listAt_below HX.out hbw) (by omega) (by simp) ?_
      intro v1 w4 hown4 hg4
      have HT4 := Lib.hid (start_list w2 _ _ w4 hg4)
      have HB4 := Lib.hid (hbw.grown hg4 hbw.size (fun g hg => by have := (ho1.lt g hg).1; have := HB2.out.size; omega))
      have HO4 := Lib.hid hown4
      obtain ⟨A1, c1, rfl, hl4⟩ := listAt_own hown4 (by simp; omega)
      have HL4 := Lib.hid hl4
      generalize hP : (some ⟨w2.heap.size, 0, none⟩ : Option Addr) = P at HT4 HO4 HL4
      have HP := Lib.hid hP.symm
      have hs52 := HB4.out.size
      have HZ4 := Lib.hid (show w2.heap.size + 1 ≤ w4.heap.size from by have := hg4.size; simp at this; first | done | omega)
      clear ho1 hbw hown4 hg4 hl4 hP hs52
      go_wp2_with fail
      refine (expanded_any (marksS xs.length) A1 (1 + xs.length) c1 (two P :: xs.map plain) _ (by simp; omega) (by omega) (args_list HL4.out) (args_ok HT4.out HRM.out) (args_small _ _) (by rw [marksS_size]; omega) (fun t vs h => ?_)).mono ?_
      · rw [fine_spec P xs HRM.out] at h
        injection h with h
        obtain ⟨_, rfl⟩ := Prod.mk.inj h
        simp; omega
      rintro e w5 he
      obtain ⟨v5, rfl, _, hb5⟩ := exp_some (fine_spec P xs HRM.out) he
      have HB5 := Lib.hid (HB4.out.trans (hb5.mono HB4.out.size))
      have HO5 := Lib.hid (HO4.out.kept (grown_none hb5) (none_or _))
      have HT5 := Lib.hid (listAt_below HT4.out hb5)
      have HL5 := Lib.hid (listAt_below HL4.out hb5)
      have HZ5 := Lib.hid (Nat.le_trans HZ4.out hb5.size)
      clear hb5 he HO4 HT4 HL4 HZ4
      cases more with
      | false =>
        go_wp2_with fail
        refine (expanded_any (marksS xs.length ++ (⟨#[32, 63]⟩ : ByteArray)) A1 (1 + xs.length) c1 (two P :: xs.map plain) _ (by simp; omega) (by omega) (args_list HL5.out) (args_ok HT5.out HRM.out) (args_small _ _) (by rw [ByteArray.size_append', marksS_size, show (ByteArray.mk #[32, 63]).size = 2 from rfl]; omega) (fun t vs h => by rw [many_spec P xs HRM.out] at h; cases h)).mono ?_
        rintro e w6 he
        obtain ⟨rfl, hb6⟩ := exp_none (many_spec P xs HRM.out) he
        have HB6 := Lib.hid (HB5.out.trans (hb6.mono HB5.out.size))
        clear hb6 he
        go_wp2_with fail
        refine (expanded_any (marksS xs.length ++ (⟨#[32, 63]⟩ : ByteArray)) A xs.length c (xs.map plain) _ (by simp) (by omega) (by rw [plains]; exact listAt_below HX.out HB6.out) (fun a ha => ?_) (plain_small _) (by rw [ByteArray.size_append', marksS_size, show (ByteArray.mk #[32, 63]).size = 2 from rfl]; omega) (fun t vs h => ?_)).mono ?_
        · obtain ⟨x, hx, rfl⟩ := List.mem_map.1 ha
          exact plain_ok (HRM.out x hx)
        · rw [bare_spec _ xs HRM.out] at h
          injection h with h
          obtain ⟨_, rfl⟩ := Prod.mk.inj h
          omega
        rintro e w7 he
        obtain ⟨v7, rfl, hown7, hb7⟩ := exp_some (bare_spec _ xs HRM.out) he
        rw [show (⟨(marksS xs.length ++ (⟨#[32, 63]⟩ : ByteArray)).data.toList.toArray⟩ : ByteArray) = (marksS xs.length ++ (⟨#[32, 63]⟩ : ByteArray)) from back_list _]
        have HB7 := Lib.hid (HB6.out.trans (hb7.mono HB6.out.size))
        have HO7 := Lib.hid hown7
        clear hb7 he hown7
        go_wp2_with fail
        refine (equal_backs _ v7 A xs.length c xs _ rfl (by omega) HO7.out (listAt_below HX.out HB7.out) HR2.out).mono ?_
        rintro e w8 ⟨rfl, hb8⟩
        have HB8 := Lib.hid (HB7.out.trans (hb8.mono HB7.out.size))
        clear hb8
        go_wp2
        go_ret
        exact ⟨rfl, HB8.out⟩
      | true =>
        go_wp2_with (at_builtin; refine Hid.out ?_)
        refine Lib.hid ?_
        refine app_vals rfl _ _ rfl (w2.heap.size + 1) _ (1 + xs.length) ([(two P).x] ++ xs) rfl (HO5.out.alloc _) (some ⟨w5.heap.size, 0, none⟩) 1 1 rfl [z0] rfl (fun h => by cases h) (listAt_lit w5 [z0] _) (by omega) (by have := HZ5.out; simp; omega) ?_
        intro v6 w6 hown6 hg6
        have HB6' := Lib.hid ((HB5.out.alloc HB5.out.size (.cells (cellsL [z0]).toArray 31)).grown hg6 (by have := HB5.out.size; simp; omega) (fun g hg => by have := (HO5.out.lt g hg).1; have := HB2.out.size; omega))
        have HT6 : Hid (ListAt w6 P [z0, z0]) := Lib.hid (listAt_grown (listAt_below HT5.out ((Below.refl _ _).alloc (Nat.le_refl _) (.cells (cellsL [z0]).toArray 31))) HP.out hg6 (fun e => by have := (HO5.out.lt _ e).1; omega))
        obtain ⟨A6, c6, rfl, hl6⟩ := listAt_own hown6 (by simp; omega)
        rw [List.append_assoc] at hl6
        have HL6 := Lib.hid hl6
        clear hown6 hg6 hl6
        go_wp2_with fail
        refine (expanded_any (marksS xs.length) A6 (1 + xs.length + 1) c6 (two P :: (xs ++ [z0]).map plain) _ (by simp; omega) (by omega) (args_list HL6.out) (args_ok HT6.out (right_more HRM.out)) (args_small _ _) (by rw [marksS_size]; omega) (fun t vs h => by rw [few_spec P xs HRM.out] at h; cases h)).mono ?_
        rintro e w7 he
        obtain ⟨rfl, hb6⟩ := exp_none (few_spec P xs HRM.out) he
        have HB6 := Lib.hid (HB6'.out.trans (hb6.mono HB6'.out.size))
        clear hb6 he
        go_wp2_with fail
        refine (expanded_any (marksS xs.length) A xs.length c (xs.map plain) _ (by simp) (by omega) (by rw [plains]; exact listAt_below HX.out HB6.out) (fun a ha => ?_) (plain_small _) (by rw [marksS_size]; omega) (fun t vs h => ?_)).mono ?_
        · obtain ⟨x, hx, rfl⟩ := List.mem_map.1 ha
          exact plain_ok (HRM.out x hx)
        · rw [bare_spec _ xs HRM.out] at h
          injection h with h
          obtain ⟨_, rfl⟩ := Prod.mk.inj h
          omega
        rintro e w7 he
        obtain ⟨v7, rfl, hown7, hb7⟩ := exp_some (bare_spec _ xs HRM.out) he
        rw [show (⟨((marksS xs.length) : ByteArray).data.toList.toArray⟩ : ByteArray) = (marksS xs.length) from back_list _]
        have HB7 := Lib.hid (HB6.out.trans (hb7.mono HB6.out.size))
        have HO7 := Lib.hid hown7
        clear hb7 he hown7
        go_wp2_with fail
        refine (equal_backs _ v7 A xs.length c xs _ rfl (by omega) HO7.out (listAt_below HX.out HB7.out) HR2.out).mono ?_
        rintro e w8 ⟨rfl, hb8⟩
        have HB8 := Lib.hid (HB7.out.trans (hb8.mono HB7.out.size))
        clear hb8
        go_wp2
        go_ret
        exact ⟨rfl, HB8.out⟩
end Go.Proofs.Ytdjgknfmehkigaa
