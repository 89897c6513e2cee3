/- FnInOne walked: it answers true whatever the texts and the list are, and only makes new memory. -/
import Derived.Test.YtdjgknfmehkigaaLists
namespace Go.Proofs.Ytdjgknfmehkigaa
open Go.RowKit
set_option linter.unusedVariables false

theorem two_cells1 (a b : ByteArray) (w : World) : ∀ i, i < 2 → (w.alloc (.cells #[.string a, .string b] 9)).cell? ⟨w.heap.size, 0 + i, none⟩ = some (.string ([a, b].getD i ByteArray.empty)) := by
  intro i hi
  rw [cell_of_row _ _ _ _ _ _ (heap_alloc_new w _)]
  have h : i = 0 ∨ i = 1 := by omega
  rcases h with rfl | rfl <;> rfl
theorem two_small1 (a b : ByteArray) (ha : a.size ≤ maxLen) (hb : b.size ≤ maxLen) : ∀ i, i < 2 → ([a, b].getD i ByteArray.empty).size ≤ maxLen := by
  intro i hi
  have h : i = 0 ∨ i = 1 := by omega
  rcases h with rfl | rfl <;> simp [ha, hb]
theorem bare_two1 {a b : ByteArray} (h : bareB [a, b] = true) : bare1 a ∧ bare1 b := by
  have h := (bareB_iff.1 h).1
  exact ⟨by simpa using h 0 (by simp), by simpa using h 1 (by simp)⟩
def oneText (a b : ByteArray) : ByteArray := a ++ ⟨#[40, 63, 41]⟩ ++ b
def oneWant (a b : ByteArray) (m : Nat) : ByteArray := a ++ ⟨#[40]⟩ ++ rep ⟨#[63]⟩ ⟨#[44, 32, 63]⟩ m ++ ⟨#[41]⟩ ++ b
theorem one_spec (a b : ByteArray) (ha : bare1 a) (hb : bare1 b) (A : Option Addr) (m c : Nat) (xs : List VRec) (hn : xs.length = m + 1) :
    inSpec (oneText a b).data.toList [lrec A (m + 1) c xs] = some ((oneWant a b m).data.toList, xs) := by
  have hne : xs ≠ [] := fun e => by rw [e] at hn; simp at hn
  rw [spec_lists (fun i hi => by
    have : i = 0 := by simpa using hi
    subst this
    exact fun h => hne h.2) (by rfl)]
  unfold oneText oneWant
  simp only [app_list, rep_list]
  rw [List.append_assoc, ex_skip _ (no63 ha)]
  have e1 : (⟨#[40, 63, 41]⟩ : ByteArray).data.toList ++ b.data.toList = 40 :: 63 :: 41 :: b.data.toList := rfl
  rw [e1, ex_none _ _ _ (by decide), ex_cons, ex_none _ _ _ (by decide)]
  have e2 := ex_skip _ (no63 hb) [] []
  rw [List.append_nil] at e2
  rw [e2]
  simp [ex, more, vals, lrec, hn]
theorem zero_spec (q : List UInt8) (A : Option Addr) (c : Nat) : inSpec q [lrec A 0 c []] = none :=
  spec_empty (i := 0) (by simp) ⟨rfl, rfl⟩
theorem mark_spec (A : Option Addr) (c : Nat) : inSpec (⟨#[63]⟩ : ByteArray).data.toList [lrec A 1 c [z0]] = some ([63], [z0]) := by
  rw [spec_lists (fun i hi => by
    have : i = 0 := by simpa using hi
    subst this
    exact fun h => by cases h.2) (by rfl)]
  simp [ex, more, vals, lrec, Lib.repeatL]
theorem z0_flat : ∀ i, i < [z0].length → flatk ([z0].getD i z0) := by
  intro i hi
  have : i = 0 := by simpa using hi
  subst this
  exact ⟨by decide, by decide⟩
set_option maxHeartbeats 2000000 in
set_option maxRecDepth 100000 in
theorem inOne_any (a b : ByteArray) (A : Option Addr) (n c : Nat) (xs : List VRec) (w : World) (ha : a.size ≤ maxLen) (hb : b.size ≤ maxLen) (hn : xs.length = n) (hm : n ≤ maxLen) (_ : A = none → c = 0) (hx : ListAt w A xs) :
    Calls Try.prog 7 #[.string a, .string b, .slice A n c] w fun e w' => e = .returned (.bool true) ∧ Below w.heap.size w w' := by
  have HC := Lib.hid (two_cells1 a b w)
  have HZ := Lib.hid (two_small1 a b ha hb)
  have HX := Lib.hid hx
  have HN := Lib.hid hn
  unfold maxLen at ha hb hm
  clear hx hn
  by_cases h1 : (2147483647 : Int) < a.size
  · go_enter Try.func7, Try.ntmps7
    go_wp2_with fail
    go_ret
    exact ⟨rfl, Below.refl _ _⟩
  by_cases h2 : (2147483647 : Int) < b.size
  · go_enter Try.func7, Try.ntmps7
    go_wp2_with fail
    go_ret
    exact ⟨rfl, Below.refl _ _⟩
  by_cases h3 : (2147483647 : Int) < n
  · go_enter Try.func7, Try.ntmps7
    go_wp2_with fail
    go_ret
    exact ⟨rfl, Below.refl _ _⟩
  go_enter Try.func7, Try.ntmps7
  go_wp2_with fail
  refine (bare9_any w.heap.size 0 2 2 [a, b] _ rfl (by omega) HC.out HZ.out).mono ?_
  rintro e w1 ⟨rfl, rfl⟩
  have HB1 : Hid (Below w.heap.size w (w.alloc (.cells #[.string a, .string b] 9))) := Lib.hid ((Below.refl _ _).alloc (Nat.le_refl _) _)
  generalize w.alloc (.cells #[.string a, .string b] 9) = w1 at HB1
  clear HC HZ
  cases hB : bareB [a, b] with
  | false =>
    go_wp2
    go_ret
    exact ⟨rfl, HB1.out⟩
  | true =>
  have HA := Lib.hid (bare_two1 hB)
  have ha100 := HA.out.1.1
  have hb100 := HA.out.2.1
  clear hB
  go_wp2_with fail
  refine (single_any A n c xs _ HN.out (by omega) (listAt_below HX.out HB1.out)).mono ?_
  rintro e w2 ⟨r, rfl, hr, hb2⟩
  have HB2 := Lib.hid (HB1.out.trans (hb2.mono HB1.out.size))
  have HR := Lib.hid hr
  clear hr hb2
  cases r with
  | false =>
    go_wp2
    go_ret
    exact ⟨rfl, HB2.out⟩
  | true =>
  have hr2 := HR.out (by trivial)
  have HR2 := Lib.hid hr2.2
  clear HR hr2
  by_cases h20 : (20 : Int) < n
  · go_wp2
    go_ret
    exact ⟨rfl, HB2.out⟩
  rcases Nat.eq_zero_or_pos n with rfl | hpos
  · obtain rfl : xs = [] := List.eq_nil_of_length_eq_zero HN.out
    go_wp2_with fail
    refine (expanded_any (oneText a b) (some ⟨w2.heap.size, 0, none⟩) 1 1 [lrec A 0 c []] _ rfl (by omega) (listAt_lit w2 [(lrec A 0 c []).x] _) (fun r hr => ?_) (fun r hr => ?_) ?_ (fun t vs h => ?_)).mono ?_
    · obtain rfl := List.mem_singleton.1 hr
      exact lrec_ok rfl (by omega) (.inl rfl) (fun i hi => by simp at hi)
    · obtain rfl := List.mem_singleton.1 hr
      exact Nat.zero_le _
    · unfold oneText; rw [ByteArray.size_append', ByteArray.size_append', show (ByteArray.mk #[40, 63, 41]).size = 3 from rfl]; omega
    · rw [zero_spec] at h; cases h
    rintro e w3 he
    obtain ⟨rfl, hb3⟩ := exp_none (zero_spec _ A c) he
    have HB3 := Lib.hid ((HB2.out.alloc HB2.out.size _).trans (hb3.mono (by have := HB2.out.size; simp; omega)))
    clear hb3 he
    go_wp2_with fail
    refine (expanded_any ⟨#[63]⟩ (some ⟨w3.heap.size + 1, 0, none⟩) 1 1 [lrec (some ⟨w3.heap.size, 0, none⟩) 1 1 [z0]] _ rfl (by omega) (listAt_lit2 w3 _ [(lrec (some ⟨w3.heap.size, 0, none⟩) 1 1 [z0]).x] _) (fun r hr => ?_) (fun r hr => ?_) (by decide) (fun t vs h => ?_)).mono ?_
    · obtain rfl := List.mem_singleton.1 hr
      exact lrec_ok rfl (by omega) (listAt_below (listAt_lit w3 [z0] _) ((Below.refl _ _).alloc (Nat.le_refl _) _)) z0_flat
    · obtain rfl := List.mem_singleton.1 hr
      exact (by decide : 1 ≤ 1000000)
    · rw [mark_spec] at h
      injection h with h
      obtain ⟨_, rfl⟩ := Prod.mk.inj h
      exact (by decide : 1 ≤ 1000000)
    rintro e w4 he
    obtain ⟨v, rfl, _, hb4⟩ := exp_some (mark_spec _ 1) he
    have HB4 := Lib.hid (((HB3.out.alloc HB3.out.size _).alloc (by have := HB3.out.size; simp; omega) _).trans (hb4.mono (by have := HB3.out.size; simp; omega)))
    clear hb4 he
    go_wp2
    go_ret
    exact ⟨rfl, HB4.out⟩
  · obtain ⟨m, hnm⟩ : ∃ m, n = m + 1 := ⟨n - 1, by omega⟩
    have HM := Lib.hid hnm
    clear hnm
    have hn0 : ((n : Int) == 0) = false := by rw [beq_eq_false_iff_ne]; omega
    go_wp2_with fail
    refine (expanded_any (oneText a b) (some ⟨w2.heap.size, 0, none⟩) 1 1 [lrec A n c xs] _ rfl (by omega) (listAt_lit w2 [(lrec A n c xs).x] _) (fun r hr => ?_) (fun r hr => ?_) ?_ (fun t vs h => ?_)).mono ?_
    · obtain rfl := List.mem_singleton.1 hr
      exact lrec_ok HN.out (by omega) (listAt_below HX.out (HB2.out.alloc HB2.out.size _)) (fun i hi => (HR2.out i hi).1)
    · obtain rfl := List.mem_singleton.1 hr
      show xs.length ≤ 1000000
      rw [HN.out]; omega
    · unfold oneText; rw [ByteArray.size_append', ByteArray.size_append', show (ByteArray.mk #[40, 63, 41]).size = 3 from rfl]; omega
    · have := HM.out
      subst this
      rw [one_spec a b HA.out.1 HA.out.2 A m c xs HN.out] at h
      injection h with h
      obtain ⟨_, rfl⟩ := Prod.mk.inj h
      rw [HN.out]; omega
    rintro e w3 he
    have hsp : inSpec (oneText a b).data.toList [lrec A n c xs] = some ((oneWant a b m).data.toList, xs) := by
      have := HM.out
      subst this
      exact one_spec a b HA.out.1 HA.out.2 A m c xs HN.out
    obtain ⟨v, rfl, hown, hb3⟩ := exp_some hsp he
    rw [show (⟨(oneWant a b m).data.toList.toArray⟩ : ByteArray) = oneWant a b m from by simp]
    generalize hout : oneWant a b m = out
    have HOUT := Lib.hid hout
    have HO := Lib.hid hown
    have HB3 := Lib.hid ((HB2.out.alloc HB2.out.size _).trans (hb3.mono (by have := HB2.out.size; simp; omega)))
    clear hb3 he hown hsp hout
    go_wp2_with fail
    have hnm1 : (n : Int) - 1 = m := by have := HM.out; omega
    have hm20 : m ≤ 19 := by have := HM.out; omega
    go_loop [13, 74] (fun v i => ∃ (k : Nat) (s : ByteArray), k ≤ m ∧ i = .int .i64 k ∧ v = .string s ∧ s.size ≤ 1 + 3 * k ∧ Hid (s = rep ⟨#[63]⟩ ⟨#[44, 32, 63]⟩ k)) (fun _ i => m - (intOf i).toNat)
    case atStart => exact ⟨0, _, by omega, rfl, rfl, by decide, Lib.hid rfl⟩
    case round =>
      obtain ⟨k, s, hk, rfl, rfl, hs, HS⟩ := hrel
      by_cases hlt : k < m
      · have hkm : (k : Int) < m := by omega
        go_wp2
        go_round
        case rel =>
          refine ⟨k + 1, _, by omega, by go_num, rfl, ?_, Lib.hid ?_⟩
          · rw [ByteArray.size_append', show (ByteArray.mk #[44, 32, 63]).size = 3 from rfl]; omega
          · rw [HS.out]; rfl
        case measure => simp [intOf]; omega
      · obtain rfl : k = m := by omega
        have ho : out = a ++ ⟨#[40]⟩ ++ s ++ ⟨#[41]⟩ ++ b := by rw [← HOUT.out, HS.out]; rfl
        rw [ho]
        clear ho
        go_wp2_with fail
        refine (equal_backs _ v A n c xs _ HN.out (by omega) (HN.out ▸ HO.out) (listAt_below HX.out HB3.out) (fun i hi => HR2.out i (by rw [HN.out]; exact hi))).mono ?_
        rintro e w4 ⟨rfl, hb4⟩
        have HB4 := Lib.hid (HB3.out.trans (hb4.mono HB3.out.size))
        clear hb4
        go_wp2
        go_ret
        exact ⟨rfl, HB4.out⟩
end Go.Proofs.Ytdjgknfmehkigaa
