/- FnNamesToDatabase walked: it answers true whatever the names, the value and the list are, and only makes new memory. -/
import Derived.Test.YtpjadgdimkdblaaDoorDbR
import Derived.Deep.Cut
namespace Go.Proofs.YtpjadgdimkdblaaDoor
open Go.RowKit
set_option linter.unusedVariables false

theorem digits9_at (j : Int) (i : Nat) (hj : j = (i : Int)) (hi : i < 100) (w : World) :
    Calls Tryd.prog 24 #[.int .i64 j] w fun e w' => e = .returned (.string ⟨(Lib.decDigits i).toArray⟩) ∧ Below w.heap.size w w' := by
  subst hj
  exact digits9_small i hi w
theorem nxC {w0 w w1 : World} (h : Below w0.heap.size w0 w) (hb : Below w.heap.size w w1) : Below w0.heap.size w0 w1 := h.trans (hb.mono h.size)
def tenCells (nm0 nm1 : ByteArray) (x0 x1 : VRec) : Array Value := #[.string nm0, .int .i64 x0.k, .int .i64 x0.n, .string x0.t, .slice x0.A x0.m x0.c, .string nm1, .int .i64 x1.k, .int .i64 x1.n, .string x1.t, .slice x1.A x1.m x1.c]
theorem lies_of_new10 (w : World) (nm0 nm1 : ByteArray) (x0 x1 : VRec) (ys0 ys1 : List VRec) : ∀ i, i < ([⟨nm0, ⟨x0, ys0⟩⟩, ⟨nm1, ⟨x1, ys1⟩⟩] : List NRec).length → NRec.lies (w.alloc (.cells (tenCells nm0 nm1 x0 x1) 39)) w.heap.size (0 + i * 5) (([⟨nm0, ⟨x0, ys0⟩⟩, ⟨nm1, ⟨x1, ys1⟩⟩] : List NRec).getD i n0) := by
  have k : ∀ r u, (tenCells nm0 nm1 x0 x1)[r]? = some u → (w.alloc (.cells (tenCells nm0 nm1 x0 x1) 39)).cell? ⟨w.heap.size, r, none⟩ = some u := fun r u h => (cell_of_row _ _ _ _ _ _ (heap_alloc_new w _)).trans h
  intro i hi
  have : i = 0 ∨ i = 1 := by simp at hi; omega
  rcases this with rfl | rfl
  · exact ⟨k 0 _ rfl, k 1 _ rfl, k 2 _ rfl, k 3 _ rfl, k 4 _ rfl⟩
  · exact ⟨k 5 _ rfl, k 6 _ rfl, k 7 _ rfl, k 8 _ rfl, k 9 _ rfl⟩
theorem db_names {w : World} {one two : ByteArray} (a : ARec) {A : Option Addr} {n c : Nat} {xs : List VRec} (h1 : one.size ≤ maxLen) (h2 : two.size ≤ maxLen) (hne : one ≠ two) (ha : a.x.right) (hn : xs.length = n) (hm : n ≤ 1000000) (hx : ListAt w A xs) (hf : ∀ i, i < xs.length → flatk (xs.getD i z0)) :
    NamesOk (w.alloc (.cells (tenCells two one (lrec A n c xs).x a.x) 39)) (some ⟨w.heap.size, 0, none⟩) [⟨two, lrec A n c xs⟩, ⟨one, a⟩] := by
  have hx2 := listAt_below hx ((Below.refl w.heap.size w).alloc (Nat.le_refl _) (.cells (tenCells two one (lrec A n c xs).x a.x) 39))
  refine ⟨by simp, .inr ⟨w.heap.size, 0, rfl, by simp, lies_of_new10 w two one _ _ _ _⟩, fun i hi => ?_, fun i j hij hj => ?_, fun i hi => ?_⟩
  · have : i = 0 ∨ i = 1 := by simp at hi; omega
    rcases this with rfl | rfl
    · exact lrec_ok hn hm hx2 hf
    · exact .inl ha.1
  · have : i = 0 ∧ j = 1 := by simp at hj; omega
    obtain ⟨rfl, rfl⟩ := this
    exact fun e => hne e.symm
  · have : i = 0 ∨ i = 1 := by simp at hi; omega
    rcases this with rfl | rfl
    · exact h2
    · exact h1
theorem taken_right {x : ARec} (h : x.x.right) : x.taken := .inl h.1
theorem taken_lrec {A : Option Addr} {n c : Nat} {xs : List VRec} (hm : xs.length ≤ 1000000) (hf : ∀ i, i < xs.length → flatk (xs.getD i z0)) : (lrec A n c xs).taken := .inr ⟨rfl, hm, hf⟩
theorem want_first {s ds : ByteArray} (h : s.data.toList = wantD 0) (hd : ds.data.toList = Lib.decDigits 2) : (s ++ ((⟨#[36]⟩ : ByteArray) ++ ds)).data.toList = wantD 1 := by
  rw [wantD_one, ← h, ← hd]
  simp
theorem want_next {k : Nat} {s ds : ByteArray} (h : s.data.toList = wantD (k + 1)) (hd : ds.data.toList = Lib.decDigits (k + 3)) : (s ++ (⟨#[44, 32]⟩ : ByteArray) ++ ((⟨#[36]⟩ : ByteArray) ++ ds)).data.toList = wantD (k + 2) := by
  rw [wantD_snoc, ← h, ← hd]
  simp
theorem want_size {k : Nat} {s : ByteArray} (hk : k ≤ 20) (h : s.data.toList = wantD k) : s.size ≤ 120 := by
  have := wantD_len k (by omega)
  rw [← size_list, h]
  omega
theorem want_whole {m : Nat} {q s ds : ByteArray} (hq : q.data.toList = markD m) (h : s.data.toList = wantD (m + 1)) (hd : ds.data.toList = Lib.decDigits (m + 3)) : (⟨(rebL [36] q.data.toList 0).toArray⟩ : ByteArray) = s ++ ((⟨#[41, 32, 65, 78, 68, 32, 99, 32, 61, 32, 36]⟩ : ByteArray) ++ ds) := by
  refine ext_list ?_
  rw [hq, d_reb, ← h, ← hd]
  simp [endD]
theorem db_list {w : World} {B k : Nat} {v : Value} {x : VRec} {xs : List VRec} (h : w.ownsRow B 34 4 v (1 + k + 1) (cellsL ([x] ++ xs ++ [x]))) : w.ownsRow B 34 4 v (k + 2) (cellsL (x :: (xs ++ [x]))) := by
  rw [show 1 + k + 1 = k + 2 from by omega] at h
  simpa using h
theorem db_open {w : World} {B k : Nat} {v : Value} {x : VRec} {xs : List VRec} (hn : xs.length = k) (h : w.ownsRow B 34 4 v (k + 2) (cellsL (x :: (xs ++ [x])))) : ∃ A c, v = .slice A (k + 2) c ∧ ListAt w A (x :: (xs ++ [x])) :=
  listAt_own h (by simp [hn])
set_option maxHeartbeats 4000000 in
set_option maxRecDepth 100000 in
theorem namesToDatabase_any (one two : ByteArray) (a : ARec) (A : Option Addr) (n c : Nat) (xs : List VRec) (w : World) (hp : Pow10 w) (ho1 : one.size ≤ maxLen) (ho2 : two.size ≤ maxLen) (hl : a.lain w) (hz : a.x.t.size ≤ maxLen ∧ (Lit.int .i64 a.x.n).wf = true) (hn : xs.length = n) (hm : n ≤ maxLen) (_ : A = none → c = 0) (hx : ListAt w A xs) :
    Calls Tryd.prog 11 #[.string one, .string two, a.x.agg, .slice A n c] w fun e w' => e = .returned (.bool true) ∧ Below w.heap.size w w' := by
  have HP := Lib.hid hp
  have HL := Lib.hid hl
  have HZ := Lib.hid hz
  have HM1 := Lib.hid ho1
  have HM2 := Lib.hid ho2
  have HX := Lib.hid hx
  have HN := Lib.hid hn
  unfold maxLen at ho1 ho2 hm
  clear hp hl hz hx hn
  unfold VRec.agg
  by_cases h1 : (2147483647 : Int) < one.size
  · go_enter Tryd.func11, Tryd.ntmps11
    go_wp2_with fail
    go_ret
    exact ⟨rfl, (Below.refl _ _).alloc (Nat.le_refl _) _⟩
  by_cases h2 : (2147483647 : Int) < two.size
  · go_enter Tryd.func11, Tryd.ntmps11
    go_wp2_with fail
    go_ret
    exact ⟨rfl, (Below.refl _ _).alloc (Nat.le_refl _) _⟩
  go_enter Tryd.func11, Tryd.ntmps11
  go_wp2_with fail
  refine (fits4_any a.x _ HZ.out.1 (by have := HL.out.1; have := HL.out.2.1; omega)).mono ?_
  rintro e w1 ⟨r, rfl, hb1⟩
  have HW1 := Lib.hid (((Below.refl w.heap.size w).alloc (Nat.le_refl _) _).trans (hb1.mono (by simp)))
  have hc0 := hb1.cell (p := ⟨w.heap.size, 0, none⟩) (by simp)
  have hc1 := hb1.cell (p := ⟨w.heap.size, 1, none⟩) (by simp)
  have hc2 := hb1.cell (p := ⟨w.heap.size, 2, none⟩) (by simp)
  have hc3 := hb1.cell (p := ⟨w.heap.size, 3, none⟩) (by simp)
  have HS1 := Lib.hid (Nat.lt_of_lt_of_le (show w.heap.size < _ by simp) hb1.size)
  clear hb1
  cases r with
  | false =>
    go_wp2
    go_ret
    exact ⟨rfl, HW1.out⟩
  | true =>
  by_cases h3 : (2147483647 : Int) < n
  · go_wp2_with fail
    go_ret
    exact ⟨rfl, HW1.out⟩
  go_wp2_with fail
  refine (named_any one HM1.out w1).mono ?_
  rintro e w' ⟨r, rfl, hr, rfl⟩
  cases r with
  | false =>
    clear hr
    go_wp2
    go_ret
    exact ⟨rfl, HW1.out⟩
  | true =>
  have HNM1 := Lib.hid (hr rfl)
  have hn1 := (hr rfl).2.2.2
  clear hr
  go_wp2_with fail
  refine (named_any two HM2.out w1).mono ?_
  rintro e w' ⟨r, rfl, hr, rfl⟩
  cases r with
  | false =>
    clear hr
    go_wp2
    go_ret
    exact ⟨rfl, HW1.out⟩
  | true =>
  have HNM2 := Lib.hid (hr rfl)
  have hn2 := (hr rfl).2.2.2
  clear hr
  go_wp2_with fail
  · go_ret
    exact ⟨rfl, HW1.out⟩
  have HNE := Lib.hid (show one ≠ two from fun he => absurd (congrArg ByteArray.toList he) (by assumption))
  have hEQ : (one.toList == two.toList) = false := beq_eq_false_iff_ne.2 (by assumption)
  refine (single_any (some ⟨w1.heap.size, 0, none⟩) 1 1 [a.x] _ rfl (by omega) (listAt_lit w1 [a.x] _)).mono ?_
  rintro e w2 ⟨r, rfl, hr, hb2⟩
  have HW2 := Lib.hid (nxC (HW1.out.alloc HW1.out.size _) hb2)
  have g2 := Nat.lt_of_lt_of_le (show w.heap.size < w1.heap.size + 1 from Nat.lt_succ_of_lt HS1.out) (show w1.heap.size + 1 ≤ w2.heap.size from by have := hb2.size; simpa using this)
  have d0 := (hb2.cell (p := ⟨w.heap.size, 0, none⟩) (by have := HS1.out; simp; omega)).trans ((World.cell?_alloc_past _ _ _ HS1.out).trans hc0)
  have d1 := (hb2.cell (p := ⟨w.heap.size, 1, none⟩) (by have := HS1.out; simp; omega)).trans ((World.cell?_alloc_past _ _ _ HS1.out).trans hc1)
  have d2 := (hb2.cell (p := ⟨w.heap.size, 2, none⟩) (by have := HS1.out; simp; omega)).trans ((World.cell?_alloc_past _ _ _ HS1.out).trans hc2)
  have d3 := (hb2.cell (p := ⟨w.heap.size, 3, none⟩) (by have := HS1.out; simp; omega)).trans ((World.cell?_alloc_past _ _ _ HS1.out).trans hc3)
  have HS2 := Lib.hid g2
  have HR := Lib.hid hr
  clear hb2 hr hc0 hc1 hc2 hc3 g2
  cases r with
  | false =>
    go_wp2
    go_ret
    exact ⟨rfl, HW2.out⟩
  | true =>
  have HRV := Lib.hid (show a.x.right from (HR.out (by trivial)).2 0 (by simp))
  clear HR
  go_wp2_with fail
  refine (single_any A n c xs _ HN.out (by omega) (listAt_below HX.out HW2.out)).mono ?_
  rintro e w3 ⟨r, rfl, hr, hb3⟩
  have HW3 := Lib.hid (nxC HW2.out hb3)
  have e0 := (hb3.cell (p := ⟨w.heap.size, 0, none⟩) HS2.out).trans d0
  have e1 := (hb3.cell (p := ⟨w.heap.size, 1, none⟩) HS2.out).trans d1
  have e2 := (hb3.cell (p := ⟨w.heap.size, 2, none⟩) HS2.out).trans d2
  have e3 := (hb3.cell (p := ⟨w.heap.size, 3, none⟩) HS2.out).trans d3
  have HS3 := Lib.hid (Nat.lt_of_lt_of_le HS2.out hb3.size)
  have HR := Lib.hid hr
  clear hb3 hr d0 d1 d2 d3
  cases r with
  | false =>
    go_wp2
    go_ret
    exact ⟨rfl, HW3.out⟩
  | true =>
  have HRX := Lib.hid (HR.out (by trivial)).2
  clear HR
  rcases Nat.eq_zero_or_pos n with rfl | hpos
  · go_wp2
    go_ret
    exact ⟨rfl, HW3.out⟩
  have hn0 : ((n : Int) == 0) = false := by rw [beq_eq_false_iff_ne]; omega
  by_cases h20 : (20 : Int) < n
  · go_wp2
    go_ret
    exact ⟨rfl, HW3.out⟩
  have hn20 : n ≤ 20 := by omega
  go_wp2_with fail
  have HFX := Lib.hid (fun i (hi : i < xs.length) => show flatk (xs.getD i z0) from (HRX.out i hi).1)
  have HQ := Lib.hid (show (((((⟨#[97, 32, 61, 32, 58]⟩ : ByteArray) ++ one) ++ ⟨#[32, 65, 78, 68, 32, 98, 32, 73, 78, 32, 40, 58]⟩) ++ two) ++ ⟨#[41, 32, 65, 78, 68, 32, 99, 32, 61, 32, 58]⟩ ++ one).data.toList = textD one.data.toList two.data.toList by
    simp [textD, dA, dB, dC])
  refine (named_map _ (some ⟨w3.heap.size, 0, none⟩) 2 [⟨two, lrec A n c xs⟩, ⟨one, a⟩] (markD 0) [one.data.toList, two.data.toList, one.data.toList] (fun us => [us.getD 1 .nilIface, us.getD 0 .nilIface, us.getD 1 .nilIface]) (ThreeBack _ a (lrec A n c xs)) _ (d_ok HNM1.out HNM2.out HQ.out) (pow10_below HP.out (HW3.out.alloc HW3.out.size _)) (db_names a HM1.out HM2.out HNE.out HRV.out HN.out (by omega) (listAt_below HX.out HW3.out) HFX.out)
    (fun us hl hf => db_found HNM1.out HNM2.out HNE.out HQ.out (lrec A n c xs) a us hl hf) (says_three ⟨two, lrec A n c xs⟩ ⟨one, a⟩ _ (taken_lrec (by rw [HN.out]; omega) HFX.out) (taken_right HRV.out))).mono ?_
  rintro e w4 ⟨x4, rfl, htb, hb4⟩
  have HW4 := Lib.hid (nxC (HW3.out.alloc HW3.out.size _) hb4)
  have g3 : w.heap.size < (w3.alloc (.cells (tenCells two one (lrec A n c xs).x a.x) 39)).heap.size := by have := HS3.out; simp; omega
  have f0 := (hb4.cell (p := ⟨w.heap.size, 0, none⟩) g3).trans ((World.cell?_alloc_past _ _ _ HS3.out).trans e0)
  have f1 := (hb4.cell (p := ⟨w.heap.size, 1, none⟩) g3).trans ((World.cell?_alloc_past _ _ _ HS3.out).trans e1)
  have f2 := (hb4.cell (p := ⟨w.heap.size, 2, none⟩) g3).trans ((World.cell?_alloc_past _ _ _ HS3.out).trans e2)
  have f3 := (hb4.cell (p := ⟨w.heap.size, 3, none⟩) g3).trans ((World.cell?_alloc_past _ _ _ HS3.out).trans e3)
  have HS4 := Lib.hid (Nat.lt_of_lt_of_le g3 hb4.size)
  obtain ⟨P, c3, r1, rfl, k1, hl4, hok4⟩ := three_args htb (by have := HRV.out.1; omega) (by rw [HN.out]; omega) HFX.out HRV.out.1
  have HL4 := Lib.hid hl4
  have HOK4 := Lib.hid hok4
  obtain ⟨m, hnm⟩ : ∃ m, n = m + 1 := ⟨n - 1, by omega⟩
  have HNM := Lib.hid hnm
  have HSP := Lib.hid (d_spec ⟨a.x.back, []⟩ ⟨r1, xs.map VRec.back⟩ ⟨a.x.back, []⟩ (by have := HRV.out.1; show ¬ a.x.k = 5; omega) k1 (by have := HRV.out.1; show ¬ a.x.k = 5; omega) (fun e => by have h := congrArg List.length e; rw [List.length_map, HN.out] at h; simp at h; omega))
  clear hb4 htb hl4 hok4 e0 e1 e2 e3 g3 hnm
  go_wp2_with fail
  refine (in9_any ⟨(markD 0).toArray⟩ P 3 c3 [⟨a.x.back, []⟩, ⟨r1, xs.map VRec.back⟩, ⟨a.x.back, []⟩] (markD m) (a.x.back :: (xs.map VRec.back ++ [a.x.back])) _ rfl (by omega) HL4.out HOK4.out (fun g hg => ?_) (by decide) ?_ (by simp [HN.out]; omega)).mono ?_
  · simp only [List.mem_cons, List.not_mem_nil, or_false] at hg
    rcases hg with rfl | rfl | rfl
    · exact Nat.zero_le _
    · show (xs.map VRec.back).length ≤ 1000000
      rw [List.length_map, HN.out]; omega
    · exact Nat.zero_le _
  · have h := HSP.out
    have hm : (xs.map VRec.back).length - 1 = m := by rw [List.length_map, HN.out, HNM.out]; rfl
    simp only [hm] at h
    exact h
  rintro e w5 ⟨v5, rfl, hown5, hb5⟩
  rw [three_backs] at hown5
  have HW5 := Lib.hid (nxC HW4.out hb5)
  have HC0 := Lib.hid ((hb5.cell (p := ⟨w.heap.size, 0, none⟩) HS4.out).trans f0)
  have HC1 := Lib.hid ((hb5.cell (p := ⟨w.heap.size, 1, none⟩) HS4.out).trans f1)
  have HC2 := Lib.hid ((hb5.cell (p := ⟨w.heap.size, 2, none⟩) HS4.out).trans f2)
  have HC3 := Lib.hid ((hb5.cell (p := ⟨w.heap.size, 3, none⟩) HS4.out).trans f3)
  have HS5 := Lib.hid (Nat.lt_of_lt_of_le HS4.out hb5.size)
  have HO5 := Lib.hid (show w5.ownsRow w4.heap.size 34 4 v5 (n + 2) (backs (a.x :: (xs ++ [a.x]))) from by
    have := hown5
    simp only [List.length_cons, List.length_append, List.length_map, HN.out, List.length_nil] at this
    exact this)
  clear hb5 hown5 f0 f1 f2 f3
  generalize hq5 : (⟨(markD m).toArray⟩ : ByteArray) = q5
  have HQ5 := Lib.hid (show q5.data.toList = markD m by rw [← hq5])
  clear hq5
  go_wp2_with fail
  go_loopw [13, 98] (fun sv i wi => ∃ (k : Nat) (s : ByteArray), k ≤ n ∧ sv = .string s ∧ i = .int .i64 k ∧ s.size ≤ 200 ∧ Hid (s.data.toList = wantD k ∧ Below w5.heap.size w5 wi)) (fun _ i _ => n - (intOf i).toNat)
  case atStart => exact ⟨0, _, Nat.zero_le _, rfl, rfl, by decide, Lib.hid ⟨rfl, Below.refl _ _⟩⟩
  case round =>
    obtain ⟨k, s, hk, rfl, rfl, hs, HS⟩ := hrel
    have h0k : (0 : Int) ≤ k := by omega
    by_cases hlt : k < n
    · have hkn : (k : Int) < n := by omega
      have hsz := HS.out.2.size
      rcases k with _ | k
      · go_wp2_with fail
        refine (digits9_at _ 2 (by omega) (by omega) _).mono ?_
        rintro e w6 ⟨rfl, hb6⟩
        have HB6 := Lib.hid (HS.out.2.trans (hb6.mono hsz))
        have hds : (⟨(Lib.decDigits 2).toArray⟩ : ByteArray).size ≤ 2 := dec2 2 (by omega)
        generalize hdd : (⟨(Lib.decDigits 2).toArray⟩ : ByteArray) = ds at hds
        have HD := Lib.hid (want_first HS.out.1 (show ds.data.toList = _ by rw [← hdd]))
        clear hb6 hdd
        go_wp2_with fail
        go_roundw
        case rel => exact ⟨1, _, by omega, rfl, by go_num, by have := want_size (by omega) HD.out; omega, Lib.hid ⟨HD.out, HB6.out⟩⟩
        case measure => simp [intOf]; omega
      · have hgt : (0 : Int) < ((k + 1 : Nat) : Int) := by omega
        go_wp2_with fail
        refine (digits9_at _ (k + 3) (by omega) (by omega) _).mono ?_
        rintro e w6 ⟨rfl, hb6⟩
        have HB6 := Lib.hid (HS.out.2.trans (hb6.mono hsz))
        have hds : (⟨(Lib.decDigits (k + 3)).toArray⟩ : ByteArray).size ≤ 2 := dec2 (k + 3) (by omega)
        generalize hdd : (⟨(Lib.decDigits (k + 3)).toArray⟩ : ByteArray) = ds at hds
        have HD := Lib.hid (want_next HS.out.1 (show ds.data.toList = _ by rw [← hdd]))
        clear hb6 hdd
        go_wp2_with fail
        go_roundw
        case rel => exact ⟨k + 2, _, by omega, rfl, by go_num, by have := want_size (by omega) HD.out; omega, Lib.hid ⟨HD.out, HB6.out⟩⟩
        case measure => simp [intOf]; omega
    · obtain rfl : k = n := by omega
      have hsz := HS.out.2.size
      go_wp2_with fail
      refine (digits9_at _ (k + 2) (by omega) (by omega) _).mono ?_
      rintro e w6 ⟨rfl, hb6⟩
      have HB6 := Lib.hid (HS.out.2.trans (hb6.mono hsz))
      have hds : (⟨(Lib.decDigits (k + 2)).toArray⟩ : ByteArray).size ≤ 2 := dec2 (k + 2) (by omega)
      generalize hdd : (⟨(Lib.decDigits (k + 2)).toArray⟩ : ByteArray) = ds at hds
      have HWH := Lib.hid (want_whole (m := m) (s := s) (ds := ds) HQ5.out (by rw [← HNM.out]; exact HS.out.1) (by rw [← hdd, HNM.out]))
      have HXW := Lib.hid (fun W (hW : Below w5.heap.size w5 W) => listAt_below (listAt_below HX.out HW5.out) hW)
      have HOW := Lib.hid (fun W (hW : Below w5.heap.size w5 W) => HO5.out.kept (grown_none hW) (none_or _))
      have HQS := Lib.hid (show q5.size ≤ 100000 by rw [← size_list, HQ5.out, d_mlen]; have := HNM.out; omega)
      have HQC := Lib.hid (show cntQ q5.data.toList ≤ 99 by rw [HQ5.out, d_cnt]; have := HNM.out; omega)
      have hs6 := HB6.out.size
      clear hb6 hdd
      go_upto_region 16 with fail
      go_region_law (first
        | (go_simp; go_at_call 33; refine (rebound_any q5 2 [36] _ (.inl ⟨rfl, rfl⟩) HQS.out HQC.out).mono ?_; rintro e w7 ⟨rfl, hb7⟩; rw [HWH.out]; have HB7 := Lib.hid (HB6.out.drew.trans (hb7.mono hs6)); have HS7 := Lib.hid HB7.out.size; have k0 := (HB7.out.cell (p := ⟨w.heap.size, 0, none⟩) HS5.out).trans HC0.out; have k1 := (HB7.out.cell (p := ⟨w.heap.size, 1, none⟩) HS5.out).trans HC1.out; have k2 := (HB7.out.cell (p := ⟨w.heap.size, 2, none⟩) HS5.out).trans HC2.out; have k3 := (HB7.out.cell (p := ⟨w.heap.size, 3, none⟩) HS5.out).trans HC3.out; have HA1 := Lib.hid (fun X => HB7.out.alloc HS7.out X); have HA2 := Lib.hid (fun X Y => (HB7.out.alloc HS7.out X).alloc (show w5.heap.size ≤ (w7.alloc X).heap.size from by have := HS7.out; simp; omega) Y); have l0 := fun X => ((HA1.out X).cell (p := ⟨w.heap.size, 0, none⟩) HS5.out).trans HC0.out; have l1 := fun X => ((HA1.out X).cell (p := ⟨w.heap.size, 1, none⟩) HS5.out).trans HC1.out; have l2 := fun X => ((HA1.out X).cell (p := ⟨w.heap.size, 2, none⟩) HS5.out).trans HC2.out; have l3 := fun X => ((HA1.out X).cell (p := ⟨w.heap.size, 3, none⟩) HS5.out).trans HC3.out; clear hb7)
        | (refine step_app_g (by kernel_rfl) (.tmp 129) (.tmp 130) rfl w5.heap.size (.slice (some ⟨w7.heap.size, 0, none⟩) 1 1) 1 [a.x] rfl A k c rfl xs (by first | exact own_one w7 _ a.x HS7.out | exact (own_one w7 _ a.x HS7.out).alloc _) HN.out (fun e => by have h := HN.out; rw [e] at h; simp at h; omega) (by first | exact HXW.out _ (HA1.out _) | exact HXW.out _ (HA2.out _ _)) (by omega) (by first | exact (HA1.out _).size | exact (HA2.out _ _).size) ?_; intro v8 w8 hown8 hg8; have HB8 := Lib.hid (mid_grown (by first | exact HA1.out _ | exact HA2.out _ _) (by first | exact own_one w7 _ a.x HS7.out | exact (own_one w7 _ a.x HS7.out).alloc _) hg8 (Nat.le_refl _)); have HO8 := Lib.hid hown8; have HS8 := Lib.hid HB8.out.size; (first | (have HL8 := Lib.hid (lit_second hg8)) | skip); have p0 := (HB8.out.cell (p := ⟨w.heap.size, 0, none⟩) HS5.out).trans HC0.out; have p1 := (HB8.out.cell (p := ⟨w.heap.size, 1, none⟩) HS5.out).trans HC1.out; have p2 := (HB8.out.cell (p := ⟨w.heap.size, 2, none⟩) HS5.out).trans HC2.out; have p3 := (HB8.out.cell (p := ⟨w.heap.size, 3, none⟩) HS5.out).trans HC3.out; clear hown8 hg8)
        | (refine step_app_g (by kernel_rfl) (.tmp 129) (.tmp 130) rfl w5.heap.size (.slice (some ⟨w7.heap.size + 1, 0, none⟩) 1 1) 1 [a.x] rfl A k c rfl xs (by exact own_one2 w7 _ _ a.x HS7.out) HN.out (fun e => by have h := HN.out; rw [e] at h; simp at h; omega) (by exact HXW.out _ (HA2.out _ _)) (by omega) (by exact (HA2.out _ _).size) ?_; intro v8 w8 hown8 hg8; have HB8 := Lib.hid (mid_grown (by exact HA2.out _ _) (by exact own_one2 w7 _ _ a.x HS7.out) hg8 (Nat.le_refl _)); have HO8 := Lib.hid hown8; have HS8 := Lib.hid HB8.out.size; have HL8 := Lib.hid (lit_first hg8); clear hown8 hg8)
        | (refine step_app_g (by kernel_rfl) (.tmp 131) (.tmp 133) rfl w5.heap.size v8 (1 + k) ([a.x] ++ xs) rfl (some ⟨w7.heap.size, 0, none⟩) 1 1 rfl [a.x] (by exact HO8.out) rfl (by simp) (by exact HL8.out) (by omega) (by exact HS8.out) ?_; intro v9 w9 hown9 hg9; have HB9 := Lib.hid (mid_grown HB8.out HO8.out hg9 (Nat.le_refl _)); have HO9 := Lib.hid (db_list hown9); obtain ⟨A9, c9, rfl, hl9⟩ := db_open HN.out HO9.out; have HL9 := Lib.hid hl9; clear hown9 hg9 hl9 HO9)
        | (refine step_app_g (by kernel_rfl) (.tmp 131) (.tmp 133) rfl w5.heap.size v8 (1 + k) ([a.x] ++ xs) rfl (some ⟨w7.heap.size + 1, 0, none⟩) 1 1 rfl [a.x] (by exact HO8.out) rfl (by simp) (by exact HL8.out) (by omega) (by exact HS8.out) ?_; intro v9 w9 hown9 hg9; have HB9 := Lib.hid (mid_grown HB8.out HO8.out hg9 (Nat.le_refl _)); have HO9 := Lib.hid (db_list hown9); obtain ⟨A9, c9, rfl, hl9⟩ := db_open HN.out HO9.out; have HL9 := Lib.hid hl9; clear hown9 hg9 hl9 HO9)
        | (refine step_app_g (by kernel_rfl) (.tmp 131) (.tmp 133) rfl w5.heap.size v8 (1 + k) ([a.x] ++ xs) rfl (some ⟨w8.heap.size, 0, none⟩) 1 1 rfl [a.x] (by exact HO8.out.alloc _) rfl (by simp) (by exact listAt_lit w8 [a.x] _) (by omega) (by have := HS8.out; simp; omega) ?_; intro v9 w9 hown9 hg9; have HB9 := Lib.hid (mid_grown (HB8.out.alloc HS8.out _) (HO8.out.alloc _) hg9 (Nat.le_refl _)); have HO9 := Lib.hid (db_list hown9); obtain ⟨A9, c9, rfl, hl9⟩ := db_open HN.out HO9.out; have HL9 := Lib.hid hl9; clear hown9 hg9 hl9 HO9)
        | (go_simp; go_at_call 26; refine (equal_backs w4.heap.size v5 A9 (k + 2) c9 (a.x :: (xs ++ [a.x])) _ (by simp [HN.out]) (by omega) (HOW.out _ HB9.out) HL9.out (fun i hi => right_three HRV.out HRX.out i (by rw [HN.out]; exact hi))).mono ?_; rintro e w10 ⟨rfl, hb10⟩; have HB10 := Lib.hid (nxC HB9.out hb10); clear hb10))
      all_goals
        have HBE := Lib.hid (nxC HW5.out HB10.out)
        go_wp2
        go_ret
        exact ⟨rfl, HBE.out⟩
end Go.Proofs.YtpjadgdimkdblaaDoor
