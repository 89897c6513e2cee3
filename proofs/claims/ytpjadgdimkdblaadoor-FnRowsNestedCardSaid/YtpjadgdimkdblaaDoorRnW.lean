/- FnRowsNested walked: it answers true whatever the name, the values and the depth are, and only makes new memory. -/
import Derived.Test.YtpjadgdimkdblaaDoorRnL
import Derived.OpenShut
namespace Go.Proofs.YtpjadgdimkdblaaDoor
open Go.RowKit
set_option linter.unusedVariables false

theorem nxN {w0 w w1 : World} (h : Below w0.heap.size w0 w) (hb : Below w.heap.size w w1) : Below w0.heap.size w0 w1 := h.trans (hb.mono h.size)
theorem new_block {b g n c : Nat} (h : (Value.slice (some ⟨b, 0, none⟩) n c).ownBlock = some g) : b ≤ g := by
  have : b = g := by simpa [Value.ownBlock] using h
  omega
/-- What the loop over the values carries. -/
def NestSo (nm : ByteArray) (xs : List VRec) (d : Nat) (w : World) (k : Nat) (rs : List RRow) (v : Value) (s : ByteArray) (wr : World) : Prop :=
  RowsSo w.heap.size rs k v wr ∧ (∀ j, j < k → (rs.getD j r0).gs = rowGs [nm] [xs.getD j z0]) ∧ s.data.toList = wantN d k ∧ Below w.heap.size w wr
theorem nest_gs {nm : ByteArray} {xs : List VRec} {k : Nat} {rs : List RRow} (hl : rs.length = k) (h : ∀ j, j < k → (rs.getD j r0).gs = rowGs [nm] [xs.getD j z0]) (A : Option Addr) (c : Nat) : ∀ j, j < k + 1 → ((rs ++ [(⟨A, c, rowGs [nm] [xs.getD k z0]⟩ : RRow)]).getD j r0).gs = rowGs [nm] [xs.getD j z0] := by
  intro j hj
  rcases Nat.lt_or_ge j k with h1 | h1
  · have e : (rs ++ [(⟨A, c, rowGs [nm] [xs.getD k z0]⟩ : RRow)]).getD j r0 = rs.getD j r0 := by
      rw [List.getD_eq_getElem?_getD, List.getElem?_append_left (by omega), ← List.getD_eq_getElem?_getD]
    rw [e]
    exact h j h1
  · obtain rfl : j = k := by omega
    have e : (rs ++ [(⟨A, c, rowGs [nm] [xs.getD j z0]⟩ : RRow)]).getD j r0 = ⟨A, c, rowGs [nm] [xs.getD j z0]⟩ := by
      rw [List.getD_eq_getElem?_getD, List.getElem?_append_right (by omega), hl, Nat.sub_self]
      rfl
    rw [e]
theorem sing_flat (xs : List VRec) : (xs.map fun x => [x]).flatten = xs := by
  induction xs with
  | nil => rfl
  | cons x xs ih => rw [List.map_cons, List.flatten_cons, ih]; rfl
theorem sing_get (xs : List VRec) (i : Nat) (h : i < xs.length) : (xs.map fun x => [x]).getD i [] = [xs.getD i z0] := by
  rw [List.getD_eq_getElem?_getD, List.getD_eq_getElem?_getD, List.getElem?_map, List.getElem?_eq_getElem h]
  rfl
theorem nest_first {d : Nat} {s s1 s2 : ByteArray} (h : s.data.toList = wantN d 0) (h1 : s1.data.toList = opensL d) (h2 : s2.data.toList = endsL d) : (s ++ ((⟨#[40]⟩ : ByteArray) ++ s1 ++ ⟨#[63]⟩ ++ s2 ++ ⟨#[44, 32, 49, 41]⟩)).data.toList = wantN d 1 := by
  rw [wantN_one, ← h, rowN, ← h1, ← h2]
  simp
theorem nest_next {d k : Nat} {s s1 s2 : ByteArray} (hk : 0 < k) (h : s.data.toList = wantN d k) (h1 : s1.data.toList = opensL d) (h2 : s2.data.toList = endsL d) : (s ++ (⟨#[44]⟩ : ByteArray) ++ ((⟨#[40]⟩ : ByteArray) ++ s1 ++ ⟨#[63]⟩ ++ s2 ++ ⟨#[44, 32, 49, 41]⟩)).data.toList = wantN d (k + 1) := by
  obtain ⟨j, rfl⟩ : ∃ j, k = j + 1 := ⟨k - 1, by omega⟩
  rw [wantN_snoc, ← h, rowN, ← h1, ← h2]
  simp
theorem nest_size {d k : Nat} {s : ByteArray} (hd : d ≤ 6) (hk : k ≤ 8) (h : s.data.toList = wantN d k) : s.size ≤ 250 := by
  have h1 := wantN_len d k
  have h2 : k * (3 * d + 7) ≤ 8 * 25 := Nat.mul_le_mul hk (by omega)
  rw [← size_list, h]
  omega
theorem all_flat {xs : List VRec} (h : ∀ i, i < xs.length → (xs.getD i z0).right) : ∀ x ∈ (xs.map fun x => [x]).flatten, flatk x := by
  rw [sing_flat]
  intro x hx
  obtain ⟨i, hi, rfl⟩ := List.getElem_of_mem hx
  have := h i hi
  rw [List.getD_eq_getElem?_getD, List.getElem?_eq_getElem hi] at this
  exact this.1
set_option maxHeartbeats 4000000 in
set_option maxRecDepth 100000 in
theorem rowsNested_any (nm : ByteArray) (A : Option Addr) (n c : Nat) (xs : List VRec) (m : Int) (w : World) (hp : Pow10 w) (hnm : nm.size ≤ maxLen) (hn : xs.length = n) (hm : n ≤ maxLen) (_ : A = none → c = 0) (hx : ListAt w A xs) (hm8 : (Lit.int .u8 m).wf = true) :
    Calls Tryd.prog 8 #[.string nm, .slice A n c, .int .u8 m] w fun e w' => e = .returned (.bool true) ∧ Below w.heap.size w w' := by
  obtain ⟨i1, hi0, hz0, hz1, hz2⟩ := info_parts Tryd.infoArgs
  have HP := Lib.hid hp
  have HX := Lib.hid hx
  have HN := Lib.hid hn
  have HNM0 := Lib.hid hnm
  unfold maxLen at hnm hm
  clear hp hx hn
  have hbd := Go.bounds_u8 hm8
  by_cases h1 : (2147483647 : Int) < nm.size
  · go_enter Tryd.func8, Tryd.ntmps8
    go_wp2_with fail
    go_ret
    exact ⟨rfl, Below.refl _ _⟩
  by_cases h2 : (2147483647 : Int) < n
  · go_enter Tryd.func8, Tryd.ntmps8
    go_wp2_with fail
    go_ret
    exact ⟨rfl, Below.refl _ _⟩
  go_enter Tryd.func8, Tryd.ntmps8
  go_wp2_with fail
  refine (named_any nm HNM0.out w).mono ?_
  rintro e w' ⟨r, rfl, hr, rfl⟩
  cases r with
  | false =>
    clear hr
    go_wp2
    go_ret
    exact ⟨rfl, Below.refl _ _⟩
  | true =>
  have HNM := Lib.hid (hr rfl)
  have hn30 := (hr rfl).2.2.2
  clear hr
  go_wp2_with fail
  refine (single_any A n c xs _ HN.out (by omega) HX.out).mono ?_
  rintro e w2 ⟨r, rfl, hr, hb2⟩
  have HW2 := Lib.hid hb2
  have HR := Lib.hid hr
  clear hb2 hr
  cases r with
  | false =>
    go_wp2
    go_ret
    exact ⟨rfl, HW2.out⟩
  | true =>
  have HRX := Lib.hid (HR.out (by trivial)).2
  clear HR
  rcases Nat.eq_zero_or_pos n with rfl | hpos
  · go_wp2
    go_ret
    exact ⟨rfl, HW2.out⟩
  have hn0 : ((n : Int) == 0) = false := by rw [beq_eq_false_iff_ne]; omega
  by_cases h8 : (8 : Int) < n
  · go_wp2
    go_ret
    exact ⟨rfl, HW2.out⟩
  by_cases h6 : (6 : Int) < m
  · go_wp2
    go_ret
    exact ⟨rfl, HW2.out⟩
  go_wp2_with fail
  go_loop [7, 8, 46] (fun q t i => ∃ (k : Nat) (s1 s2 : ByteArray), (k : Int) ≤ m ∧ q = .string s1 ∧ t = .string s2 ∧ i = .int .u8 k ∧ Hid (s1.data.toList = opensL k ∧ s2.data.toList = endsL k)) (fun _ _ i => (m - intOf i).toNat)
  case atStart => exact ⟨0, ⟨#[]⟩, ⟨#[]⟩, by omega, rfl, rfl, rfl, Lib.hid ⟨rfl, rfl⟩⟩
  case round =>
    obtain ⟨d, s1, s2, hd, rfl, rfl, rfl, HD⟩ := hrel
    have hz1' : s1.size ≤ 12 := by
      rw [← size_list, HD.out.1, opens_len]
      omega
    have hz2' : s2.size ≤ 6 := by
      rw [← size_list, HD.out.2, ends_len]
      omega
    by_cases hlt : (d : Int) < m
    · go_wp2_with fail
      go_round
      case rel =>
        refine ⟨d + 1, _, _, by omega, rfl, rfl, by go_num, Lib.hid ⟨?_, ?_⟩⟩
        · unfold opensL
          rw [← repeat_snoc, ← opensL, ← HD.out.1]
          simp
        · unfold endsL
          rw [← repeat_snoc, ← endsL, ← HD.out.2]
          simp
      case measure => simp [intOf]; omega
    · obtain rfl : (d : Int) = m := by omega
      go_wp2_with fail
      go_loopw [9, 10, 55] (fun v' t i wr => ∃ (k : Nat) (v : Value) (s : ByteArray) (rs : List RRow), k ≤ n ∧ v = v' ∧ t = .string s ∧ i = .int .i64 k ∧ s.size ≤ 300 ∧ Hid (NestSo nm xs d w2 k rs v s wr)) (fun _ _ i _ => n - (intOf i).toNat)
      case atStart => exact ⟨0, _, _, [], Nat.zero_le _, rfl, rfl, rfl, by decide, Lib.hid ⟨rowsSo_start _ _, fun j h => by omega, rfl, Below.refl _ _⟩⟩
      case round =>
        obtain ⟨k, v, s, rs, hk, rfl, rfl, rfl, hs, HS⟩ := hrel
        have h0k : (0 : Int) ≤ k := by omega
        have hsz := HS.out.2.2.2.size
        by_cases hlk : k < n
        · have hkn : (k : Int) < n := by omega
          have hne : xs ≠ [] := fun e => by have := HN.out; rw [e] at this; simp at this; omega
          obtain ⟨b, off, rfl, hb, hl⟩ := HX.out.resolve_left hne
          have HWR := Lib.hid (HW2.out.trans (HS.out.2.2.2.mono HW2.out.size))
          obtain ⟨c0, c1, c2, c3⟩ := lies_below (hl k (by rw [HN.out]; exact hlk)) HWR.out hb
          have e1 : off + (k * 4 + 1) = off + k * 4 + 1 := by omega
          have e2 : off + (k * 4 + 2) = off + k * 4 + 2 := by omega
          have e3 : off + (k * 4 + 3) = off + k * 4 + 3 := by omega
          have HNG := Lib.hid (nest_gs HS.out.1.1 HS.out.2.1 (some ⟨wr.heap.size, 0, none⟩) 1)
          generalize xs.getD k z0 = x at c0 c1 c2 c3 HNG
          clear hl hne hb
          rcases Nat.eq_zero_or_pos k with hk0 | hk0
          · have hgt : ¬ (0 : Int) < k := by omega
            have HWT := Lib.hid (nest_first (by have h := HS.out.2.2.1; rw [hk0] at h; exact h) HD.out.1 HD.out.2)
            have HK0 := Lib.hid hk0
            clear hk0
            go_wp2_with (at_builtin; go_must (refine wpList_append_own_at _ rfl _ _ 45 rfl w2.heap.size 40 i1 (.slice none 0 0) 1 24 Tryd.underlying45 hi0 hz0 hz1 hz2 rfl (by decide) v k (rs.map RRow.val) rfl (((HS.out.1.2.1).alloc _).alloc _) ⟨wr.heap.size + 1, 0, none⟩ 1 1 [.slice (some ⟨wr.heap.size, 0, none⟩) 1 1] rfl rfl (cell_one_new2 _ _ _ _) (by intro z hz; simp at hz; subst hz; rfl) (by unfold maxLen; omega) (by omega) (by simp; omega) ?_); intro v2 w3 hown3 hg3 _ hat3; refine Hid.out ?_)
            refine Lib.hid ?_
            have HR3 := Lib.hid (rowsSo_step (r := ⟨some ⟨wr.heap.size, 0, none⟩, 1, rowGs [nm] [x]⟩) HS.out.1 (World.grownBy_alloc wr (.cells (cellsN (rowGs [nm] [x])).toArray 39) none) (own_row wr w2.heap.size (rowGs [nm] [x]) 1 rfl hsz (by decide)) (fun g hg => new_block hg) hown3 hg3 hat3)
            have HB3 := Lib.hid (((HS.out.2.2.2.alloc hsz _).alloc (by simp; omega) _).grown hg3 (by simp; omega) (fun g hg => (HS.out.1.2.1.lt g hg).1))
            clear hown3 hg3 hat3
            go_wp2_with fail
            go_roundw
            case rel => exact ⟨k + 1, _, _, _, by omega, rfl, rfl, by go_num, by have := nest_size (k := 1) (by omega) (by omega) HWT.out; omega, Lib.hid ⟨HR3.out, HNG.out, by rw [HK0.out]; exact HWT.out, HB3.out⟩⟩
            case measure => simp [intOf]; omega
          · have hgt : (0 : Int) < k := by omega
            have HWT := Lib.hid (nest_next hk0 HS.out.2.2.1 HD.out.1 HD.out.2)
            go_wp2_with (at_builtin; go_must (refine wpList_append_own_at _ rfl _ _ 45 rfl w2.heap.size 40 i1 (.slice none 0 0) 1 24 Tryd.underlying45 hi0 hz0 hz1 hz2 rfl (by decide) v k (rs.map RRow.val) rfl (((HS.out.1.2.1).alloc _).alloc _) ⟨wr.heap.size + 1, 0, none⟩ 1 1 [.slice (some ⟨wr.heap.size, 0, none⟩) 1 1] rfl rfl (cell_one_new2 _ _ _ _) (by intro z hz; simp at hz; subst hz; rfl) (by unfold maxLen; omega) (by omega) (by simp; omega) ?_); intro v2 w3 hown3 hg3 _ hat3; refine Hid.out ?_)
            refine Lib.hid ?_
            have HR3 := Lib.hid (rowsSo_step (r := ⟨some ⟨wr.heap.size, 0, none⟩, 1, rowGs [nm] [x]⟩) HS.out.1 (World.grownBy_alloc wr (.cells (cellsN (rowGs [nm] [x])).toArray 39) none) (own_row wr w2.heap.size (rowGs [nm] [x]) 1 rfl hsz (by decide)) (fun g hg => new_block hg) hown3 hg3 hat3)
            have HB3 := Lib.hid (((HS.out.2.2.2.alloc hsz _).alloc (by simp; omega) _).grown hg3 (by simp; omega) (fun g hg => (HS.out.1.2.1.lt g hg).1))
            clear hown3 hg3 hat3
            go_wp2_with fail
            go_roundw
            case rel => exact ⟨k + 1, _, _, _, by omega, rfl, rfl, by go_num, by have := nest_size (by omega) (by omega) HWT.out; omega, Lib.hid ⟨HR3.out, HNG.out, HWT.out, HB3.out⟩⟩
            case measure => simp [intOf]; omega
        · obtain rfl : k = n := by omega
          obtain ⟨a3, c3, rfl⟩ := ownsRow_form HS.out.1.2.1
          have HWR := Lib.hid (HW2.out.trans (HS.out.2.2.2.mono HW2.out.size))
          have hrl := HS.out.1.1
          have HGS := Lib.hid (show ∀ i, i < rs.length → (rs.getD i r0).gs = rowGs [nm] ((xs.map fun x => [x]).getD i []) from fun i hi => by
            rw [sing_get xs i (by rw [HN.out]; omega)]
            exact HS.out.2.1 i (by omega))
          have HVL := Lib.hid (show (xs.map fun x => [x]).length = rs.length by rw [List.length_map, HN.out, hrl])
          have HLE := Lib.hid (show ∀ i, i < rs.length → ((xs.map fun x => [x]).getD i []).length = [nm].length from fun i hi => by
            rw [sing_get xs i (by rw [HN.out]; omega)]
            rfl)
          have HSH := Lib.hid (show ∀ j, j < [nm].length → ([nm].getD j ByteArray.empty).size ≤ maxLen from fun j hj => by
            obtain rfl : j = 0 := by simp at hj; omega
            exact HNM0.out)
          have HRS := Lib.hid (rowsSay_of HVL.out HGS.out HLE.out (by simp) (all_flat HRX.out) (by rw [sing_flat, HN.out]; omega))
          have HRA := Lib.hid (rows_at HS.out.1 (rows_good HVL.out HGS.out HLE.out (by simp) (by simp) HSH.out (all_flat HRX.out)))
          have HQ := Lib.hid (show ((((((⟨#[73, 78, 83, 69, 82, 84, 32, 73, 78, 84, 79, 32, 116, 32, 40, 97, 41, 32, 86, 65, 76, 85, 69, 83, 32, 40]⟩ : ByteArray) ++ s1) ++ ⟨#[58]⟩) ++ nm) ++ s2) ++ ⟨#[44, 32, 49, 41, 32, 120]⟩).data.toList = textN d nm.data.toList by
            rw [textN, nHead, ← HD.out.1, ← HD.out.2]
            simp)
          have HBS := Lib.hid (show (⟨(boundN d).toArray⟩ : ByteArray).size ≤ 100000 by
            rw [← size_list]
            simp [boundN, rowN_len, nHead]
            omega)
          go_wp2_with fail
          refine (many_rows _ ⟨(boundN d).toArray⟩ (s ++ ⟨#[32, 120]⟩) (s ++ ⟨#[32, 120]⟩) [nm.data.toList] a3 k c3 rs (xs.map fun x => [x]) xs wr (sing_flat xs) (n_ok HNM.out (by omega) HQ.out) (pow10_below HP.out HWR.out) (by rw [HQ.out, n_cn HNM.out]) (n_asc (d := d) rfl) HBS.out hrl hpos (by omega) (by simp) (by simp) (fun j hj => ?_) HRA.out HRS.out (n_fix (d := d) hpos rfl (by rw [app_list, HS.out.2.2.1])) (.inl ⟨rfl, rfl⟩)).mono ?_
          · obtain rfl : j = 0 := by simp at hj; omega
            unfold maxLen
            show nm.data.toList.length ≤ _
            rw [size_list]
            omega
          rintro e w4 ⟨x4, rfl, ho4, hb4⟩
          have HO4 := Lib.hid ho4
          have HW4 := Lib.hid (nxN HWR.out hb4)
          clear ho4 hb4
          go_wp2_with fail
          refine (equal_backs _ x4 A k c xs _ HN.out (by omega) (by rw [← HN.out]; exact HO4.out) (listAt_below HX.out HW4.out) (fun i hi => HRX.out i (by rw [HN.out]; exact hi))).mono ?_
          rintro e w5 ⟨rfl, hb5⟩
          have HW5 := Lib.hid (nxN HW4.out hb5)
          clear hb5
          go_wp2
          go_ret
          exact ⟨rfl, HW5.out⟩
end Go.Proofs.YtpjadgdimkdblaaDoor
