/- named9 walked: whether a text is a name. What compileNamedQuery makes of texts and names, piece by piece. No walk. -/
import Derived.Test.YtpjadgdimkdblaaDoorCnD
import Derived.Test.YtpjadgdimkdblaaDoorWords
namespace Go.Proofs.YtpjadgdimkdblaaDoor
open Go.RowKit
set_option linter.unusedVariables false

theorem isN_iff {c : UInt8} : isN c = true ↔ (97 ≤ c.toNat ∧ c.toNat ≤ 122 ∨ 65 ≤ c.toNat ∧ c.toNat ≤ 90 ∨ 48 ≤ c.toNat ∧ c.toNat ≤ 57 ∨ c.toNat = 95 ∨ c.toNat = 46) := by
  have h95 : c = 95 ↔ c.toNat = 95 := ⟨fun h => by rw [h]; rfl, fun h => UInt8.toNat_inj.1 (by rw [h]; rfl)⟩
  have h46 : c = 46 ↔ c.toNat = 46 := ⟨fun h => by rw [h]; rfl, fun h => UInt8.toNat_inj.1 (by rw [h]; rfl)⟩
  unfold isN
  simp only [Bool.or_eq_true, isA_iff, beq_iff_eq, h95, h46]
  omega
set_option maxHeartbeats 4000000 in
set_option maxRecDepth 100000 in
theorem nameByte_any (c : UInt8) (w : World) :
    Calls Tryd.prog 42 #[.int .u8 (c.toNat : Int)] w fun e w' => e = .returned (.bool (isN c)) ∧ w = w' := by
  have hN : isN c = true ↔ _ := isN_iff
  have hlt : c.toNat < 256 := c.toNat_lt
  generalize isN c = r at hN ⊢
  generalize c.toNat = x at hN hlt ⊢
  have HN := Lib.hid hN
  have h : (97 ≤ x ∧ x ≤ 122) ∨ (65 ≤ x ∧ x ≤ 90) ∨ (48 ≤ x ∧ x ≤ 57) ∨ x < 48 ∨ (57 < x ∧ x < 65) ∨ (90 < x ∧ x < 97) ∨ 122 < x := by omega
  clear hN
  have h0 : (0 : Int) ≤ x := by omega
  have h2 : (x : Int) < 256 := by omega
  rcases h with h | h | h | h | h | h | h
  all_goals
    go_enter Tryd.func42, Tryd.ntmps42
    go_wp2_with fail
    all_goals
      go_ret
      refine ⟨ret_bool ?_, rfl⟩
      rw [Bool.eq_iff_iff, HN.out]
      simp
      omega
/-- A text is a name. -/
def NameOk (s : ByteArray) : Prop := (∀ c ∈ s.data.toList, isN c = true) ∧ s.data.toList ≠ [] ∧ EndOk s.data.toList ∧ s.size ≤ 30
def IsNameSo (s : ByteArray) (w : World) (e : Ending) (w' : World) : Prop := ∃ r : Bool, e = .returned (.bool r) ∧ (r = true → (∀ c ∈ s.data.toList, isN c = true) ∧ s.data.toList ≠ [] ∧ EndOk s.data.toList) ∧ w = w'
theorem end_ok {l t : List UInt8} {c : UInt8} (h : l = t ++ [c]) (h1 : (c.toNat : Int) ≠ 95) (h2 : (c.toNat : Int) ≠ 46) : EndOk l := by
  intro d hd
  rw [h, List.getLast?_append] at hd
  simp at hd
  subst hd
  exact ⟨fun e => h1 (by rw [e]; rfl), fun e => h2 (by rw [e]; rfl)⟩
theorem byte_at (s : ByteArray) (i : Nat) (h : i < s.size) : s.data.toList.take (i + 1) = s.data.toList.take i ++ [s[i]] := take_next s i h
set_option maxHeartbeats 1000000 in
set_option maxRecDepth 100000 in
theorem isName_any (s : ByteArray) (hs : s.size ≤ 9223372036854775807) (w : World) : Calls Tryd.prog 34 #[.string s] w (IsNameSo s w) := by
  go_enter Tryd.func34, Tryd.ntmps34
  go_wp2_with fail
  go_loop [3] (fun i => ∃ k : Nat, k ≤ s.size ∧ i = .int .i64 k ∧ Hid (∀ c ∈ s.data.toList.take k, isN c = true)) (fun i => s.size - (intOf i).toNat)
  case atStart => exact ⟨0, Nat.zero_le _, rfl, Lib.hid (fun c hc => by simp at hc)⟩
  case round =>
    obtain ⟨k, hk, rfl, HK⟩ := hrel
    have h0 : (0 : Int) ≤ k := by omega
    by_cases hlt : k < s.size
    · have hki : (k : Int) < s.size := by omega
      have HT := Lib.hid (byte_at s k hlt)
      have hnb := nameByte_any s[k]
      cases hN : isN s[k] with
      | false =>
        have HNB := Lib.hid (show Calls Tryd.prog 42 #[.int .u8 (s[k].toNat : Int)] w fun e w' => e = .returned (.bool false) ∧ w = w' by have := hnb w; rw [hN] at this; exact this)
        clear hnb hN
        go_wp2_with fail
        refine HNB.out.mono ?_
        rintro e w' ⟨rfl, rfl⟩
        go_wp2_with fail
        go_ret
        exact ⟨false, rfl, (fun h => by cases h), rfl⟩
      | true =>
        have HNB := Lib.hid (show Calls Tryd.prog 42 #[.int .u8 (s[k].toNat : Int)] w fun e w' => e = .returned (.bool true) ∧ w = w' by have := hnb w; rw [hN] at this; exact this)
        have HKN := Lib.hid hN
        clear hnb hN
        go_wp2_with fail
        refine HNB.out.mono ?_
        rintro e w' ⟨rfl, rfl⟩
        go_wp2_with fail
        go_round
        case rel =>
          refine ⟨k + 1, by omega, by go_num, Lib.hid (fun c hc => ?_)⟩
          rw [HT.out] at hc
          rcases List.mem_append.1 hc with h | h
          · exact HK.out c h
          · simp at h; subst h; exact HKN.out
        case measure => simp [intOf]; omega
    · obtain rfl : k = s.size := by omega
      have HALL := Lib.hid (show ∀ c ∈ s.data.toList, isN c = true by have h := HK.out; rw [List.take_of_length_le (by rw [size_list]; omega)] at h; exact h)
      by_cases hz : s.size = 0
      · have he := toList_empty hz
        go_wp2_with fail
        go_ret
        exact ⟨false, rfl, (fun h => by cases h), rfl⟩
      · have he := toList_some hz
        obtain ⟨j, hj⟩ : ∃ j, s.size = j + 1 := ⟨s.size - 1, by omega⟩
        have HJ := Lib.hid hj
        have hjs : j < s.size := by omega
        have hji : (s.size : Int) - 1 = j := by omega
        have hj0 : (0 : Int) ≤ j := by omega
        have hjl : (j : Int) < s.size := by omega
        have HLS := Lib.hid (show s.data.toList = s.data.toList.take j ++ [s[j]] by have h := byte_at s j hjs; rw [List.take_of_length_le (by rw [size_list]; omega)] at h; exact h)
        clear hj
        have HNE := Lib.hid (show s.data.toList ≠ [] by intro e; rw [← size_list, e] at hz; exact hz rfl)
        have HEN := Lib.hid (fun (h1 : (s[j].toNat : Int) ≠ 95) (h2 : (s[j].toNat : Int) ≠ 46) => end_ok HLS.out h1 h2)
        go_wp2_with fail
        all_goals
          go_ret
          refine ⟨_, rfl, fun h => ⟨HALL.out, HNE.out, ?_⟩, rfl⟩
          first
            | (exfalso; simp at h; done)
            | (simp at h; exact HEN.out h.1 h.2)
            | (simp at h; exact HEN.out (by assumption) h)
            | (simp at h; exact HEN.out (by omega) (by omega))
def NamedSo (s : ByteArray) (w : World) (e : Ending) (w' : World) : Prop := ∃ r : Bool, e = .returned (.bool r) ∧ (r = true → NameOk s) ∧ w = w'
theorem named_any (s : ByteArray) (hs : s.size ≤ 9223372036854775807) (w : World) : Calls Tryd.prog 12 #[.string s] w (NamedSo s w) := by
  go_enter Tryd.func12, Tryd.ntmps12
  go_wp2_with fail
  refine (isName_any s hs w).mono ?_
  rintro e w' ⟨r, rfl, hr, rfl⟩
  cases r with
  | false =>
    clear hr
    go_wp2_with fail
    go_ret
    exact ⟨false, rfl, (fun h => by cases h), rfl⟩
  | true =>
    have HR := Lib.hid (hr rfl)
    clear hr
    by_cases h30 : (s.size : Int) ≤ 30
    · go_wp2_with fail
      go_ret
      exact ⟨true, rfl, fun _ => ⟨HR.out.1, HR.out.2.1, HR.out.2.2, by omega⟩, rfl⟩
    · go_wp2_with fail
      go_ret
      exact ⟨_, rfl, (fun h => by simp at h; omega), rfl⟩
end Go.Proofs.YtpjadgdimkdblaaDoor
namespace Go.Proofs.YtpjadgdimkdblaaDoor
open Go.RowKit
set_option linter.unusedVariables false

def no58 (l : List UInt8) : Prop := ∀ c ∈ l, c ≠ 58
theorem isN_58 {c : UInt8} (h : isN c = true) : c ≠ 58 ∧ c ≠ 61 := by
  have := isN_iff.1 h
  constructor <;> (intro e; subst e; revert this; decide)
theorem no58_bare {a : ByteArray} (h : bare1 a) : no58 a.data.toList := by
  intro c hc
  obtain ⟨i, hi, rfl⟩ := List.getElem_of_mem hc
  rw [size_list] at hi
  have := (okc_iff.1 (h.2 i hi)).2.2.2.1
  rw [bt_get a i hi] at this
  intro e
  exact this (by
    have e2 : a[i]'hi = 58 := e
    rw [e2]
    rfl)
section
variable {mk : List UInt8 → Nat → List UInt8}
theorem cn_text (a l L : List UInt8) (ns : List (List UInt8)) (h : no58 a) : cn mk (a ++ l) none L ns = cn mk l none (L ++ a) ns := by
  induction a generalizing L with
  | nil => simp
  | cons c a ih =>
    rw [List.cons_append, cn, if_neg (h c (by simp)), ih (L ++ [c]) (fun d hd => h d (by simp [hd])), List.append_assoc]
    rfl
theorem cn_free (a L : List UInt8) (ns : List (List UInt8)) (h : no58 a) : cn mk a none L ns = some (L ++ a, ns) := by
  have := cn_text (mk := mk) a [] L ns h
  rw [List.append_nil] at this
  rw [this, cn]
theorem cn_in (p l pre L : List UInt8) (ns : List (List UInt8)) (h : ∀ c ∈ p, isN c = true) (hl : l ≠ []) : cn mk (p ++ l) (some pre) L ns = cn mk l (some (pre ++ p)) L ns := by
  induction p generalizing pre with
  | nil => simp
  | cons c p ih =>
    have hc := h c (by simp)
    have hc2 := isN_58 hc
    have hne : p ++ l ≠ [] := fun e => hl (List.append_eq_nil_iff.1 e).2
    rw [List.cons_append, cn, if_neg hc2.1, if_neg (fun e => hc2.2 e.1), if_pos ⟨hc, hne⟩, ih (pre ++ [c]) (fun d hd => h d (by simp [hd])), List.append_assoc]
    rfl
theorem cn_stop (c : UInt8) (l nm L : List UInt8) (ns : List (List UInt8)) (h58 : c ≠ 58) (h61 : c ≠ 61) (hN : isN c = false) : cn mk (c :: l) (some nm) L ns = cn mk l none (L ++ mk nm (ns.length + 1) ++ [c]) (ns ++ [nm]) := by
  have hA : isA c = false := (isN_not hN).1
  rw [cn, if_neg h58, if_neg (fun e => h61 e.1), if_neg (fun e => by rw [hN] at e; cases e.1), if_neg (fun e => by rw [hA] at e; cases e.2)]
/-- A name with something behind it. -/
theorem cn_mid {nm : ByteArray} (h : NameOk nm) (c : UInt8) (l L : List UInt8) (ns : List (List UInt8)) (h58 : c ≠ 58) (h61 : c ≠ 61) (hN : isN c = false) :
    cn mk (58 :: (nm.data.toList ++ c :: l)) none L ns = cn mk l none (L ++ mk nm.data.toList (ns.length + 1) ++ [c]) (ns ++ [nm.data.toList]) := by
  rw [cn, if_pos rfl, cn_in nm.data.toList (c :: l) [] L ns h.1 (by simp), List.nil_append, cn_stop c l _ L ns h58 h61 hN]
theorem name_last {nm : ByteArray} (h : NameOk nm) : ∃ p c, nm.data.toList = p ++ [c] ∧ isA c = true ∧ ∀ d ∈ p, isN d = true := by
  obtain ⟨h1, h2, h3, _⟩ := h
  refine ⟨nm.data.toList.dropLast, nm.data.toList.getLast h2, (List.dropLast_concat_getLast h2).symm, ?_, fun d hd => h1 d (List.dropLast_subset _ hd)⟩
  have hl := h3 _ (List.getLast?_eq_some_getLast h2)
  have hn := isN_cases (h1 _ (List.getLast_mem h2))
  rcases hn with h | ⟨_, h⟩ | ⟨_, _, h⟩
  · exact h
  · exact absurd (UInt8.toNat_inj.1 (by have := beq_iff_eq.1 h; rw [show (95 : UInt8).toNat = 95 from rfl]; omega)) hl.1
  · exact absurd (UInt8.toNat_inj.1 (by have := beq_iff_eq.1 h; rw [show (46 : UInt8).toNat = 46 from rfl]; omega)) hl.2
/-- A name at the text's end. -/
theorem cn_fin {nm : ByteArray} (h : NameOk nm) (L : List UInt8) (ns : List (List UInt8)) :
    cn mk (58 :: nm.data.toList) none L ns = some (L ++ mk nm.data.toList (ns.length + 1), ns ++ [nm.data.toList]) := by
  obtain ⟨p, c, he, hA, hp⟩ := name_last h
  have hN : isN c = true := h.1 c (by rw [he]; simp)
  have h2 := isN_58 hN
  rw [cn, if_pos rfl, he, cn_in p [c] [] L ns hp (by simp), List.nil_append, cn, if_neg h2.1, if_neg (fun e => h2.2 e.1), if_neg (fun e => e.2 rfl), if_pos ⟨rfl, hA⟩, cn]
/-- Two colons. -/
theorem cn_two (l L : List UInt8) (ns : List (List UInt8)) : cn mk (58 :: 58 :: l) none L ns = cn mk l none (L ++ [58]) ns := by
  rw [cn, if_pos rfl, cn, if_pos rfl, if_pos rfl]
/-- A colon right behind a name. -/
theorem cn_tight {nm : ByteArray} (h : NameOk nm) (l L : List UInt8) (ns : List (List UInt8)) : cn mk (58 :: (nm.data.toList ++ 58 :: l)) none L ns = none := by
  rw [cn, if_pos rfl, cn_in nm.data.toList (58 :: l) [] L ns h.1 (by simp), List.nil_append, cn, if_pos rfl, if_neg h.2.1]
end
theorem cnt_app (a b : List UInt8) : cnt58 (a ++ b) = cnt58 a + cnt58 b := by
  induction a with
  | nil => simp [cnt58]
  | cons c a ih =>
    rw [List.cons_append, cnt58, cnt58, ih]
    split <;> omega
theorem cnt_free {a : List UInt8} (h : no58 a) : cnt58 a = 0 := by
  induction a with
  | nil => rfl
  | cons c a ih => rw [cnt58, if_neg (h c (by simp)), ih (fun d hd => h d (by simp [hd]))]
theorem no58_name {nm : ByteArray} (h : NameOk nm) : no58 nm.data.toList := fun c hc => (isN_58 (h.1 c hc)).1
theorem asc_name {nm : ByteArray} (h : NameOk nm) : asc nm := by
  intro c hc
  have := isN_iff.1 (h.1 c hc)
  omega
theorem endOk_app {a b : List UInt8} (h : EndOk b) (hb : b ≠ []) : EndOk (a ++ b) := by
  intro c hc
  rw [List.getLast?_append, List.getLast?_eq_some_getLast hb] at hc
  exact h c (by rw [List.getLast?_eq_some_getLast hb]; simpa using hc)
theorem endOk_nil : EndOk [] := fun c h => by cases h
theorem endOk_one {c : UInt8} (h : c ≠ 95 ∧ c ≠ 46) : EndOk [c] := fun d hd => by simp at hd; subst hd; exact h
end Go.Proofs.YtpjadgdimkdblaaDoor
