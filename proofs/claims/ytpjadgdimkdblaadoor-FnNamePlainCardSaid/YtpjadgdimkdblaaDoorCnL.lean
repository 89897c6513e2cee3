/- What compileNamedQuery makes of texts and names, piece by piece. No walk. -/
import Derived.Test.YtpjadgdimkdblaaDoorName
import Derived.Test.YtpjadgdimkdblaaDoorBare
namespace Go.Proofs.YtpjadgdimkdblaaDoor
open Go.RowKit
set_option linter.unusedVariables false

def no58 (l : List UInt8) : Prop := ∀ c ∈ l, c ≠ 58
theorem isN_58 {c : UInt8} (h : isN c = true) : c ≠ 58 ∧ c ≠ 61 := by
  have := isN_iff.1 h
  constructor <;> (intro e; subst e; revert this; decide)
theorem no58_bare {a : ByteArray} (h : bare1 a) : no58 a.data.toList := by
  intro c hc
  obtain ⟨i, hi, rfl⟩ := List.getElem_of_mem hc
  rw [size_list] at hi
  have := (okc_iff.1 (h.2 i hi)).2.2.2.1
  rw [bt_get a i hi] at this
  intro e
  exact this (by
    have e2 : a[i]'hi = 58 := e
    rw [e2]
    rfl)
section
variable {mk : List UInt8 → Nat → List UInt8}
theorem cn_text (a l L : List UInt8) (ns : List (List UInt8)) (h : no58 a) : cn mk (a ++ l) none L ns = cn mk l none (L ++ a) ns := by
  induction a generalizing L with
  | nil => simp
  | cons c a ih =>
    rw [List.cons_append, cn, if_neg (h c (by simp)), ih (L ++ [c]) (fun d hd => h d (by simp [hd])), List.append_assoc]
    rfl
theorem cn_free (a L : List UInt8) (ns : List (List UInt8)) (h : no58 a) : cn mk a none L ns = some (L ++ a, ns) := by
  have := cn_text (mk := mk) a [] L ns h
  rw [List.append_nil] at this
  rw [this, cn]
theorem cn_in (p l pre L : List UInt8) (ns : List (List UInt8)) (h : ∀ c ∈ p, isN c = true) (hl : l ≠ []) : cn mk (p ++ l) (some pre) L ns = cn mk l (some (pre ++ p)) L ns := by
  induction p generalizing pre with
  | nil => simp
  | cons c p ih =>
    have hc := h c (by simp)
    have hc2 := isN_58 hc
    have hne : p ++ l ≠ [] := fun e => hl (List.append_eq_nil_iff.1 e).2
    rw [List.cons_append, cn, if_neg hc2.1, if_neg (fun e => hc2.2 e.1), if_pos ⟨hc, hne⟩, ih (pre ++ [c]) (fun d hd => h d (by simp [hd])), List.append_assoc]
    rfl
theorem cn_stop (c : UInt8) (l nm L : List UInt8) (ns : List (List UInt8)) (h58 : c ≠ 58) (h61 : c ≠ 61) (hN : isN c = false) : cn mk (c :: l) (some nm) L ns = cn mk l none (L ++ mk nm (ns.length + 1) ++ [c]) (ns ++ [nm]) := by
  have hA : isA c = false := (isN_not hN).1
  rw [cn, if_neg h58, if_neg (fun e => h61 e.1), if_neg (fun e => by rw [hN] at e; cases e.1), if_neg (fun e => by rw [hA] at e; cases e.2)]
/-- A name with something behind it. -/
theorem cn_mid {nm : ByteArray} (h : NameOk nm) (c : UInt8) (l L : List UInt8) (ns : List (List UInt8)) (h58 : c ≠ 58) (h61 : c ≠ 61) (hN : isN c = false) :
    cn mk (58 :: (nm.data.toList ++ c :: l)) none L ns = cn mk l none (L ++ mk nm.data.toList (ns.length + 1) ++ [c]) (ns ++ [nm.data.toList]) := by
  rw [cn, if_pos rfl, cn_in nm.data.toList (c :: l) [] L ns h.1 (by simp), List.nil_append, cn_stop c l _ L ns h58 h61 hN]
theorem name_last {nm : ByteArray} (h : NameOk nm) : ∃ p c, nm.data.toList = p ++ [c] ∧ isA c = true ∧ ∀ d ∈ p, isN d = true := by
  obtain ⟨h1, h2, h3, _⟩ := h
  refine ⟨nm.data.toList.dropLast, nm.data.toList.getLast h2, (List.dropLast_concat_getLast h2).symm, ?_, fun d hd => h1 d (List.dropLast_subset _ hd)⟩
  have hl := h3 _ (List.getLast?_eq_some_getLast h2)
  have hn := isN_cases (h1 _ (List.getLast_mem h2))
  rcases hn with h | ⟨_, h⟩ | ⟨_, _, h⟩
  · exact h
  · exact absurd (UInt8.toNat_inj.1 (by have := beq_iff_eq.1 h; rw [show (95 : UInt8).toNat = 95 from rfl]; omega)) hl.1
  · exact absurd (UInt8.toNat_inj.1 (by have := beq_iff_eq.1 h; rw [show (46 : UInt8).toNat = 46 from rfl]; omega)) hl.2
/-- A name at the text's end. -/
theorem cn_fin {nm : ByteArray} (h : NameOk nm) (L : List UInt8) (ns : List (List UInt8)) :
    cn mk (58 :: nm.data.toList) none L ns = some (L ++ mk nm.data.toList (ns.length + 1), ns ++ [nm.data.toList]) := by
  obtain ⟨p, c, he, hA, hp⟩ := name_last h
  have hN : isN c = true := h.1 c (by rw [he]; simp)
  have h2 := isN_58 hN
  rw [cn, if_pos rfl, he, cn_in p [c] [] L ns hp (by simp), List.nil_append, cn, if_neg h2.1, if_neg (fun e => h2.2 e.1), if_neg (fun e => e.2 rfl), if_pos ⟨rfl, hA⟩, cn]
/-- Two colons. -/
theorem cn_two (l L : List UInt8) (ns : List (List UInt8)) : cn mk (58 :: 58 :: l) none L ns = cn mk l none (L ++ [58]) ns := by
  rw [cn, if_pos rfl, cn, if_pos rfl, if_pos rfl]
/-- A colon right behind a name. -/
theorem cn_tight {nm : ByteArray} (h : NameOk nm) (l L : List UInt8) (ns : List (List UInt8)) : cn mk (58 :: (nm.data.toList ++ 58 :: l)) none L ns = none := by
  rw [cn, if_pos rfl, cn_in nm.data.toList (58 :: l) [] L ns h.1 (by simp), List.nil_append, cn, if_pos rfl, if_neg h.2.1]
end
theorem cnt_app (a b : List UInt8) : cnt58 (a ++ b) = cnt58 a + cnt58 b := by
  induction a with
  | nil => simp [cnt58]
  | cons c a ih =>
    rw [List.cons_append, cnt58, cnt58, ih]
    split <;> omega
theorem cnt_free {a : List UInt8} (h : no58 a) : cnt58 a = 0 := by
  induction a with
  | nil => rfl
  | cons c a ih => rw [cnt58, if_neg (h c (by simp)), ih (fun d hd => h d (by simp [hd]))]
theorem no58_name {nm : ByteArray} (h : NameOk nm) : no58 nm.data.toList := fun c hc => (isN_58 (h.1 c hc)).1
theorem asc_name {nm : ByteArray} (h : NameOk nm) : asc nm := by
  intro c hc
  have := isN_iff.1 (h.1 c hc)
  omega
theorem endOk_app {a b : List UInt8} (h : EndOk b) (hb : b ≠ []) : EndOk (a ++ b) := by
  intro c hc
  rw [List.getLast?_append, List.getLast?_eq_some_getLast hb] at hc
  exact h c (by rw [List.getLast?_eq_some_getLast hb]; simpa using hc)
theorem endOk_nil : EndOk [] := fun c h => by cases h
theorem endOk_one {c : UInt8} (h : c ≠ 95 ∧ c ≠ 46) : EndOk [c] := fun d hd => by simp at hd; subst hd; exact h
end Go.Proofs.YtpjadgdimkdblaaDoor
