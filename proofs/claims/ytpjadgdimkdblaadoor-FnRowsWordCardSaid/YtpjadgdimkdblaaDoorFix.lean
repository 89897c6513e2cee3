/- zzSpace, zzFold, zzValues, findMatchingClosingBracketIndex and fixBound walked, at texts that have their word and their brackets. Every world. -/
import Derived.Test.YtpjadgdimkdblaaDoorWords
import Derived.Test.YtpjadgdimkdblaaDoorShelf
import Derived.Lib.BufferRead
import Derived.Lib.Repeat
namespace Go.Proofs.YtpjadgdimkdblaaDoor
open Go.RowKit
set_option linter.unusedVariables false

/-- The place of the closing bracket in what is left of a text from place i on, with n brackets open. -/
def closL : List UInt8 → Nat → Int → Nat
  | [], _, _ => 0
  | c :: l, i, n => if (c.toNat : Int) = 40 then closL l (i + 1) (n + 1) else if (c.toNat : Int) = 41 then (if n - 1 = 0 then i else closL l (i + 1) (n - 1)) else closL l (i + 1) n
def closing (s : ByteArray) : Nat := closL s.data.toList 0 0
set_option maxHeartbeats 1000000 in
theorem closing_any (s : ByteArray) (w : World) (hs : s.size ≤ 1000000000) (ha : ∀ i, (h : i < s.size) → (s[i]'h).toNat < 128) :
    Calls Tryd.prog 71 #[.string s] w fun e w' => e = .returned (.int .i64 (closing s)) ∧ Below w.heap.size w w' := by
  have HA := Lib.hid ha
  clear ha
  go_enter Tryd.func71, Tryd.ntmps71
  go_wp2
  go_loopw [3] (fun n w' => ∃ (pos : Nat) (cnt : Int), w' = w.iter s pos ∧ n = .int .i64 cnt ∧ -(pos : Int) ≤ cnt ∧ cnt ≤ pos ∧ pos ≤ s.size ∧ Hid (closL (s.data.toList.drop pos) pos cnt = closing s)) (fun _ w' => s.size - w'.iterPos w.heap.size)
  case atStart => exact ⟨0, 0, rfl, rfl, by omega, by omega, by omega, Lib.hid rfl⟩
  case round =>
    obtain ⟨pos, cnt, rfl, rfl, hc0, hc1, hps, HC⟩ := hrel
    by_cases hp : pos < s.size
    · have hnx : ∀ ty, (Instr.next (.pointer (some ⟨w.heap.size, 0, none⟩)) true ty).run Tryd.prog (w.iter s pos) = _ := fun ty => run_next_ascii w s pos ty hp (HA.out pos hp)
      have HG := Lib.hid (drop_at s pos hp)
      go_wp2
      case roundEnd =>
        go_roundw
        case rel =>
          have h := HC.out
          rw [HG.out, closL] at h
          have e : (s[pos].toNat : Int) = 40 := by simpa using ‹(_ == (40 : Int)) = true›
          rw [if_pos e] at h
          exact ⟨pos + 1, _, rfl, rfl, by omega, by omega, by omega, Lib.hid h⟩
        case measure => simp; omega
      case roundEnd =>
        go_roundw
        case rel =>
          have h := HC.out
          rw [HG.out, closL] at h
          have e : ¬ (s[pos].toNat : Int) = 40 := by simpa using ‹(_ == (40 : Int)) = false›
          have e2 : (s[pos].toNat : Int) = 41 := by simpa using ‹(_ == (41 : Int)) = true›
          have e3 : ¬ cnt - 1 = 0 := by simpa using ‹(_ == (0 : Int)) = false›
          rw [if_neg e, if_pos e2, if_neg e3] at h
          exact ⟨pos + 1, _, rfl, rfl, by omega, by omega, by omega, Lib.hid h⟩
        case measure => simp; omega
      case roundEnd =>
        go_roundw
        case rel =>
          have h := HC.out
          rw [HG.out, closL] at h
          have e : ¬ (s[pos].toNat : Int) = 40 := by simpa using ‹(_ == (40 : Int)) = false›
          have e2 : ¬ (s[pos].toNat : Int) = 41 := by simpa using ‹(_ == (41 : Int)) = false›
          rw [if_neg e, if_neg e2] at h
          exact ⟨pos + 1, _, rfl, rfl, by omega, by omega, by omega, Lib.hid h⟩
        case measure => simp; omega
      go_ret
      have h := HC.out
      rw [HG.out, closL] at h
      have e : ¬ (s[pos].toNat : Int) = 40 := by simpa using ‹(_ == (40 : Int)) = false›
      have e2 : (s[pos].toNat : Int) = 41 := by simpa using ‹(_ == (41 : Int)) = true›
      have e3 : cnt - 1 = 0 := by simpa using ‹(_ == (0 : Int)) = true›
      rw [if_neg e, if_pos e2, if_pos e3] at h
      exact ⟨ret_int64 (by omega), (Below.refl _ _).alloc (Nat.le_refl _) _⟩
    · have hnx : ∀ ty, (Instr.next (.pointer (some ⟨w.heap.size, 0, none⟩)) true ty).run Tryd.prog (w.iter s pos) = _ := fun ty => run_next_end w s pos ty hp
      go_wp2
      go_ret
      have h := HC.out
      rw [drop_end s pos hp, closL] at h
      exact ⟨ret_int64 (by omega), (Below.refl _ _).alloc (Nat.le_refl _) _⟩
/-- White space. -/
def isW (x : Int) : Prop := x = 32 ∨ x = 9 ∨ x = 10 ∨ x = 12 ∨ x = 13
set_option maxHeartbeats 1000000 in
theorem space_any (s : ByteArray) (k e : Nat) (w : World) (hs : s.size ≤ 1000000000) (hke : k ≤ e) (he : e < s.size) (hin : ∀ i, k ≤ i → i < e → isW (bt s i)) (hout : ¬ isW (bt s e)) :
    Calls Tryd.prog 80 #[.string s, .int .i64 k] w fun r w' => r = .returned (.int .i64 e) ∧ w = w' := by
  have HI := Lib.hid hin
  have HO := Lib.hid hout
  clear hin hout
  go_enter Tryd.func80, Tryd.ntmps80
  go_wp2
  go_loop [1] (fun i => ∃ m : Nat, k ≤ m ∧ m ≤ e ∧ i = .int .i64 m) (fun i => s.size - (intOf i).toNat)
  case atStart => exact ⟨k, Nat.le_refl _, hke, rfl⟩
  case round =>
    obtain ⟨m, hkm, hme, rfl⟩ := hrel
    have hmt : m < s.size := by omega
    have HG := Lib.hid (bt_get s m hmt)
    have hmm : (0 : Int) ≤ m := by omega
    have hmn : (m : Int) < s.size := by omega
    go_wp2
    case roundEnd =>
      go_round
      case rel =>
        refine ⟨m + 1, by omega, ?_, by go_num⟩
        rcases Nat.lt_or_ge m e with h | h
        · omega
        · obtain rfl : m = e := by omega
          refine absurd ?_ HO.out
          rw [HG.out]
          first | (unfold isW; omega) | (simp only [beq_iff_eq] at *; unfold isW; omega)
      case measure => simp [intOf]; omega
    case roundEnd =>
      go_round
      case rel =>
        refine ⟨m + 1, by omega, ?_, by go_num⟩
        rcases Nat.lt_or_ge m e with h | h
        · omega
        · obtain rfl : m = e := by omega
          refine absurd ?_ HO.out
          rw [HG.out]
          first | (unfold isW; omega) | (simp only [beq_iff_eq] at *; unfold isW; omega)
      case measure => simp [intOf]; omega
    case roundEnd =>
      go_round
      case rel =>
        refine ⟨m + 1, by omega, ?_, by go_num⟩
        rcases Nat.lt_or_ge m e with h | h
        · omega
        · obtain rfl : m = e := by omega
          refine absurd ?_ HO.out
          rw [HG.out]
          first | (unfold isW; omega) | (simp only [beq_iff_eq] at *; unfold isW; omega)
      case measure => simp [intOf]; omega
    case roundEnd =>
      go_round
      case rel =>
        refine ⟨m + 1, by omega, ?_, by go_num⟩
        rcases Nat.lt_or_ge m e with h | h
        · omega
        · obtain rfl : m = e := by omega
          refine absurd ?_ HO.out
          rw [HG.out]
          first | (unfold isW; omega) | (simp only [beq_iff_eq] at *; unfold isW; omega)
      case measure => simp [intOf]; omega
    case roundEnd =>
      go_round
      case rel =>
        refine ⟨m + 1, by omega, ?_, by go_num⟩
        rcases Nat.lt_or_ge m e with h | h
        · omega
        · obtain rfl : m = e := by omega
          refine absurd ?_ HO.out
          rw [HG.out]
          first | (unfold isW; omega) | (simp only [beq_iff_eq] at *; unfold isW; omega)
      case measure => simp [intOf]; omega
    go_ret
    refine ⟨ret_int64 ?_, rfl⟩
    rcases Nat.lt_or_ge m e with h | h
    · have := HI.out m hkm h
      rw [HG.out] at this
      unfold isW at this
      first | omega | (simp only [beq_eq_false_iff_ne] at *; omega)
    · omega
theorem space_at (x : Int) (s : ByteArray) (k e : Nat) (w : World) (hx : x = (k : Int)) (hs : s.size ≤ 1000000000) (hke : k ≤ e) (he : e < s.size) (hin : ∀ i, k ≤ i → i < e → isW (bt s i)) (hout : ¬ isW (bt s e)) :
    Calls Tryd.prog 80 #[.string s, .int .i64 x] w fun r w' => r = .returned (.int .i64 e) ∧ w = w' := by
  subst hx
  exact space_any s k e w hs hke he hin hout
/-- A letter in small or capital. -/
def isC (x c : Int) : Prop := x = c ∨ x = c - 32
set_option maxHeartbeats 1000000 in
theorem fold_any' (s : ByteArray) (k : Nat) (c : Int) (w : World) (hs : s.size ≤ 1000000000) (hk : k < s.size) (hc : c = 118 ∨ c = 97 ∨ c = 108 ∨ c = 117 ∨ c = 101 ∨ c = 115) (h : isC (bt s k) c) :
    Calls Tryd.prog 81 #[.string s, .int .i64 k, .int .u8 c] w fun r w' => r = .returned (.int .i64 1) ∧ w = w' := by
  have hmm : (0 : Int) ≤ k := by omega
  have hmn : (k : Int) < s.size := by omega
  rw [bt_get s k hk] at h
  unfold isC at h
  rcases hc with rfl | rfl | rfl | rfl | rfl | rfl <;> (rcases h with h | h) <;>
    (go_enter Tryd.func81, Tryd.ntmps81
     go_wp2
     go_ret
     exact ⟨rfl, rfl⟩)
theorem fold_any (x : Int) (s : ByteArray) (k : Nat) (c : Int) (w : World) (hx : x = (k : Int)) (hs : s.size ≤ 1000000000) (hk : k < s.size) (hc : c = 118 ∨ c = 97 ∨ c = 108 ∨ c = 117 ∨ c = 101 ∨ c = 115) (h : isC (bt s k) c) :
    Calls Tryd.prog 81 #[.string s, .int .i64 x, .int .u8 c] w fun r w' => r = .returned (.int .i64 1) ∧ w = w' := by
  subst hx
  exact fold_any' s k c w hs hk hc h
/-- A text with a closing bracket, the word, white space around it or none, and an opening bracket: the first closing bracket stands at i, the word at j, the opening bracket at e. -/
structure ValAt (s : ByteArray) (i j e : Nat) : Prop where
  ij : i + 1 ≤ j
  je : j + 6 ≤ e
  es : e < s.size
  first : ∀ l, l < i → bt s l ≠ 41
  close : bt s i = 41
  gap : ∀ l, i + 1 ≤ l → l < j → isW (bt s l)
  word : ∀ t, t < 6 → isC (bt s (j + t)) (((⟨#[118, 97, 108, 117, 101, 115]⟩ : ByteArray).data.toList.getD t 0).toNat : Int)
  gap2 : ∀ l, j + 6 ≤ l → l < e → isW (bt s l)
  op : bt s e = 40
theorem notW_word {s : ByteArray} {i j e : Nat} (h : ValAt s i j e) : ¬ isW (bt s j) := by
  have := h.word 0 (by omega)
  rw [Nat.add_zero] at this
  have e : (((⟨#[118, 97, 108, 117, 101, 115]⟩ : ByteArray).data.toList.getD 0 0).toNat : Int) = 118 := rfl
  rw [e] at this
  unfold isC at this
  unfold isW
  omega
theorem notW_op {s : ByteArray} {i j e : Nat} (h : ValAt s i j e) : ¬ isW (bt s e) := by
  rw [h.op]
  unfold isW
  omega
def wordB : ByteArray := ⟨#[118, 97, 108, 117, 101, 115]⟩
theorem word_cases {t : Nat} (ht : t < 6) : ((wordB[t]'ht).toNat : Int) = 118 ∨ ((wordB[t]'ht).toNat : Int) = 97 ∨ ((wordB[t]'ht).toNat : Int) = 108 ∨ ((wordB[t]'ht).toNat : Int) = 117 ∨ ((wordB[t]'ht).toNat : Int) = 101 ∨ ((wordB[t]'ht).toNat : Int) = 115 := by
  have : t = 0 ∨ t = 1 ∨ t = 2 ∨ t = 3 ∨ t = 4 ∨ t = 5 := by omega
  rcases this with rfl | rfl | rfl | rfl | rfl | rfl
  · exact .inl rfl
  · exact .inr (.inl rfl)
  · exact .inr (.inr (.inl rfl))
  · exact .inr (.inr (.inr (.inl rfl)))
  · exact .inr (.inr (.inr (.inr (.inl rfl))))
  · exact .inr (.inr (.inr (.inr (.inr rfl))))
theorem word_small {t : Nat} (ht : t < 6) : (wordB[t]'ht).toNat < 128 := by
  have := word_cases ht
  omega
theorem word_at {s : ByteArray} {i j e t : Nat} (h : ValAt s i j e) (ht : t < 6) : isC (bt s (j + t)) ((wordB[t]'ht).toNat : Int) := by
  have h := h.word t ht
  rw [List.getD_eq_getElem?_getD, List.getElem?_eq_getElem (show t < (⟨#[118, 97, 108, 117, 101, 115]⟩ : ByteArray).data.toList.length from ht)] at h
  exact h
set_option maxHeartbeats 2000000 in
set_option maxRecDepth 100000 in
theorem zzValues_any (s : ByteArray) (i j e : Nat) (w : World) (hs : s.size ≤ 1000000000) (h : ValAt s i j e) :
    Calls Tryd.prog 70 #[.string s] w fun r w' => ∃ b c, r = .returned (.slice (some ⟨b, 0, none⟩) 2 c) ∧ b < w'.heap.size ∧ w'.cell? ⟨b, 1, none⟩ = some (.int .i64 (e + 1 : Nat)) ∧ Below w.heap.size w w' := by
  have hij := h.ij
  have hje := h.je
  have hes := h.es
  have H := Lib.hid h
  clear h
  go_enter Tryd.func70, Tryd.ntmps70
  go_wp2
  go_loop [3] (fun x => ∃ m : Nat, m ≤ i ∧ x = .int .i64 m) (fun x => s.size - (intOf x).toNat)
  case atStart => exact ⟨0, Nat.zero_le _, rfl⟩
  case round =>
    obtain ⟨m, hmi, rfl⟩ := hrel
    have hmt : m < s.size := by omega
    have HG := Lib.hid (bt_get s m hmt)
    have hmm : (0 : Int) ≤ m := by omega
    have hmn : (m : Int) < s.size := by omega
    rcases Nat.lt_or_ge m i with hlt | hge
    · have hne : (((s[m]'hmt).toNat : Int) == 41) = false := by
        rw [beq_eq_false_iff_ne, ← HG.out]
        exact H.out.first m hlt
      go_wp2
      go_round
      case rel => exact ⟨m + 1, by omega, by go_num⟩
      case measure => simp [intOf]; omega
    · obtain rfl : m = i := by omega
      have heq : (((s[m]'hmt).toNat : Int) == 41) = true := by
        rw [beq_iff_eq, ← HG.out]
        exact H.out.close
      go_wp2_with fail
      refine (space_at _ s (m + 1) j _ (by omega) hs (by omega) (by omega) (fun l h1 h2 => H.out.gap l (by omega) h2) (notW_word H.out)).mono ?_
      rintro r w' ⟨rfl, rfl⟩
      go_wp2_with fail
      go_loopw [4] (fun p wr => ∃ t : Nat, t ≤ 6 ∧ wr = w.iter wordB t ∧ p = .int .i64 (j + t : Nat)) (fun _ wr => 6 - wr.iterPos w.heap.size)
      case atStart => exact ⟨0, by omega, rfl, rfl⟩
      case round =>
        obtain ⟨t, ht, rfl, rfl⟩ := hrel
        rcases Nat.lt_or_ge t 6 with ht6 | ht6
        · have hnx : ∀ ty, (Instr.next (.pointer (some ⟨w.heap.size, 0, none⟩)) true ty).run Tryd.prog (w.iter wordB t) = _ := fun ty => run_next_ascii w wordB t ty ht6 (word_small ht6)
          have hb := word_small ht6
          go_wp2_with fail
          refine (fold_any _ s (j + t) ((wordB[t]'ht6).toNat : Int) _ (by omega) hs (by omega) (word_cases ht6) (word_at H.out ht6)).mono ?_
          rintro r w' ⟨rfl, rfl⟩
          go_wp2_with fail
          go_roundw
          case rel => exact ⟨t + 1, by omega, rfl, by go_num⟩
          case measure => simp; omega
        · obtain rfl : t = 6 := by omega
          have hnx : ∀ ty, (Instr.next (.pointer (some ⟨w.heap.size, 0, none⟩)) true ty).run Tryd.prog (w.iter wordB 6) = _ := fun ty => run_next_end w wordB 6 ty (by decide)
          go_wp2_with fail
          refine (space_at _ s (j + 6) e _ (by omega) hs (by omega) (by omega) (fun l h1 h2 => H.out.gap2 l (by omega) h2) (notW_op H.out)).mono ?_
          rintro r w' ⟨rfl, rfl⟩
          have hee : (((s[e]'hes).toNat : Int) == 40) = true := by
            rw [beq_iff_eq, ← bt_get s e hes]
            exact H.out.op
          have hen : (e : Int) < s.size := by omega
          go_wp2_with fail
          go_ret
          refine ⟨_, _, rfl, ?_, ?_, ?_⟩
          · simp
          · simp [go_sem]
          · exact ((Below.refl _ _).alloc (Nat.le_refl _) _).alloc (by simp) _
/-- The text with its bracket from e to cl so many times more. -/
def fixL (l : List UInt8) (e cl k : Nat) : List UInt8 := l.take cl ++ Lib.repeatL (44 :: (l.take cl).drop e) k
theorem fixL_snoc (l : List UInt8) (e cl k : Nat) : fixL l e cl k ++ [44] ++ (l.drop e).take (cl - e) = fixL l e cl (k + 1) := by
  unfold fixL
  rw [List.drop_take]
  have h : ∀ (x : List UInt8) k, Lib.repeatL x (k + 1) = Lib.repeatL x k ++ x := by
    intro x k
    induction k with
    | zero => simp [Lib.repeatL]
    | succ k ih =>
      have e1 : Lib.repeatL x (k + 1 + 1) = x ++ Lib.repeatL x (k + 1) := rfl
      have e2 : Lib.repeatL x (k + 1) = x ++ Lib.repeatL x k := rfl
      rw [e1, ih, ← List.append_assoc, ← e2, ih]
  rw [h]
  simp
theorem repeat_len (x : List UInt8) : ∀ k, (Lib.repeatL x k).length = k * x.length
  | 0 => by simp [Lib.repeatL]
  | k + 1 => by rw [Lib.repeatL, List.length_append, repeat_len x k, Nat.succ_mul]; omega
theorem fixL_len (l : List UInt8) (e cl k : Nat) : (fixL l e cl k).length ≤ l.length + k * (l.length + 1) := by
  unfold fixL
  rw [List.length_append, repeat_len, List.length_take, List.length_cons, List.length_drop, List.length_take]
  have : k * (min cl l.length - e + 1) ≤ k * (l.length + 1) := Nat.mul_le_mul_left _ (by omega)
  omega
theorem fix_buf {B b : Nat} {L M : List UInt8} {x : ByteArray} {w : World} (h : Lib.IsBuffer 121 5 B b (Lib.byteCells L ++ Lib.byteCells x.data.toList) w) (hx : x.data.toList = M) : Lib.IsBuffer 121 5 B b (Lib.byteCells (L ++ M)) w := by
  subst hx
  rw [Lib.byteCells_append]
  exact h
theorem cut_size (s : ByteArray) (i j : Nat) : (s.extract i j).size ≤ s.size := by
  rw [← size_list, cut_list, List.length_take, List.length_drop, size_list]
  omega
theorem asc_cut {s : ByteArray} (h : asc s) (i j : Nat) : asc (s.extract i j) := by
  intro c hc
  rw [cut_list] at hc
  exact h c (List.drop_subset _ _ (List.take_subset _ _ hc))
theorem below_drewF (B : Nat) (w : World) (n : Nat) : Below B w (w.drewN n) := ⟨rfl, rfl, rfl, Nat.le_refl _, fun _ _ => rfl⟩
def FixSo (l : List UInt8) (e cl : Nat) (w : World) (B k : Nat) (wr : World) : Prop :=
  Lib.IsBuffer 121 5 B B (Lib.byteCells (fixL l e cl k)) wr ∧ Below w.heap.size w wr ∧ B ≤ wr.heap.size
set_option maxHeartbeats 2000000 in
set_option maxRecDepth 100000 in
theorem fixBound_any (s : ByteArray) (n n1 : Nat) (i j e cl t : Nat) (w : World) (hs : s.size ≤ 100000) (ha : asc s) (h : ValAt s i j e) (hn : n = n1 + 1) (hn2 : n ≤ 100) (hcl : closing (s.extract e s.size) = cl) (hc0 : cl ≠ 0) (hte : e + cl + 1 = t) (htn : t ≤ s.size) :
    Calls Tryd.prog 65 #[.string s, .int .i64 n] w fun r w' => r = .returned (.string ⟨(fixL s.data.toList e t n1 ++ s.data.toList.drop t).toArray⟩) ∧ Below w.heap.size w w' := by
  have H := Lib.hid h
  have HA := Lib.hid ha
  have HCL := Lib.hid hcl
  have hes := h.es
  clear h ha hcl
  go_enter Tryd.func65, Tryd.ntmps65
  go_wp2_with fail
  refine (zzValues_any s i j e _ (by omega) H.out).mono ?_
  rintro r w1 ⟨b, c, rfl, hb, hcell, hb1⟩
  have HB1 := Lib.hid hb1
  clear hb1
  have he0 : (0 : Int) ≤ e := by omega
  have hen : (e : Int) ≤ s.size := by omega
  have hsub : ((e + 1 : Nat) : Int) - 1 = e := by omega
  have hcz := cut_size s e s.size
  go_wp2_with fail
  refine (closing_any (s.extract e s.size) _ (by omega) (fun i hi => asc_get (asc_cut HA.out e s.size) i hi)).mono ?_
  rintro r w2 ⟨rfl, hb2⟩
  rw [HCL.out]
  have HB2 := Lib.hid (HB1.out.trans (hb2.mono HB1.out.size))
  clear hb2
  have hc0' : ((cl : Int) == 0) = false := by rw [beq_eq_false_iff_ne]; omega
  have hti : (e : Int) + cl + 1 = t := by omega
  have hti2 : (t : Int) ≤ s.size := by omega
  have het : (e : Int) ≤ t := by omega
  have ht0 : (0 : Int) ≤ t := by omega
  have HS0 := Lib.hid (show Lib.IsBuffer 121 5 w2.heap.size w2.heap.size (Lib.byteCells []) (w2.alloc (.cells #[.slice none 0 0, .int .i64 0, .int .i8 0] 121)) from Lib.fresh_isBuffer _ _ w2)
  go_wp2_with fail
  refine (Tryd.Buffer_WriteString_k w2.heap.size w2.heap.size (Lib.byteCells []) (s.extract 0 t) _ HS0.out (by simp) (Lib.byteCells_one _) (by have := cut_size s 0 t; rw [Lib.byteCells_length]; simp; omega)).mono ?_
  rintro r w3 ⟨rfl, hb3, hbel3, _⟩
  have e0 : (s.extract 0 t).data.toList = fixL s.data.toList e t 0 := by rw [cut_list]; simp [fixL, Lib.repeatL]
  have HB3 := Lib.hid (show FixSo s.data.toList e t w w2.heap.size 0 w3 from ⟨by have h := fix_buf hb3 e0; rw [List.nil_append] at h; exact h, (HB2.out.alloc HB2.out.size _).trans (hbel3.mono HB2.out.size), by have := hbel3.size; simp at this; omega⟩)
  clear hb3 hbel3 HS0 e0
  have hn1i : (n : Int) - 1 = n1 := by omega
  have hc2z := cut_size s 0 t
  have hc3z := cut_size s e t
  have hc4z := cut_size s t s.size
  have hB2 := HB2.out.size
  go_wp2_with fail
  go_loopw [10] (fun x wr => ∃ k : Nat, k ≤ n1 ∧ x = .int .i64 k ∧ Hid (FixSo s.data.toList e t w w2.heap.size k wr)) (fun x _ => n1 - (intOf x).toNat)
  case atStart => exact ⟨0, Nat.zero_le _, rfl, HB3⟩
  case round =>
    obtain ⟨k, hk, rfl, HS⟩ := hrel
    have hll := fixL_len s.data.toList e t k
    have hk100 : k * (s.data.toList.length + 1) ≤ 100 * (s.data.toList.length + 1) := Nat.mul_le_mul_right _ (by omega)
    have hsl := size_list s
    have hlim : (fixL s.data.toList e t k).length ≤ 20000000 := by omega
    clear hll hk100
    rcases Nat.lt_or_ge k n1 with hlt | hge
    · have hkn : (k : Int) < n1 := by omega
      go_wp2_with fail
      refine (Tryd.Buffer_WriteString_k w2.heap.size w2.heap.size (Lib.byteCells (fixL s.data.toList e t k)) ⟨#[44]⟩ _ HS.out.1 HS.out.2.2 (Lib.byteCells_one _) (by rw [Lib.byteCells_length, show (ByteArray.mk #[44]).size = 1 from rfl]; omega)).mono ?_
      rintro r w4 ⟨rfl, hb4, hbel4, _⟩
      have HB4 := Lib.hid (fix_buf hb4 (M := [44]) rfl)
      have HL4 := Lib.hid (HS.out.2.1.trans (hbel4.mono hB2))
      have hsz4 := Nat.le_trans HS.out.2.2 hbel4.size
      clear hb4 hbel4
      go_wp2_with fail
      refine (Tryd.Buffer_WriteString_k w2.heap.size w2.heap.size (Lib.byteCells (fixL s.data.toList e t k ++ [44])) (s.extract e t) _ HB4.out hsz4 (Lib.byteCells_one _) (by rw [Lib.byteCells_length, List.length_append]; simp; omega)).mono ?_
      rintro r w5 ⟨rfl, hb5, hbel5, _⟩
      have HB5 := Lib.hid (fix_buf hb5 (M := (s.data.toList.drop e).take (t - e)) (cut_list s e t))
      have HL5 := Lib.hid (HL4.out.trans (hbel5.mono hB2))
      have hsz5 := Nat.le_trans hsz4 hbel5.size
      clear hb5 hbel5
      go_wp2_with fail
      go_roundw
      case rel => exact ⟨k + 1, by omega, by go_num, Lib.hid ⟨by have h := HB5.out; rw [fixL_snoc] at h; exact h, HL5.out, hsz5⟩⟩
      case measure => simp [intOf]; omega
    · obtain rfl : k = n1 := by omega
      go_wp2_with fail
      refine (Tryd.Buffer_WriteString_k w2.heap.size w2.heap.size (Lib.byteCells (fixL s.data.toList e t k)) (s.extract t s.size) _ HS.out.1 HS.out.2.2 (Lib.byteCells_one _) (by rw [Lib.byteCells_length]; omega)).mono ?_
      rintro r w4 ⟨rfl, hb4, hbel4, _⟩
      have HB4 := Lib.hid (fix_buf hb4 (M := s.data.toList.drop t) (by rw [cut_list, List.take_of_length_le (by rw [List.length_drop, size_list]; omega)]))
      have HL4 := Lib.hid (HS.out.2.1.trans (hbel4.mono hB2))
      clear hb4 hbel4
      go_wp2_with fail
      refine (Tryd.Buffer_String w2.heap.size w2.heap.size (fixL s.data.toList e t k ++ s.data.toList.drop t) w4 HB4.out).mono ?_
      rintro r w5 ⟨rfl, nd, rfl⟩
      go_wp2_with fail
      go_ret
      exact ⟨rfl, HL4.out.trans (below_drewF _ _ _)⟩
end Go.Proofs.YtpjadgdimkdblaaDoor
