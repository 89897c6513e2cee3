/- all9 walked; how the text of an insert is compiled, and what stands for so many rows. -/
import Derived.Test.YtpjadgdimkdblaaDoorRwI
import Derived.Test.YtpjadgdimkdblaaDoorAppVals2
namespace Go.Proofs.YtpjadgdimkdblaaDoor
open Go.RowKit
set_option linter.unusedVariables false

/-- The values of the first so many lists. -/
def flR (ls : List LRec) (k : Nat) : List VRec := ((ls.take k).map LRec.xs).flatten
theorem flR_succ {ls : List LRec} {k : Nat} (h : k < ls.length) : flR ls (k + 1) = flR ls k ++ (ls.getD k l0).xs := by
  have e : ls.take (k + 1) = ls.take k ++ [ls.getD k l0] := by
    rw [List.take_add_one, List.getD_eq_getElem?_getD, List.getElem?_eq_getElem h]
    rfl
  unfold flR
  rw [e, List.map_append, List.flatten_append]
  simp
theorem flR_len {ls : List LRec} {N : Nat} (h : ∀ i, i < ls.length → (ls.getD i l0).xs.length = N) : ∀ k, k ≤ ls.length → (flR ls k).length = k * N
  | 0, _ => by simp [flR]
  | k + 1, hk => by rw [flR_succ (by omega), List.length_append, flR_len h k (by omega), h k (by omega), Nat.succ_mul]
set_option maxHeartbeats 2000000 in
set_option maxRecDepth 100000 in
theorem all9_any (A2 : Option Addr) (n2 c2 N : Nat) (ls : List LRec) (w : World) (hn2 : ls.length = n2) (hm2 : n2 ≤ 8) (hx2 : LsAt w A2 ls) (hN : ∀ i, i < ls.length → (ls.getD i l0).xs.length = N) (hN6 : N ≤ 6) :
    Calls Tryd.prog 27 #[.slice A2 n2 c2] w fun e w' => ∃ v, e = .returned v ∧ w'.ownsRow w.heap.size 34 4 v (n2 * N) (cellsL (flR ls n2)) ∧ Below w.heap.size w w' := by
  have HX2 := Lib.hid hx2
  have HN2 := Lib.hid hn2
  have HNN := Lib.hid hN
  clear hx2 hn2 hN
  go_enter Tryd.func27, Tryd.ntmps27
  go_wp2_with fail
  go_loopw [3, 7] (fun v' i w' => ∃ (m : Nat) (v : Value) (wr : World), m ≤ n2 ∧ wr = w' ∧ v = v' ∧ i = .int .i64 m ∧ Hid (wr.ownsRow w.heap.size 34 4 v (m * N) (cellsL (flR ls m)) ∧ Below w.heap.size w wr)) (fun _ i _ => n2 - (intOf i).toNat)
  case atStart => exact ⟨0, _, _, Nat.zero_le _, rfl, rfl, rfl, Lib.hid ⟨by rw [Nat.zero_mul]; exact World.ownsRow_nil _ _ _ _, Below.refl _ _⟩⟩
  case round =>
    obtain ⟨m, v, wr, hm', rfl, rfl, rfl, HS⟩ := hrel
    have h0m : (0 : Int) ≤ m := by omega
    have hszr := HS.out.2.size
    by_cases hlm : m < n2
    · have hmn : (m : Int) < n2 := by omega
      obtain ⟨b2, off2, rfl, hb2, hc2, hgood⟩ := lists_at9 HX2.out m (by rw [HN2.out]; exact hlm)
      have hcell := (HS.out.2.cell (p := ⟨b2, off2 + m, none⟩) hb2).trans hc2
      have HFS := Lib.hid (flR_succ (ls := ls) (k := m) (by rw [HN2.out]; exact hlm))
      have hxn := HNN.out m (by rw [HN2.out]; exact hlm)
      generalize ls.getD m l0 = l at hcell hgood HFS hxn
      obtain ⟨A1, n1, c1, xs1⟩ := l
      obtain ⟨g1, g2, g3, g4⟩ := hgood
      simp only at hcell g1 hxn g3
      obtain rfl : n1 = N := by omega
      have HG2 := Lib.hid g2
      have HG3 := Lib.hid g3
      have HG4 := Lib.hid (listAt_below g4 HS.out.2)
      have hbd : m * n1 ≤ 48 := by
        have : m * n1 ≤ 8 * 6 := Nat.mul_le_mul (by omega) hN6
        omega
      clear hc2 hb2 g2 g3 g4 hxn
      go_wp2_with (at_builtin; refine app_vals2 rfl _ _ rfl w.heap.size v (m * n1) (flR ls m) rfl HS.out.1 A1 n1 c1 rfl xs1 HG3.out HG2.out HG4.out (by omega) hszr ?_; intro v2 w2 hown2 hg2 hat2; refine Hid.out ?_)
      refine Lib.hid ?_
      have HS2 := Lib.hid (show w2.ownsRow w.heap.size 34 4 v2 ((m + 1) * n1) (cellsL (flR ls (m + 1))) ∧ Below w.heap.size w w2 from ⟨by rw [HFS.out, Nat.succ_mul]; exact hown2, HS.out.2.grown hg2 hszr (fun g hg => (HS.out.1.lt g hg).1)⟩)
      clear hown2 hg2 hat2
      go_wp2_with fail
      go_roundw
      case rel => exact ⟨m + 1, _, _, by omega, rfl, rfl, by go_num, HS2⟩
      case measure => simp [intOf]; omega
    · obtain rfl : m = n2 := by omega
      go_wp2_with fail
      go_ret
      exact ⟨v, rfl, HS.out.1, HS.out.2⟩
/- The text, compiled. -/
theorem cn_ask : ∀ (l : List ByteArray) (s : ByteArray) (r L : List UInt8) (ns : List (List UInt8)), NameOk s → (∀ t ∈ l, NameOk t) → cn (mkK 1) (58 :: (s.data.toList ++ (askF l ++ 41 :: r))) none L ns = cn (mkK 1) r none (L ++ 63 :: (Lib.repeatL [44, 32, 63] l.length ++ [41])) (ns ++ (s :: l).map fun t => t.data.toList)
  | [], s, r, L, ns, hs, _ => by
    rw [show askF [] ++ 41 :: r = 41 :: r from rfl, cn_mid hs 41 _ _ _ (by decide) (by decide) (by decide)]
    simp [mkK, Lib.repeatL]
  | t :: l, s, r, L, ns, hs, hl => by
    have e : askF (t :: l) ++ 41 :: r = 44 :: ([32] ++ 58 :: (t.data.toList ++ (askF l ++ 41 :: r))) := by simp [askF]
    rw [e, cn_mid hs 44 _ _ _ (by decide) (by decide) (by decide), cn_text [32] _ _ _ (by unfold no58; decide), cn_ask l t r _ _ (hl t (by simp)) (fun x hx => hl x (by simp [hx]))]
    have e2 : Lib.repeatL ([44, 32, 63] : List UInt8) (t :: l).length = [44, 32, 63] ++ Lib.repeatL [44, 32, 63] l.length := rfl
    rw [e2]
    simp [mkK]
def plainC (c : UInt8) : Prop := c ≠ 41 ∧ c ≠ 58 ∧ c ≠ 63 ∧ c.toNat < 128
instance (c : UInt8) : Decidable (plainC c) := by unfold plainC; infer_instance
theorem dec_plain {k : Nat} (hk : k < 10) : ∀ c ∈ Lib.decDigits k, plainC c := by
  intro c hc
  rw [Lib.decDigits, dif_pos hk] at hc
  have : k = 0 ∨ k = 1 ∨ k = 2 ∨ k = 3 ∨ k = 4 ∨ k = 5 ∨ k = 6 ∨ k = 7 ∨ k = 8 ∨ k = 9 := by omega
  simp only [List.mem_singleton] at hc
  subst hc
  rcases this with rfl | rfl | rfl | rfl | rfl | rfl | rfl | rfl | rfl | rfl <;> decide
theorem cols_plain : ∀ k, k ≤ 10 → ∀ c ∈ colsI k, plainC c
  | 0, _, c, h => by simp [colsI] at h
  | k + 1, hk, c, h => by
    rw [colsI] at h
    rcases List.mem_append.1 h with h | h
    · exact cols_plain k (by omega) c h
    · rcases List.mem_append.1 h with h | h
      · split at h
        · simp at h
        · exact (show ∀ c ∈ ([44, 32] : List UInt8), plainC c by decide) c h
      · rcases List.mem_cons.1 h with rfl | h
        · decide
        · exact dec_plain (by omega) c h
theorem iH_plain {n : Nat} (hn : n ≤ 6) : ∀ c ∈ iH n, plainC c := by
  intro c h
  rcases List.mem_append.1 h with h | h
  · exact (show ∀ c ∈ ([73, 78, 83, 69, 82, 84, 32, 73, 78, 84, 79, 32, 116, 32, 40] : List UInt8), plainC c by decide) c h
  · exact cols_plain n (by omega) c h
theorem no58_plain {l : List UInt8} (h : ∀ c ∈ l, plainC c) : no58 l := fun c hc => (h c hc).2.1
theorem no58_head {n : Nat} (hn : n ≤ 6) {wd : List UInt8} (hw : ∀ c ∈ wd, plainC c) : no58 (headI n wd ++ [40]) := by
  intro c h
  rcases List.mem_append.1 h with h | h
  · rcases List.mem_append.1 h with h | h
    · exact (iH_plain hn c h).2.1
    · rcases List.mem_cons.1 h with rfl | h
      · decide
      · exact (hw c h).2.1
  · exact (show ∀ c ∈ ([40] : List UInt8), c ≠ 58 by decide) c h
theorem asc_head {n : Nat} (hn : n ≤ 6) {wd : List UInt8} (hw : ∀ c ∈ wd, plainC c) : ∀ c ∈ headI n wd ++ [40], c.toNat < 128 := by
  intro c h
  rcases List.mem_append.1 h with h | h
  · rcases List.mem_append.1 h with h | h
    · exact (iH_plain hn c h).2.2.2
    · rcases List.mem_cons.1 h with rfl | h
      · decide
      · exact (hw c h).2.2.2
  · exact (show ∀ c ∈ ([40] : List UInt8), c.toNat < 128 by decide) c h
def boundI (n : Nat) (wd : List UInt8) : List UInt8 := headI n wd ++ 40 :: (marksI n ++ [41])
theorem i_cn {ss : List ByteArray} (h1 : 1 ≤ ss.length) (h6 : ss.length ≤ 6) (hs : ∀ t ∈ ss, NameOk t) {wd : List UInt8} (hw : ∀ c ∈ wd, plainC c) :
    cn (mkK 1) (headI ss.length wd ++ 40 :: (ask ss ++ [41])) none [] [] = some (boundI ss.length wd, ss.map fun t => t.data.toList) := by
  rcases ss with _ | ⟨s, l⟩
  · simp at h1
  · have e : headI (s :: l).length wd ++ 40 :: (ask (s :: l) ++ [41]) = (headI (s :: l).length wd ++ [40]) ++ (58 :: (s.data.toList ++ (askF l ++ 41 :: []))) := by simp [ask]
    rw [e, cn_text _ _ _ _ (no58_head h6 hw), cn_ask l s [] _ _ (hs s (by simp)) (fun t ht => hs t (by simp [ht])), cn]
    simp [boundI, marksI]
theorem cnt_askF : ∀ (l : List ByteArray), (∀ t ∈ l, NameOk t) → cnt58 (askF l) = l.length
  | [], _ => rfl
  | s :: l, h => by
    have e : askF (s :: l) = [44, 32, 58] ++ (s.data.toList ++ askF l) := rfl
    rw [e, cnt_app, cnt_app, cnt_free (no58_name (h s (by simp))), cnt_askF l (fun t ht => h t (by simp [ht]))]
    have e2 : cnt58 [44, 32, 58] = 1 := by decide
    rw [e2, List.length_cons]
    omega
theorem asc_askF : ∀ (l : List ByteArray), (∀ t ∈ l, NameOk t) → ∀ c ∈ askF l, c.toNat < 128
  | [], _, c, h => by simp [askF] at h
  | s :: l, hn, c, h => by
    have e : askF (s :: l) = [44, 32, 58] ++ (s.data.toList ++ askF l) := rfl
    rw [e] at h
    rcases List.mem_append.1 h with h | h
    · exact (show ∀ c ∈ ([44, 32, 58] : List UInt8), c.toNat < 128 by decide) c h
    · rcases List.mem_append.1 h with h | h
      · exact asc_name (hn s (by simp)) c h
      · exact asc_askF l (fun t ht => hn t (by simp [ht])) c h
theorem i_ok {ss : List ByteArray} (h6 : ss.length ≤ 6) (hs : ∀ t ∈ ss, NameOk t) {wd : List UInt8} (hw : ∀ c ∈ wd, plainC c) (hwl : wd.length ≤ 50) {q : ByteArray} (hq : q.data.toList = headI ss.length wd ++ 40 :: (ask ss ++ [41])) : TextOk q := by
  have hl := ask_len ss (fun t ht => (hs t ht).2.2.2)
  have hc := cols_len ss.length (by omega)
  have hlen : (headI ss.length wd).length = 16 + (colsI ss.length).length + wd.length := by
    simp [headI, iH]
    omega
  refine ⟨?_, ?_, ?_⟩
  · rw [← size_list, hq, List.length_append, hlen]
    simp
    omega
  · have e : headI ss.length wd ++ 40 :: (ask ss ++ [41]) = (headI ss.length wd ++ [40]) ++ (ask ss ++ [41]) := by simp
    rw [hq, e, cnt_app (headI ss.length wd ++ [40]), cnt_app (ask ss), cnt_free (no58_head h6 hw)]
    rcases ss with _ | ⟨s, l⟩
    · simp [ask, cnt58]
    · have e2 : ask (s :: l) = [58] ++ (s.data.toList ++ askF l) := rfl
      rw [e2, cnt_app, cnt_app, cnt_free (no58_name (hs s (by simp))), cnt_askF l (fun t ht => hs t (by simp [ht]))]
      have e3 : cnt58 [58] = 1 := by decide
      have e4 : cnt58 [41] = 0 := by decide
      simp only [List.length_cons] at h6
      omega
  · intro c h
    have e : headI ss.length wd ++ 40 :: (ask ss ++ [41]) = (headI ss.length wd ++ [40]) ++ (ask ss ++ [41]) := by simp
    rw [hq, e] at h
    rcases List.mem_append.1 h with h | h
    · exact asc_head h6 hw c h
    · rcases List.mem_append.1 h with h | h
      · rcases ss with _ | ⟨s, l⟩
        · simp [ask] at h
        · rcases List.mem_cons.1 h with rfl | h
          · decide
          · rcases List.mem_append.1 h with h | h
            · exact asc_name (hs s (by simp)) c h
            · exact asc_askF l (fun t ht => hs t (by simp [ht])) c h
      · exact (show ∀ c ∈ ([41] : List UInt8), c.toNat < 128 by decide) c h
theorem rep_in (x : List UInt8) : ∀ k, ∀ c ∈ Lib.repeatL x k, c ∈ x
  | 0, c, h => by simp [Lib.repeatL] at h
  | k + 1, c, h => by
    rw [show Lib.repeatL x (k + 1) = x ++ Lib.repeatL x k from rfl] at h
    rcases List.mem_append.1 h with h | h
    · exact h
    · exact rep_in x k c h
theorem marks_mem (n : Nat) : ∀ c ∈ marksI n, c = 63 ∨ c = 44 ∨ c = 32 := by
  intro c h
  rcases n with _ | n
  · simp [marksI] at h
  · rcases List.mem_cons.1 h with rfl | h
    · exact .inl rfl
    · have := rep_in _ _ _ h
      simp only [List.mem_cons, List.not_mem_nil, or_false] at this
      rcases this with h | h | h
      · exact .inr (.inl h)
      · exact .inr (.inr h)
      · exact .inl h
theorem i_asc {n : Nat} (hn : n ≤ 6) {wd : List UInt8} (hw : ∀ c ∈ wd, plainC c) {q1 : ByteArray} (h1 : q1.data.toList = boundI n wd) : asc q1 := by
  intro c h
  have e : boundI n wd = (headI n wd ++ [40]) ++ (marksI n ++ [41]) := by simp [boundI]
  rw [h1, e] at h
  rcases List.mem_append.1 h with h | h
  · exact asc_head hn hw c h
  · rcases List.mem_append.1 h with h | h
    · rcases marks_mem n c h with rfl | rfl | rfl <;> decide
    · exact (show ∀ c ∈ ([41] : List UInt8), c.toNat < 128 by decide) c h
theorem i_size {n : Nat} (hn : n ≤ 6) {wd : List UInt8} (hwl : wd.length ≤ 50) : (⟨(boundI n wd).toArray⟩ : ByteArray).size ≤ 100000 := by
  have h1 := cols_len n (by omega)
  have h2 := marks_len n
  rw [← size_list]
  simp [boundI, headI, iH]
  omega
theorem i_fix {q1 q2 : ByteArray} {n K : Nat} (hn : n ≤ 6) (hK : 1 ≤ K) {g1 wd g2 : List UInt8} (hg1 : ∀ c ∈ g1, isW (c.toNat : Int)) (hw : WordOk wd) (hg2 : ∀ c ∈ g2, isW (c.toNat : Int))
    (h1 : q1.data.toList = boundI n (g1 ++ (wd ++ g2))) (h2 : q2.data.toList = wantI (headI n (g1 ++ (wd ++ g2))) (marksI n ++ [41]) K) : FixTo q1 K q2 := by
  have hm : ∀ c ∈ marksI n, (c.toNat : Int) ≠ 40 ∧ (c.toNat : Int) ≠ 41 := by
    intro c hc
    rcases marks_mem n c hc with rfl | rfl | rfl <;> decide
  refine fixTo_of (h := iH n) (g1 := g1) (wd := wd) (g2 := g2) (G := marksI n ++ [41]) (R := []) hK ?_ (fun c hc => (iH_plain hn c hc).1) hg1 hw hg2 ?_ (by simp) ?_
  · rw [h1, boundI]
    simp [headI, headL]
  · have e : 40 :: (marksI n ++ [41]) ++ [] = 40 :: (marksI n ++ (41 :: [])) := by simp
    rw [e, closL_lp, closL_pass _ hm, closL_rp, if_pos (by decide)]
    simp
    omega
  · rw [h2]
    obtain ⟨k, rfl⟩ : ∃ k, K = k + 1 := ⟨K - 1, by omega⟩
    simp [wantI, headI, headL]
end Go.Proofs.YtpjadgdimkdblaaDoor
