/- The text of an insert of names: how it is built (insert9 walked), how it is compiled, and what stands for so many rows. -/
import Derived.Test.YtpjadgdimkdblaaDoorRw9
import Derived.Deep.RegionHeld3
namespace Go.Proofs.YtpjadgdimkdblaaDoor
open Go.RowKit
set_option linter.unusedVariables false

def askF : List ByteArray → List UInt8
  | [] => []
  | s :: l => 44 :: 32 :: 58 :: (s.data.toList ++ askF l)
def ask : List ByteArray → List UInt8
  | [] => []
  | s :: l => 58 :: (s.data.toList ++ askF l)
def marksI : Nat → List UInt8
  | 0 => []
  | k + 1 => 63 :: Lib.repeatL [44, 32, 63] k
def colsI : Nat → List UInt8
  | 0 => []
  | k + 1 => colsI k ++ ((if k = 0 then [] else [44, 32]) ++ 99 :: Lib.decDigits k)
theorem askF_app : ∀ (a b : List ByteArray), askF (a ++ b) = askF a ++ askF b
  | [], b => rfl
  | s :: a, b => by
    rw [List.cons_append, askF, askF, askF_app a b]
    simp
theorem ask_first (s : ByteArray) : ask [s] = 58 :: s.data.toList := by simp [ask, askF]
theorem ask_next {a : List ByteArray} (h : a ≠ []) (s : ByteArray) : ask (a ++ [s]) = ask a ++ [44, 32] ++ 58 :: s.data.toList := by
  rcases a with _ | ⟨t, a⟩
  · exact absurd rfl h
  · rw [List.cons_append, ask, ask, askF_app]
    simp [askF]
theorem marks_next (k : Nat) : marksI (k + 2) = marksI (k + 1) ++ [44, 32] ++ [63] := by
  simp only [marksI]
  rw [← repeat_snoc]
  simp
theorem cols_first : colsI 1 = 99 :: Lib.decDigits 0 := by simp [colsI]
theorem cols_next (k : Nat) : colsI (k + 2) = colsI (k + 1) ++ [44, 32] ++ 99 :: Lib.decDigits (k + 1) := by
  conv => lhs; rw [colsI]
  simp
theorem marks_len (k : Nat) : (marksI k).length ≤ 3 * k := by
  cases k with
  | zero => simp [marksI]
  | succ k =>
    simp only [marksI, List.length_cons, repeat_len, List.length_nil]
    omega
theorem dec2i (i : Nat) (hi : i < 100) : (Lib.decDigits i).length ≤ 2 := by
  rw [Lib.decDigits]
  split
  · simp
  · rw [Lib.decDigits, dif_pos (by omega)]
    simp
theorem cols_len : ∀ k, k ≤ 90 → (colsI k).length ≤ 5 * k
  | 0, _ => by simp [colsI]
  | k + 1, h => by
    have ih := cols_len k (by omega)
    have h2 := dec2i k (by omega)
    rw [colsI]
    simp only [List.length_append, List.length_cons]
    split <;> simp <;> omega
theorem askF_len : ∀ (l : List ByteArray), (∀ s ∈ l, s.size ≤ 30) → (askF l).length ≤ 33 * l.length
  | [], _ => by simp [askF]
  | s :: l, h => by
    have ih := askF_len l (fun t ht => h t (by simp [ht]))
    have := h s (by simp)
    simp only [askF, List.length_cons, List.length_append, size_list]
    omega
theorem ask_len : ∀ (l : List ByteArray), (∀ s ∈ l, s.size ≤ 30) → (ask l).length ≤ 33 * l.length
  | [], _ => by simp [ask]
  | s :: l, h => by
    have ih := askF_len l (fun t ht => h t (by simp [ht]))
    have := h s (by simp)
    simp only [ask, List.length_cons, List.length_append, size_list]
    omega
/-- The text up to the opening bracket of the values. -/
def iH (n : Nat) : List UInt8 := [73, 78, 83, 69, 82, 84, 32, 73, 78, 84, 79, 32, 116, 32, 40] ++ colsI n
def headI (n : Nat) (wd : List UInt8) : List UInt8 := iH n ++ 41 :: wd
def wantI (P G : List UInt8) : Nat → List UInt8
  | 0 => P
  | k + 1 => P ++ (40 :: G) ++ Lib.repeatL (44 :: 40 :: G) k
theorem wantI_one (P G : List UInt8) : wantI P G 1 = wantI P G 0 ++ 40 :: G := by simp [wantI, Lib.repeatL]
theorem wantI_snoc (P G : List UInt8) (k : Nat) : wantI P G (k + 2) = wantI P G (k + 1) ++ [44] ++ 40 :: G := by
  simp only [wantI]
  rw [← repeat_snoc]
  simp
theorem wantI_len (P G : List UInt8) : ∀ k, (wantI P G k).length ≤ P.length + k * (G.length + 2)
  | 0 => by simp [wantI]
  | k + 1 => by
    have e : (k + 1) * (G.length + 2) = k * (G.length + 2) + (G.length + 2) := Nat.succ_mul _ _
    simp only [wantI, List.length_append, repeat_len, List.length_cons]
    rw [e, show G.length + 1 + 1 = G.length + 2 from rfl]
    omega
def Insert9So (ss : List ByteArray) (K : Nat) (wd : List UInt8) (w : World) (e : Ending) (w' : World) : Prop :=
  ∃ t u : ByteArray, e = .returned (.tuple #[.string t, .string u]) ∧ t.data.toList = headI ss.length wd ++ 40 :: (ask ss ++ [41]) ∧ u.data.toList = wantI (headI ss.length wd) (marksI ss.length ++ [41]) K ∧ Below w.heap.size w w'
/-- What the loop over the names carries. -/
def InsSo (ss : List ByteArray) (w : World) (k : Nat) (c m a : ByteArray) (wr : World) : Prop :=
  c.data.toList = colsI k ∧ m.data.toList = marksI k ∧ a.data.toList = ask (ss.take k) ∧ Below w.heap.size w wr
theorem take_one' {ss : List ByteArray} {k : Nat} (h : k < ss.length) : ss.take (k + 1) = ss.take k ++ [ss.getD k ByteArray.empty] := by
  rw [List.take_add_one, List.getD_eq_getElem?_getD, List.getElem?_eq_getElem h]
  rfl
theorem ins_first {ss : List ByteArray} {w wr w1 : World} {c m a ds s : ByteArray} (h : InsSo ss w 0 c m a wr) (h0 : 0 < ss.length) (hs : ss.getD 0 ByteArray.empty = s) (hd : ds.data.toList = Lib.decDigits 0) (hb : Below w.heap.size w w1) :
    InsSo ss w 1 (c ++ (⟨#[99]⟩ : ByteArray) ++ ds) (m ++ (⟨#[63]⟩ : ByteArray)) (a ++ (⟨#[58]⟩ : ByteArray) ++ s) w1 := by
  obtain ⟨h1, h2, h3, h4⟩ := h
  refine ⟨?_, ?_, ?_, hb⟩
  · rw [cols_first, ← hd]
    simp [h1, colsI]
  · simp [h2, marksI, Lib.repeatL]
  · rw [take_one' h0, hs]
    simp only [List.take_zero] at h3 ⊢
    rw [List.nil_append, ask_first]
    simp [h3, ask]
theorem ins_next {ss : List ByteArray} {w wr w1 : World} {k : Nat} {c m a ds s : ByteArray} (h : InsSo ss w k c m a wr) (hk : 0 < k) (h0 : k < ss.length) (hs : ss.getD k ByteArray.empty = s) (hd : ds.data.toList = Lib.decDigits k) (hb : Below w.heap.size w w1) :
    InsSo ss w (k + 1) (c ++ (⟨#[44, 32]⟩ : ByteArray) ++ (⟨#[99]⟩ : ByteArray) ++ ds) (m ++ (⟨#[44, 32]⟩ : ByteArray) ++ (⟨#[63]⟩ : ByteArray)) (a ++ (⟨#[44, 32]⟩ : ByteArray) ++ (⟨#[58]⟩ : ByteArray) ++ s) w1 := by
  obtain ⟨h1, h2, h3, h4⟩ := h
  obtain ⟨j, rfl⟩ : ∃ j, k = j + 1 := ⟨k - 1, by omega⟩
  refine ⟨?_, ?_, ?_, hb⟩
  · rw [cols_next, ← hd]
    simp [h1]
  · rw [marks_next]
    simp [h2]
  · rw [take_one' h0, hs, ask_next (fun e => by have h := congrArg List.length e; rw [List.length_take, List.length_nil] at h; omega), ← h3]
    simp
theorem ins_sizes {ss : List ByteArray} {w wr : World} {k : Nat} {c m a : ByteArray} (h : InsSo ss w k c m a wr) (hk : k ≤ 6) (hs : ∀ s ∈ ss, s.size ≤ 30) : c.size ≤ 30 ∧ m.size ≤ 18 ∧ a.size ≤ 198 := by
  obtain ⟨h1, h2, h3, h4⟩ := h
  have q1 := cols_len k (by omega)
  have q2 := marks_len k
  have q3 := ask_len (ss.take k) (fun s h => hs s (List.take_subset _ _ h))
  have q4 : (ss.take k).length ≤ k := by rw [List.length_take]; omega
  rw [← h1, size_list] at q1
  rw [← h2, size_list] at q2
  rw [← h3, size_list] at q3
  omega
theorem ins_small {P G : List UInt8} {j : Nat} {u : ByteArray} (h : u.data.toList = wantI P G j) (hj : j ≤ 8) (hP : P.length ≤ 120) (hG : G.length ≤ 20) : u.size ≤ 400 := by
  have h1 := wantI_len P G j
  have h2 : j * (G.length + 2) ≤ 8 * 22 := Nat.mul_le_mul hj (by omega)
  rw [← size_list, h]
  omega
theorem mem_getD {ss : List ByteArray} (h : ∀ i, i < ss.length → (ss.getD i ByteArray.empty).size ≤ 30) : ∀ s ∈ ss, s.size ≤ 30 := by
  intro s hs
  obtain ⟨i, hi, rfl⟩ := List.getElem_of_mem hs
  have := h i hi
  rw [List.getD_eq_getElem?_getD, List.getElem?_eq_getElem hi] at this
  exact this
set_option maxHeartbeats 4000000 in
set_option maxRecDepth 100000 in
theorem insert9_any (A : Option Addr) (n c K : Nat) (ss : List ByteArray) (wd : ByteArray) (w : World) (hn : ss.length = n) (hm : n ≤ 6) (hx : StrsAt w A ss) (hs : ∀ i, i < ss.length → (ss.getD i ByteArray.empty).size ≤ 30) (hK : K ≤ 8) (hwd : wd.size ≤ 50) :
    Calls Tryd.prog 23 #[.slice A n c, .int .i64 K, .string wd, .string ⟨#[]⟩] w (Insert9So ss K wd.data.toList w) := by
  have HX := Lib.hid hx
  have HN := Lib.hid hn
  have HSS := Lib.hid (mem_getD hs)
  have HS1 := Lib.hid hs
  clear hx hn hs
  go_enter Tryd.func23, Tryd.ntmps23
  go_wp2_with fail
  go_loopw [10, 11, 12, 19] (fun c' m' a' i w' => ∃ (k : Nat) (cs ms qs : ByteArray) (wr : World), k ≤ n ∧ wr = w' ∧ c' = .string cs ∧ m' = .string ms ∧ a' = .string qs ∧ i = .int .i64 k ∧ Hid (InsSo ss w k cs ms qs wr)) (fun _ _ _ i _ => n - (intOf i).toNat)
  case atStart => exact ⟨0, ⟨#[]⟩, ⟨#[]⟩, ⟨#[]⟩, w, Nat.zero_le _, rfl, rfl, rfl, rfl, rfl, Lib.hid ⟨rfl, rfl, rfl, Below.refl _ _⟩⟩
  case round =>
    obtain ⟨k, cs, ms, qs, wr, hk, rfl, rfl, rfl, rfl, rfl, HI⟩ := hrel
    have h0 : (0 : Int) ≤ k := by omega
    obtain ⟨z1, z2, z3⟩ := ins_sizes HI.out (by omega) HSS.out
    have hszr := HI.out.2.2.2.size
    by_cases hlt : k < n
    · have hkn : (k : Int) < n := by omega
      have hne : ss ≠ [] := fun e => by have := HN.out; rw [e] at this; simp at this; omega
      obtain ⟨b, off, rfl, hb, hl⟩ := HX.out.resolve_left hne
      have hcell := (HI.out.2.2.2.cell (p := ⟨b, off + k, none⟩) hb).trans (hl k (by rw [HN.out]; exact hlt))
      have hbr : b < wr.heap.size := Nat.lt_of_lt_of_le hb hszr
      have hsz := HS1.out k (by rw [HN.out]; exact hlt)
      have HKL := Lib.hid (show k < ss.length by rw [HN.out]; exact hlt)
      generalize hss : ss.getD k ByteArray.empty = s at hcell hsz
      have HSK := Lib.hid hss
      have hk100 : k < 100 := by omega
      have hds : (⟨(Lib.decDigits k).toArray⟩ : ByteArray).size ≤ 2 := dec2i k (by omega)
      clear hl hne hss
      rcases Nat.eq_zero_or_pos k with hk0 | hk0
      · have hgt : ¬ (0 : Int) < k := by omega
        have HI0 := Lib.hid (show InsSo ss w 0 cs ms qs wr by rw [← hk0]; exact HI.out)
        have HK0 := Lib.hid hk0
        clear hk0
        go_upto_region 7 with fail
        have b1 : ¬ 9223372036854775807 < cs.size + 1 := by omega
        have b2 : ¬ 9223372036854775807 < ms.size + 1 := by omega
        have b3 : ¬ 9223372036854775807 < qs.size + 1 := by omega
        have b4 : ¬ 9223372036854775807 < qs.size + 1 + s.size := by omega
        go_region_held3 (fun w' => w'.cell? ⟨b, off + k, none⟩ = some (.string s)) (first | exact hcell | exact hc1) (first | (go_at_call 24; refine (digits9_small k hk100 _).mono ?_; rintro e w1 ⟨rfl, hb1⟩; have hc1 := (hb1.cell (p := ⟨b, off + k, none⟩) hbr).trans hcell; have HB1 := Lib.hid (HI.out.2.2.2.drew.trans (hb1.mono hszr)); have HDS := Lib.hid (show (⟨(Lib.decDigits k).toArray⟩ : ByteArray).data.toList = Lib.decDigits k from rfl); generalize (⟨(Lib.decDigits k).toArray⟩ : ByteArray) = ds at hds HDS; have b5 : ¬ 9223372036854775807 < cs.size + 1 + ds.size := (by omega); clear hb1))
        all_goals
          have HI1 := Lib.hid (ins_first (s := s) (ds := ds) HI0.out (by have := HKL.out; omega) (by rw [← HK0.out]; exact HSK.out) (by rw [← HK0.out]; exact HDS.out) HB1.out)
          go_wp2_with fail
          go_roundw
          case rel => exact ⟨k + 1, _, _, _, _, by omega, rfl, rfl, rfl, rfl, by go_num, by rw [HK0.out]; exact HI1⟩
          case measure => simp [intOf]; omega
      · have hgt : (0 : Int) < k := by omega
        go_upto_region 7 with fail
        generalize hc2 : cs ++ (⟨#[44, 32]⟩ : ByteArray) = cs2
        generalize hm2 : ms ++ (⟨#[44, 32]⟩ : ByteArray) = ms2
        generalize hq2 : qs ++ (⟨#[44, 32]⟩ : ByteArray) = qs2
        have y1 : cs2.size ≤ 40 := by rw [← hc2, ByteArray.size_append', show (ByteArray.mk #[44, 32]).size = 2 from rfl]; omega
        have y2 : ms2.size ≤ 40 := by rw [← hm2, ByteArray.size_append', show (ByteArray.mk #[44, 32]).size = 2 from rfl]; omega
        have y3 : qs2.size ≤ 240 := by rw [← hq2, ByteArray.size_append', show (ByteArray.mk #[44, 32]).size = 2 from rfl]; omega
        have HQ2 := Lib.hid (And.intro hc2 (And.intro hm2 hq2))
        clear hc2 hm2 hq2
        have b1 : ¬ 9223372036854775807 < cs2.size + 1 := by omega
        have b2 : ¬ 9223372036854775807 < ms2.size + 1 := by omega
        have b3 : ¬ 9223372036854775807 < qs2.size + 1 := by omega
        have b4 : ¬ 9223372036854775807 < qs2.size + 1 + s.size := by omega
        go_region_held3 (fun w' => w'.cell? ⟨b, off + k, none⟩ = some (.string s)) (first | exact hcell | exact hc1) (first | (go_at_call 24; refine (digits9_small k hk100 _).mono ?_; rintro e w1 ⟨rfl, hb1⟩; have hc1 := (hb1.cell (p := ⟨b, off + k, none⟩) hbr).trans hcell; have HB1 := Lib.hid (HI.out.2.2.2.drew.trans (hb1.mono hszr)); have HDS := Lib.hid (show (⟨(Lib.decDigits k).toArray⟩ : ByteArray).data.toList = Lib.decDigits k from rfl); generalize (⟨(Lib.decDigits k).toArray⟩ : ByteArray) = ds at hds HDS; have b5 : ¬ 9223372036854775807 < cs2.size + 1 + ds.size := (by omega); clear hb1))
        all_goals
          have HI1 := Lib.hid (ins_next HI.out hk0 HKL.out HSK.out HDS.out HB1.out)
          rw [HQ2.out.1, HQ2.out.2.1, HQ2.out.2.2] at HI1
          go_wp2_with fail
          go_roundw
          case rel => exact ⟨k + 1, _, _, _, _, by omega, rfl, rfl, rfl, rfl, by go_num, HI1⟩
          case measure => simp [intOf]; omega
    · obtain rfl : k = n := by omega
      have hhl : (⟨#[73, 78, 83, 69, 82, 84, 32, 73, 78, 84, 79, 32, 116, 32, 40]⟩ : ByteArray).size = 15 := rfl
      go_wp2_with fail
      generalize hhd : (⟨#[73, 78, 83, 69, 82, 84, 32, 73, 78, 84, 79, 32, 116, 32, 40]⟩ : ByteArray) ++ cs ++ (⟨#[41]⟩ : ByteArray) ++ wd = hd
      have HHD := Lib.hid (show hd.data.toList = headI ss.length wd.data.toList by
        rw [← hhd, headI, iH, HN.out, ← HI.out.1]
        simp)
      have hhz : hd.size ≤ 120 := by
        rw [← hhd]
        simp only [ByteArray.size_append', hhl, show (ByteArray.mk #[41]).size = 1 from rfl]
        omega
      clear hhd hhl
      have HMK := Lib.hid (show ms.data.toList ++ [41] = marksI ss.length ++ [41] by rw [HI.out.2.1, HN.out])
      go_loop [15, 52] (fun u' i => ∃ (j : Nat) (u : ByteArray), j ≤ K ∧ u' = .string u ∧ i = .int .i64 j ∧ u.size ≤ 400 ∧ Hid (u.data.toList = wantI (headI ss.length wd.data.toList) (marksI ss.length ++ [41]) j)) (fun _ i => K - (intOf i).toNat)
      case atStart => exact ⟨0, _, Nat.zero_le _, rfl, rfl, by omega, HHD⟩
      case round =>
        obtain ⟨j, u, hj, rfl, rfl, hu, HU⟩ := hrel
        have h0j : (0 : Int) ≤ j := by omega
        by_cases hlj : j < K
        · have hjn : (j : Int) < K := by omega
          rcases Nat.eq_zero_or_pos j with hj0 | hj0
          · have hgt : ¬ (0 : Int) < j := by omega
            have HW := Lib.hid (show (u ++ ((⟨#[40]⟩ : ByteArray) ++ ms ++ (⟨#[41]⟩ : ByteArray))).data.toList = wantI (headI ss.length wd.data.toList) (marksI ss.length ++ [41]) (j + 1) by
              have h := HU.out
              rw [hj0] at h ⊢
              rw [wantI_one, ← h, ← HMK.out]
              simp)
            have HJ0 := Lib.hid hj0
            clear hj0
            go_wp2_with fail
            go_round
            case rel => exact ⟨j + 1, _, by omega, rfl, by go_num, ins_small HW.out (by omega) (by rw [← HHD.out, size_list]; exact hhz) (by rw [← HMK.out, List.length_append, size_list]; simp; omega), HW⟩
            case measure => simp [intOf]; omega
          · have hgt : (0 : Int) < j := by omega
            have HW := Lib.hid (show (u ++ (⟨#[44]⟩ : ByteArray) ++ ((⟨#[40]⟩ : ByteArray) ++ ms ++ (⟨#[41]⟩ : ByteArray))).data.toList = wantI (headI ss.length wd.data.toList) (marksI ss.length ++ [41]) (j + 1) by
              obtain ⟨i, rfl⟩ : ∃ i, j = i + 1 := ⟨j - 1, by omega⟩
              rw [wantI_snoc, ← HU.out, ← HMK.out]
              simp)
            go_wp2_with fail
            go_round
            case rel => exact ⟨j + 1, _, by omega, rfl, by go_num, ins_small HW.out (by omega) (by rw [← HHD.out, size_list]; exact hhz) (by rw [← HMK.out, List.length_append, size_list]; simp; omega), HW⟩
            case measure => simp [intOf]; omega
        · obtain rfl : j = K := by omega
          go_wp2_with fail
          go_ret2
          refine ⟨_, _, rfl, ?_, ?_, HI.out.2.2.2⟩
          · have hq : qs.data.toList = ask ss := by
              have h := HI.out.2.2.1
              rw [List.take_of_length_le (by rw [HN.out]; exact Nat.le_refl _)] at h
              exact h
            rw [← HHD.out, ← hq]
            simp
          · rw [← HU.out]
            simp
end Go.Proofs.YtpjadgdimkdblaaDoor
