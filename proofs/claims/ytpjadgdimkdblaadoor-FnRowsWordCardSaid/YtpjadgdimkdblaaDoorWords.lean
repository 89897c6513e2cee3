/- Words for texts as lists of bytes, without any program. Whether a text is empty, as the walk asks it. digits9 of a number below 100. The table of the powers of ten, out of what a row lists. No walk. What sqlx's zzIndex answers of a question mark: the place of the first one, or -1. A walk; every world, every text. What bare9 and brackets9 answer: whether the texts are bare, whether a text has a bracket. Walks; every world, every text. -/
import Derived.WalkKit
import Derived.WalkSpells
import Derived.WalkLawsBesides
import Derived.Lib.Hide
import Derived.Test.YtpjadgdimkdblaaDoorProg
import Derived.Lib.ItoaNum
import Derived.Laws.IdiomStrings
import Derived.Lib.LaidTab
import Derived.Lib.AppendIntMem
import Derived.LaidSub
namespace Go.Proofs.YtpjadgdimkdblaaDoor
open Go.RowKit
set_option linter.unusedVariables false

theorem drop_at (s : ByteArray) (i : Nat) (h : i < s.size) : s.data.toList.drop i = s[i] :: s.data.toList.drop (i + 1) := by
  rw [List.drop_eq_getElem_cons (by simpa using h)]
  rfl
theorem drop_end (s : ByteArray) (i : Nat) (h : ¬ i < s.size) : s.data.toList.drop i = [] := by
  have : s.data.toList.length = s.size := by simp
  exact List.drop_of_length_le (by omega)
theorem ret_bool {a b : Bool} (h : a = b) : Ending.returned (.bool a) = .returned (.bool b) := by rw [h]
theorem ret_int64 {a b : Int} (h : a = b) : Ending.returned (.int .i64 a) = .returned (.int .i64 b) := by rw [h]
theorem app_list (a b : ByteArray) : (a ++ b).data.toList = a.data.toList ++ b.data.toList := by simp [ByteArray.data_append]
theorem size_list (s : ByteArray) : s.data.toList.length = s.size := by simp
theorem ext_list {a b : ByteArray} (h : a.data.toList = b.data.toList) : a = b := by
  apply ByteArray.ext
  exact Array.toList_inj.1 h
theorem cut_list (s : ByteArray) (i j : Nat) : (s.extract i j).data.toList = (s.data.toList.drop i).take (j - i) := by
  rw [ByteArray.data_extract, Array.toList_extract]
theorem one_byte (s : ByteArray) (i : Nat) (h : i < s.size) : (s.extract i (i + 1)).data.toList = [s[i]] := by
  rw [cut_list, drop_at s i h]
  simp

/-- A text of ASCII. -/
def asc (s : ByteArray) : Prop := ∀ c ∈ s.data.toList, c.toNat < 128
theorem asc_get {s : ByteArray} (h : asc s) (i : Nat) (hi : i < s.size) : (s[i]'hi).toNat < 128 := h _ (by
  have h' : i < s.data.toList.length := by simpa using hi
  exact List.getElem_mem h')
theorem asc_app {a b : ByteArray} (ha : asc a) (hb : asc b) : asc (a ++ b) := by
  intro c hc
  rw [app_list, List.mem_append] at hc
  rcases hc with h | h
  · exact ha c h
  · exact hb c h

/-- The place of the first question mark from place i on, or -1. -/
def idxQ : List UInt8 → Nat → Int
  | [], _ => -1
  | c :: l, i => if (c.toNat : Int) = 63 then i else idxQ l (i + 1)

/-- x, k times behind acc. -/
def rep (acc x : ByteArray) : Nat → ByteArray
  | 0 => acc
  | k + 1 => rep acc x k ++ x
theorem rep_size (acc x : ByteArray) (k : Nat) : (rep acc x k).size = acc.size + k * x.size := by
  induction k with
  | zero => simp [rep]
  | succ k ih => rw [rep, ByteArray.size_append', ih, Nat.succ_mul]; omega
theorem rep_front (acc x : ByteArray) (k : Nat) : (rep acc x k).data.toList = acc.data.toList ++ (rep ByteArray.empty x k).data.toList := by
  induction k with
  | zero => simp [rep]
  | succ k ih => rw [rep, app_list, ih, rep, app_list, List.append_assoc]
theorem rep_one (x : ByteArray) (k : Nat) : (rep ByteArray.empty x (k + 1)).data.toList = x.data.toList ++ (rep ByteArray.empty x k).data.toList := by
  induction k with
  | zero => simp [rep]
  | succ k ih =>
    have h : ∀ j, (rep ByteArray.empty x (j + 1)).data.toList = (rep ByteArray.empty x j).data.toList ++ x.data.toList := fun j => by rw [rep, app_list]
    rw [h (k + 1)]
    conv => lhs; rw [ih]
    rw [h k, List.append_assoc]
theorem asc_rep {acc x : ByteArray} (ha : asc acc) (hx : asc x) (k : Nat) : asc (rep acc x k) := by
  induction k with
  | zero => exact ha
  | succ k ih => exact asc_app ih hx
end Go.Proofs.YtpjadgdimkdblaaDoor
namespace Go.Proofs.YtpjadgdimkdblaaDoor
open Go.RowKit
set_option linter.unusedVariables false

theorem loop_len (bs : ByteArray) : ∀ n i r, bs.size - i = n → (ByteArray.toList.loop bs i r).length = r.length + n := by
  intro n
  induction n with
  | zero =>
    intro i r h
    unfold ByteArray.toList.loop
    rw [if_neg (by omega)]
    simp
  | succ n ih =>
    intro i r h
    unfold ByteArray.toList.loop
    rw [if_pos (by omega), ih _ _ (by omega)]
    simp only [List.length_cons]
    omega
theorem toList_len (t : ByteArray) : t.toList.length = t.size := by
  unfold ByteArray.toList
  rw [loop_len t t.size 0 [] (by omega)]
  simp
theorem toList_empty {t : ByteArray} (h : t.size = 0) : t.toList.isEmpty = true := by
  have := toList_len t
  rw [h] at this
  rw [List.eq_nil_of_length_eq_zero this]
  rfl
theorem toList_some {t : ByteArray} (h : ¬ t.size = 0) : t.toList.isEmpty = false := by
  have := toList_len t
  cases hl : t.toList with
  | nil => rw [hl] at this; exact absurd this.symm h
  | cons a l => rfl
end Go.Proofs.YtpjadgdimkdblaaDoor
namespace Go.Proofs.YtpjadgdimkdblaaDoor
open Go.RowKit
set_option linter.unusedVariables false

def dg (c : Int) : ByteArray := ⟨#[UInt8.ofNat c.toNat]⟩
theorem dg_size (c : Int) : (dg c).size = 1 := rfl
theorem conv_one (w : World) (c : Int) (h0 : 0 ≤ c) (h1 : c < 256) : (convert 59 9 (.slice (some ⟨w.heap.size, 0, none⟩) 1 1)).run Tryd.prog (w.alloc (.cells #[.int .u8 c] 5)) = .ok (.string (dg c)) (w.alloc (.cells #[.int .u8 c] 5)) := by
  refine run_convert_bytes_back (P := Tryd.prog) (w.alloc (.cells #[.int .u8 c] 5)) 59 9 5 ⟨w.heap.size, 0, none⟩ 1 [UInt8.ofNat c.toNat] Tryd.underlying59 Tryd.underlying5 Tryd.underlying9 ?_
  intro j hj
  have hj0 : j = 0 := by simpa using hj
  subst hj0
  have hadd : (⟨w.heap.size, 0, none⟩ : Addr).add 0 = ⟨w.heap.size, 0, none⟩ := by unfold Addr.add; split <;> simp_all
  rw [hadd, cell_of_row _ _ _ _ _ _ (heap_alloc_new w _)]
  show some (Value.int .u8 c) = some (.int .u8 ((UInt8.ofNat c.toNat).toNat : Int))
  rw [UInt8.toNat_ofNat']
  congr 2
  omega
theorem dig_step {i m : Nat} {s : ByteArray} {l : List UInt8} (h : Lib.decDigits i = Lib.decDigits m ++ l) (hs : s.data.toList = l) (h9 : 9 < m) : Lib.decDigits i = Lib.decDigits (m / 10) ++ (dg (48 + (m : Int) % 10) ++ s).data.toList := by
  rw [h, Lib.decDigits, dif_neg (by omega), app_list, hs, List.append_assoc]
  show _ ++ ([UInt8.ofNat (48 + m % 10)] ++ l) = _ ++ ([UInt8.ofNat ((48 + (m : Int) % 10).toNat)] ++ l)
  rw [show (48 + (m : Int) % 10).toNat = 48 + m % 10 from by omega]
theorem dig_end {i m : Nat} {s : ByteArray} {l : List UInt8} (h : Lib.decDigits i = Lib.decDigits m ++ l) (hs : s.data.toList = l) (h9 : ¬ 9 < m) : dg (48 + (m : Int)) ++ s = ⟨(Lib.decDigits i).toArray⟩ := by
  apply ext_list
  rw [app_list, hs]
  show [UInt8.ofNat ((48 + (m : Int)).toNat)] ++ l = Lib.decDigits i
  rw [h, Lib.decDigits, dif_pos (by omega), show (48 + (m : Int)).toNat = 48 + m from by omega]
theorem ret_string1 {a b : ByteArray} (h : a = b) : Ending.returned (.string a) = .returned (.string b) := by rw [h]
set_option maxHeartbeats 1000000 in
set_option maxRecDepth 100000 in
theorem digits9_small (i : Nat) (hi : i < 100) (w : World) :
    Calls Tryd.prog 24 #[.int .i64 i] w fun e w' => e = .returned (.string ⟨(Lib.decDigits i).toArray⟩) ∧ Below w.heap.size w w' := by
  go_enter Tryd.func24, Tryd.ntmps24
  go_wp2_with fail
  go_loopw [0, 3] (fun nv ov wr => ∃ (m : Nat) (s : ByteArray) (l : List UInt8), nv = .int .i64 m ∧ ov = .string s ∧ m < 100 ∧ s.size ≤ 100 ∧ (s.size = 0 ∨ m < 10) ∧ Hid (s.data.toList = l) ∧ Hid (Lib.decDigits i = Lib.decDigits m ++ l) ∧ Hid (Below w.heap.size w wr)) (fun nv _ _ => (intOf nv).toNat)
  case atStart => exact ⟨i, ⟨#[]⟩, [], rfl, rfl, hi, by decide, Or.inl rfl, Lib.hid rfl, Lib.hid (by simp), Lib.hid (Below.refl _ _)⟩
  case round =>
    obtain ⟨m, s, l, rfl, rfl, hm, hl, hml, HL, HD, HB⟩ := hrel
    by_cases h9 : 9 < m
    · have h9i : (9 : Int) < m := by omega
      have hconv := conv_one wr (48 + (m : Int) % 10) (by omega) (by omega)
      have hz := dg_size (48 + (m : Int) % 10)
      have HDS := Lib.hid (dig_step HD.out HL.out h9)
      go_wp2_with fail
      go_roundw
      case rel =>
        refine ⟨m / 10, _, _, by go_num, rfl, by omega, ?_, ?_, Lib.hid rfl, HDS, Lib.hid (HB.out.alloc HB.out.size _)⟩
        · rw [ByteArray.size_append', dg_size]; omega
        · rw [ByteArray.size_append', dg_size]; omega
      case measure => simp [intOf]; omega
    · have h9i : ¬ (9 : Int) < m := by omega
      have hconv := conv_one wr (48 + (m : Int)) (by omega) (by omega)
      have hz := dg_size (48 + (m : Int))
      have HDE := Lib.hid (dig_end HD.out HL.out h9)
      go_wp2_with fail
      go_ret
      exact ⟨ret_string1 HDE.out, HB.out.alloc HB.out.size _⟩
end Go.Proofs.YtpjadgdimkdblaaDoor
namespace Go.Proofs.YtpjadgdimkdblaaDoor
open Go.RowKit
set_option linter.unusedVariables false

def Pow10 (w : World) : Prop := Lib.TabIs Tryd.prog w "internal/strconv.uint64pow10" .u64 Lib.pow10Tab
theorem tab_of {l : List (String × DataW Unit)} {w : World} (he : l.filter (fun x => x.1 == "internal/strconv.uint64pow10") = [("internal/strconv.uint64pow10", Lib.tabData .u64 Lib.pow10Tab)]) (h : laidMetH Tryd.prog l w) : Pow10 w := by
  have h1 := h.filter (fun x => x.1 == "internal/strconv.uint64pow10")
  rw [he] at h1
  exact Lib.tabIs_of_head (g := 1) (t := 137) (e := 113) (n := 20) (by kernel_rfl) (by kernel_rfl) Tryd.underlying137 Tryd.underlying113 (by kernel_rfl) (by kernel_rfl) h1
theorem pow10_below {w w' : World} (h : Pow10 w) (hb : Below w.heap.size w w') : Pow10 w' := Lib.tabBelow_of_tabIs h w' hb
end Go.Proofs.YtpjadgdimkdblaaDoor
namespace Go.Proofs.YtpjadgdimkdblaaDoor
open Go.RowKit
set_option linter.unusedVariables false

set_option maxHeartbeats 1000000 in
theorem x_idx (s : ByteArray) (w : World) (hs : s.size ≤ 1000000000) :
    Calls Tryd.prog 49 #[.string s, .string ⟨#[63]⟩] w fun e w' => e = .returned (.int .i64 (idxQ s.data.toList 0)) ∧ w = w' := by
  go_enter Tryd.func49, Tryd.ntmps49
  go_wp2
  go_loop [5] (fun i => ∃ k : Nat, k ≤ s.size ∧ i = .int .i64 k ∧ Hid (idxQ (s.data.toList.drop k) k = idxQ s.data.toList 0)) (fun i => s.size - (intOf i).toNat)
  case atStart => exact ⟨0, Nat.zero_le _, rfl, Lib.hid rfl⟩
  case round =>
    obtain ⟨k, hk, rfl, HK⟩ := hrel
    have h0 : (0 : Int) ≤ k := by omega
    by_cases hlt : k < s.size
    · have hki : (k : Int) + 1 ≤ s.size := by omega
      have HE := Lib.hid (one_byte s k hlt)
      have HD := Lib.hid (drop_at s k hlt)
      go_wp2
      case roundEnd =>
        go_round
        case rel =>
          refine ⟨k + 1, by omega, by go_num, Lib.hid ?_⟩
          have h := HK.out
          have e : ¬ (s[k].toNat : Int) = 63 := fun e => by
            have g := ‹((s.extract k (k + 1)).toList == [63]) = false›
            rw [Go.ByteArray.toList_eq, HE.out, beq_eq_false_iff_ne] at g
            exact g (by rw [show s[k] = 63 from UInt8.toNat_inj.1 (by rw [show (63 : UInt8).toNat = 63 from rfl]; omega)])
          rw [HD.out, idxQ, if_neg e] at h
          exact h
        case measure => simp [intOf]; omega
      go_ret
      have h := HK.out
      have e : (s[k].toNat : Int) = 63 := by
        have g := ‹((s.extract k (k + 1)).toList == [63]) = true›
        rw [Go.ByteArray.toList_eq, HE.out, beq_iff_eq, List.cons.injEq] at g
        rw [g.1]
        rfl
      rw [HD.out, idxQ, if_pos e] at h
      exact ⟨ret_int64 h, rfl⟩
    · have hki : ¬ (k : Int) + 1 ≤ s.size := by omega
      go_wp2
      go_ret
      have h := HK.out
      rw [drop_end s k hlt, idxQ] at h
      rw [← h]
      exact ⟨rfl, rfl⟩
end Go.Proofs.YtpjadgdimkdblaaDoor
namespace Go.Proofs.YtpjadgdimkdblaaDoor
open Go.RowKit
set_option linter.unusedVariables false

/-- A byte that a bare text may hold. -/
def okc (c : Int) : Bool := !(decide (c < 32)) && (!(decide (c > 126)) && (!(c == 63) && (!(c == 58) && (!(c == 36) && !(c == 64)))))
theorem okc_bad {x : Int} (h : x < 32 ∨ 126 < x ∨ x = 63 ∨ x = 58 ∨ x = 36 ∨ x = 64) : okc x = false := by
  unfold okc
  rcases h with h | h | h | h | h | h <;> simp [h]
theorem okc_good {x : Int} (h : 32 ≤ x ∧ x ≤ 126 ∧ x ≠ 63 ∧ x ≠ 58 ∧ x ≠ 36 ∧ x ≠ 64) : okc x = true := by
  unfold okc
  simp
  omega
theorem okc_iff {x : Int} : okc x = true ↔ 32 ≤ x ∧ x ≤ 126 ∧ x ≠ 63 ∧ x ≠ 58 ∧ x ≠ 36 ∧ x ≠ 64 := by
  unfold okc
  simp
def bt (s : ByteArray) (i : Nat) : Int := ((s.data.toList.getD i 0).toNat : Int)
def bare1 (s : ByteArray) : Prop := s.size ≤ 100 ∧ ∀ i, i < s.size → okc (bt s i) = true
def bareP (ss : List ByteArray) : Prop := ∀ i, i < ss.length → bare1 (ss.getD i ByteArray.empty)

open Classical in
/-- Whether bare9 says yes. -/
noncomputable def bareB (ss : List ByteArray) : Bool := decide (bareP ss ∧ ss.length ≤ 20)
theorem bareB_true {ss : List ByteArray} (h : bareP ss) (hl : ss.length ≤ 20) : bareB ss = true := by unfold bareB; simp [h, hl]
theorem bareB_false {ss : List ByteArray} (h : ¬ (bareP ss ∧ ss.length ≤ 20)) : bareB ss = false := by unfold bareB; simp only [decide_eq_false_iff_not]; exact h
theorem bareB_iff {ss : List ByteArray} : bareB ss = true ↔ bareP ss ∧ ss.length ≤ 20 := by unfold bareB; simp
theorem bt_get (s : ByteArray) (i : Nat) (h : i < s.size) : bt s i = ((s[i]'h).toNat : Int) := by
  unfold bt
  have h' : i < s.data.toList.length := by simpa using h
  rw [List.getD_eq_getElem?_getD, List.getElem?_eq_getElem h']
  rfl
set_option maxHeartbeats 1000000 in
theorem bare9_nil (A : Option Addr) (c : Nat) (w : World) :
    Calls Tryd.prog 13 #[.slice A 0 c] w fun e w' => e = .returned (.bool true) ∧ w = w' := by
  go_enter Tryd.func13, Tryd.ntmps13
  go_wp2
  go_loop [8] (fun i => i = .int .i64 0) (fun _ => 0)
  case atStart => rfl
  case round =>
    subst hrel
    go_wp2
    go_ret
    exact ⟨rfl, rfl⟩
set_option maxHeartbeats 4000000 in
set_option maxRecDepth 100000 in
theorem bare9_any (b off n c : Nat) (ss : List ByteArray) (w : World) (hn : ss.length = n) (hm : n ≤ 9223372036854775807)
    (hss : ∀ i, i < n → w.cell? ⟨b, off + i, none⟩ = some (.string (ss.getD i ByteArray.empty))) (hz : ∀ i, i < n → (ss.getD i ByteArray.empty).size ≤ maxLen) :
    Calls Tryd.prog 13 #[.slice (some ⟨b, off, none⟩) n c] w fun e w' => e = .returned (.bool (bareB ss)) ∧ w = w' := by
  unfold maxLen at hz
  have HN := Lib.hid hn
  clear hn
  go_enter Tryd.func13, Tryd.ntmps13
  go_wp2
  go_loop [8] (fun i => ∃ k : Nat, k ≤ n ∧ i = .int .i64 k ∧ ∀ j, j < k → bare1 (ss.getD j ByteArray.empty)) (fun i => n - (intOf i).toNat)
  case atStart => exact ⟨0, Nat.zero_le _, rfl, fun j h => by omega⟩
  case round =>
    obtain ⟨k, hk, rfl, hb⟩ := hrel
    have HB := Lib.hid hb
    clear hb
    by_cases hlt : k < n
    · have hc := hss k hlt
      have hz1 := hz k hlt
      have hzz : (0 : Int) ≤ k := by omega
      have hkn : (k : Int) < n := by omega
      generalize hsk : ss.getD k ByteArray.empty = s at hc hz1
      have HS := Lib.hid hsk
      clear hsk hss hz
      by_cases hsz : (100 : Int) < s.size
      · go_wp2
        go_ret
        refine ⟨ret_bool (bareB_false ?_).symm, rfl⟩
        intro ⟨h, _⟩
        have := h k (by rw [HN.out]; exact hlt)
        rw [HS.out] at this
        have := this.1
        omega
      · go_wp2
        go_loop [22] (fun i => ∃ m : Nat, m ≤ s.size ∧ i = .int .i64 m ∧ ∀ j, j < m → okc (bt s j) = true) (fun i => s.size - (intOf i).toNat)
        case atStart => exact ⟨0, Nat.zero_le _, rfl, fun j h => by omega⟩
        case round =>
          obtain ⟨m, hm2, rfl, hb⟩ := hrel
          have HB2 := Lib.hid hb
          clear hb
          by_cases hmt : m < s.size
          · have hg := bt_get s m hmt
            have hmm : (0 : Int) ≤ m := by omega
            have hmn : (m : Int) < s.size := by omega
            have HG := Lib.hid hg
            clear hg
            go_wp2
            case roundEnd =>
              go_round
              case rel =>
                refine ⟨m + 1, by omega, by go_num, fun j hj => ?_⟩
                by_cases hjk : j = m
                · subst hjk
                  rw [HG.out]
                  exact okc_good (by simp only [beq_eq_false_iff_ne, ne_eq] at *; omega)
                · exact HB2.out j (by omega)
              case measure => simp [intOf]; omega
            all_goals
              go_ret
              refine ⟨ret_bool (bareB_false ?_).symm, rfl⟩
              intro ⟨h, _⟩
              have h := (h k (by rw [HN.out]; exact hlt)).2
              rw [HS.out] at h
              have h := okc_iff.1 ((HG.out) ▸ h m hmt)
              first | omega | (simp only [beq_iff_eq] at *; omega)
          · go_wp2
            go_round
            case rel =>
              refine ⟨k + 1, by omega, by go_num, fun j hj => ?_⟩
              by_cases hjk : j = k
              · subst hjk
                rw [HS.out]
                refine ⟨by omega, fun i hi => HB2.out i (by omega)⟩
              · exact HB.out j (by omega)
            case measure => simp [intOf]; omega
    · go_wp2
      go_ret
      refine ⟨ret_bool ?_, rfl⟩
      have hb := HB.out
      have hn := HN.out
      by_cases h20 : n ≤ 20
      · rw [bareB_true (fun i hi => hb i (by omega)) (by omega)]
        simp only [decide_eq_true_eq]
        omega
      · rw [bareB_false (fun h => by omega)]
        simp only [decide_eq_false_iff_not]
        omega


theorem asc_bare {s : ByteArray} (h : bare1 s) : asc s := by
  intro c hc
  obtain ⟨i, hi, rfl⟩ := List.getElem_of_mem hc
  have := h.2 i (by simpa using hi)
  unfold bt at this
  rw [List.getD_eq_getElem?_getD, List.getElem?_eq_getElem hi] at this
  have := okc_iff.1 this
  simp only [Option.getD_some] at this
  omega
end Go.Proofs.YtpjadgdimkdblaaDoor
