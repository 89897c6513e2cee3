/- FnRowsWord walked: it answers true whatever the names, the lists and the three numbers are, and only makes new memory. -/
import Derived.Test.YtpjadgdimkdblaaDoorRkL
import Derived.OpenShut
import Derived.Laws.Rows
import Derived.Lib.SlBytesConst
import Derived.Lib.BufferMore
import Derived.Deep.RegionHeld3
import Derived.Deep.Cut
namespace Go.Proofs.YtpjadgdimkdblaaDoor
open Go.RowKit
set_option linter.unusedVariables false

theorem nxD {w0 w w1 : World} (h : Below w0.heap.size w0 w) (hb : Below w.heap.size w w1) : Below w0.heap.size w0 w1 := h.trans (hb.mono h.size)
theorem lsAt_belowD {w w' : World} {A : Option Addr} {ls : List LRec} (h : LsAt w A ls) (hb : Below w.heap.size w w') : LsAt w' A ls := by
  rcases h with e | ⟨b, off, e, h1, h2⟩
  · exact .inl e
  · refine .inr ⟨b, off, e, Nat.lt_of_lt_of_le h1 hb.size, fun i hi => ?_⟩
    obtain ⟨h3, h4⟩ := h2 i hi
    exact ⟨(hb.cell (p := ⟨b, off + i, none⟩) h1).trans h3, h4.1, h4.2.1, h4.2.2.1, listAt_below h4.2.2.2 hb⟩
/-- A letter of the word, capital or small. -/
def oneL (c : UInt8) (j : Nat) : Prop := c = valW.getD j 0 ∨ c = valW.getD j 0 + 32
/-- The word as it stands after so many letters. -/
def WordSo (b : Nat) (w : World) (i : Nat) (ws : List UInt8) (wr : World) : Prop :=
  ws.length = 6 ∧ wr.heap[b]? = some (.cells (Lib.byteCells ws).toArray 5 (6, 7)) ∧ Below b w wr ∧ (∀ j, j < 6 → oneL (ws.getD j 0) j) ∧ ∀ j, i ≤ j → j < 6 → ws.getD j 0 = valW.getD j 0
theorem word_start (w : World) : WordSo w.heap.size w 0 valW (w.alloc (.cells #[.int .u8 86, .int .u8 65, .int .u8 76, .int .u8 85, .int .u8 69, .int .u8 83] 5 (6, 7))) :=
  ⟨rfl, heap_alloc_new w _, (Below.refl _ _).alloc (Nat.le_refl _) _, fun j hj => .inl rfl, fun j _ _ => rfl⟩
theorem word_cell {b i : Nat} {w wr : World} {ws : List UInt8} (h : WordSo b w i ws wr) (hi : i < 6) : wr.cell? ⟨b, i, none⟩ = some (.int .u8 ((valW.getD i 0).toNat : Int)) ∧ wr.frozen? ⟨b, i, none⟩ = false := by
  obtain ⟨h1, h2, h3, h4, h5⟩ := h
  refine ⟨?_, by simp [World.frozen?, h2]; omega⟩
  rw [cell_of_row _ _ _ _ _ _ h2, ← h5 i (Nat.le_refl _) hi]
  have : i < (Lib.byteCells ws).length := by unfold Lib.byteCells; rw [List.length_map]; omega
  rw [List.getElem?_toArray]
  unfold Lib.byteCells
  rw [List.getElem?_map, List.getD_eq_getElem?_getD, List.getElem?_eq_getElem (by omega)]
  rfl
theorem word_small' (i : Nat) : ((valW.getD i 0).toNat : Int) ≤ 90 := by
  by_cases h : i < 6
  · have : i = 0 ∨ i = 1 ∨ i = 2 ∨ i = 3 ∨ i = 4 ∨ i = 5 := by omega
    rcases this with rfl | rfl | rfl | rfl | rfl | rfl <;> decide
  · have : valW.getD i 0 = 0 := by
      rw [List.getD_eq_getElem?_getD, List.getElem?_eq_none (by show 6 ≤ i; omega)]
      rfl
    rw [this]
    decide
theorem word_skip {b i : Nat} {w wr : World} {ws : List UInt8} (h : WordSo b w i ws wr) : WordSo b w (i + 1) ws wr :=
  ⟨h.1, h.2.1, h.2.2.1, h.2.2.2.1, fun j h1 h2 => h.2.2.2.2 j (by omega) h2⟩
theorem word_turn {b i : Nat} {w wr : World} {ws : List UInt8} (h : WordSo b w i ws wr) (hi : i < 6) : ∃ ws', WordSo b w (i + 1) ws' (wr.setCell ⟨b, i, none⟩ (.int .u8 ((valW.getD i 0).toNat + 32))) := by
  obtain ⟨h1, h2, h3, h4, h5⟩ := h
  have hy : ((valW.getD i 0 + 32 : UInt8).toNat : Int) = (valW.getD i 0).toNat + 32 := by
    have : i = 0 ∨ i = 1 ∨ i = 2 ∨ i = 3 ∨ i = 4 ∨ i = 5 := by omega
    rcases this with rfl | rfl | rfl | rfl | rfl | rfl <;> decide
  refine ⟨ws.set i (valW.getD i 0 + 32), by rw [List.length_set]; exact h1, ?_, h3.setCell (Nat.le_refl _) _, fun j hj => ?_, fun j hj hj6 => ?_⟩
  · rw [Lib.heap_setCell_same h2, ← hy]
    congr 2
    simp [Lib.byteCells, List.map_set]
  · by_cases e : i = j
    · subst e
      right
      rw [List.getD_eq_getElem?_getD, List.getElem?_set_self (by omega)]
      rfl
    · rw [List.getD_eq_getElem?_getD, List.getElem?_set_ne e, ← List.getD_eq_getElem?_getD]
      exact h4 j hj
  · rw [List.getD_eq_getElem?_getD, List.getElem?_set_ne (by omega), ← List.getD_eq_getElem?_getD]
    exact h5 j (by omega) hj6
theorem word_ok {b i : Nat} {w wr : World} {ws : List UInt8} (h : WordSo b w i ws wr) : WordOk ws ∧ (∀ c ∈ ws, plainC c) ∧ ws.length = 6 := by
  have h4 := h.2.2.2.1
  refine ⟨⟨h.1, fun t ht => ?_⟩, fun c hc => ?_, h.1⟩
  · have : t = 0 ∨ t = 1 ∨ t = 2 ∨ t = 3 ∨ t = 4 ∨ t = 5 := by omega
    have h5 := h4 t ht
    unfold oneL at h5
    unfold isC
    rcases this with rfl | rfl | rfl | rfl | rfl | rfl <;> (rcases h5 with e | e <;> rw [e] <;> first | exact .inl rfl | exact .inr rfl)
  · obtain ⟨j, hj, rfl⟩ := List.getElem_of_mem hc
    rw [h.1] at hj
    have h5 := h4 j hj
    unfold oneL at h5
    rw [List.getD_eq_getElem?_getD, List.getElem?_eq_getElem (by rw [h.1]; exact hj)] at h5
    have e : (some ws[j]).getD 0 = ws[j] := rfl
    rw [e] at h5
    have : j = 0 ∨ j = 1 ∨ j = 2 ∨ j = 3 ∨ j = 4 ∨ j = 5 := by omega
    rcases h5 with e | e <;> rw [e] <;> rcases this with rfl | rfl | rfl | rfl | rfl | rfl <;> decide
theorem word_conv {b i : Nat} {w wr W : World} {ws : List UInt8} (h : WordSo b w i ws wr) (hW : ∀ j, W.cell? ⟨b, j, none⟩ = wr.cell? ⟨b, j, none⟩) : (convert 59 9 (.slice (some ⟨b, 0, none⟩) 6 6)).run Tryd.prog W = .ok (.string ⟨ws.toArray⟩) W := by
  obtain ⟨h1, h2, _⟩ := h
  have := run_convert_bytes_back (P := Tryd.prog) W 59 9 5 ⟨b, 0, none⟩ 6 ws Tryd.underlying59 Tryd.underlying5 Tryd.underlying9 (fun j hj => by
    rw [addz, hW, cell_of_row _ _ _ _ _ _ h2, List.getElem?_toArray]
    unfold Lib.byteCells
    rw [List.getElem?_map, List.getElem?_eq_getElem hj]
    rfl)
  rw [h1] at this
  exact this
/-- The white space. -/
def gapsB : List ByteArray := [⟨#[]⟩, ⟨#[32]⟩, ⟨#[10]⟩, ⟨#[9, 32]⟩, ⟨#[32, 32]⟩]
theorem gap_ok {k : Nat} (hk : k < 5) : (∀ c ∈ (gapsB.getD k ByteArray.empty).data.toList, isW (c.toNat : Int)) ∧ (∀ c ∈ (gapsB.getD k ByteArray.empty).data.toList, plainC c) ∧ (gapsB.getD k ByteArray.empty).size ≤ 2 := by
  have h : ∀ l : List UInt8, (∀ c ∈ l, c = 32 ∨ c = 10 ∨ c = 9) → (∀ c ∈ l, isW (c.toNat : Int)) ∧ (∀ c ∈ l, plainC c) := by
    intro l hl
    refine ⟨fun c hc => ?_, fun c hc => ?_⟩
    · rcases hl c hc with rfl | rfl | rfl
      · exact .inl rfl
      · exact .inr (.inr (.inl rfl))
      · exact .inr (.inl rfl)
    · rcases hl c hc with rfl | rfl | rfl <;> decide
  have : k = 0 ∨ k = 1 ∨ k = 2 ∨ k = 3 ∨ k = 4 := by omega
  rcases this with rfl | rfl | rfl | rfl | rfl
  all_goals
    exact ⟨(h _ (by decide)).1, (h _ (by decide)).2, by decide⟩
def gapsO : Obj := .cells #[.string ⟨#[]⟩, .string ⟨#[32]⟩, .string ⟨#[10]⟩, .string ⟨#[9, 32]⟩, .string ⟨#[32, 32]⟩] 9
theorem gap_cell (w : World) {k : Nat} (hk : k < 5) : (w.alloc (.cells #[.string ⟨#[]⟩, .string ⟨#[32]⟩, .string ⟨#[10]⟩, .string ⟨#[9, 32]⟩, .string ⟨#[32, 32]⟩] 9)).cell? ⟨w.heap.size, k, none⟩ = some (.string (gapsB.getD k ByteArray.empty)) := by
  rw [cell_of_row _ _ _ _ _ _ (heap_alloc_new w _)]
  have : k = 0 ∨ k = 1 ∨ k = 2 ∨ k = 3 ∨ k = 4 := by omega
  rcases this with rfl | rfl | rfl | rfl | rfl <;> rfl
set_option maxHeartbeats 8000000 in
set_option maxRecDepth 100000 in
theorem rowsWord_any (A : Option Addr) (n c : Nat) (ss : List ByteArray) (A2 : Option Addr) (n2 c2 : Nat) (ls : List LRec) (cs bf af : Int) (w : World) (hp : Pow10 w) (hn : ss.length = n) (hm : n ≤ maxLen) (hx : StrsAt w A ss) (hz : ∀ i, i < n → (ss.getD i ByteArray.empty).size ≤ maxLen) (hn2 : ls.length = n2) (hm2 : n2 ≤ maxLen) (_ : A2 = none → c2 = 0) (hx2 : LsAt w A2 ls) (hcs : (Lit.int .u8 cs).wf = true) (hbf : (Lit.int .u8 bf).wf = true) (haf : (Lit.int .u8 af).wf = true) :
    Calls Tryd.prog 9 #[.slice A n c, .slice A2 n2 c2, .int .u8 cs, .int .u8 bf, .int .u8 af] w fun e w' => e = .returned (.bool true) ∧ Below w.heap.size w w' := by
  have HP := Lib.hid hp
  have HX := Lib.hid hx
  have HN := Lib.hid hn
  have HZ := Lib.hid hz
  have HX2 := Lib.hid hx2
  have HN2 := Lib.hid hn2
  have hm' := hm
  unfold maxLen at hm hm2
  have hbd := Go.bounds_u8 hcs
  have hbd2 := Go.bounds_u8 hbf
  have hbd3 := Go.bounds_u8 haf
  have kc := fun (w : World) (C : Array Value) (n c : Nat) => Lib.run_convert_bytes_const (P := Tryd.prog) w 59 5 C n c Tryd.underlying59 Tryd.underlying5
  clear hp hx hn hz hx2 hn2
  go_enter Tryd.func9, Tryd.ntmps9
  go_wp2_with fail
  refine (fits2_any A n c ss w HN.out hm' HX.out).mono ?_
  rintro e w' ⟨r, rfl, hr, rfl⟩
  cases r with
  | false =>
    clear hr
    go_wp2
    go_ret
    exact ⟨rfl, Below.refl _ _⟩
  | true =>
  have hnn := hr rfl
  clear hr
  by_cases h2 : (2147483647 : Int) < n2
  · go_wp2
    go_ret
    exact ⟨rfl, Below.refl _ _⟩
  go_wp2_with fail
  refine (rows9_any A n c ss A2 n2 c2 ls w HN.out hnn HX.out HZ.out HN2.out (by omega) HX2.out).mono ?_
  rintro e w1 ⟨a3, n3, c3, r, rfl, hb1, hr⟩
  have HW1 := Lib.hid hb1
  have HR := Lib.hid hr
  clear hr hb1
  cases r with
  | false =>
    go_wp2
    go_ret
    exact ⟨rfl, HW1.out⟩
  | true =>
  obtain ⟨hn3, hg, rs, hrs, hgs⟩ := HR.out rfl
  obtain rfl : n3 = n2 := by rw [hn3, HN2.out]
  have HG := Lib.hid hg
  have hn1 : 1 ≤ n := by rw [← HN.out]; exact hg.some1
  have hn6 : n ≤ 6 := by rw [← HN.out]; exact hg.few1
  have hk1 : 1 ≤ n3 := by rw [← HN2.out]; exact hg.some2
  have hk8 : n3 ≤ 8 := by rw [← HN2.out]; exact hg.few2
  have HKR := Lib.hid (kind_rows hg (by rw [← hn3]; rw [← hn3] at hrs; exact hrs) hgs)
  clear hn3 hg hrs hgs HR
  go_wp2_with fail
  go_loopw [41] (fun i w' => ∃ (i' : Nat) (ws : List UInt8) (wr : World), i' ≤ 6 ∧ wr = w' ∧ i = .int .i64 i' ∧ Hid (WordSo w1.heap.size w1 i' ws wr)) (fun i _ => 6 - (intOf i).toNat)
  case atStart => exact ⟨0, _, _, by omega, rfl, rfl, Lib.hid (word_start w1)⟩
  case round =>
    obtain ⟨i, ws, wr, hi, rfl, rfl, HS⟩ := hrel
    have h0i : (0 : Int) ≤ i := by omega
    by_cases hlt : i < 6
    · have hin : (i : Int) < 6 := by omega
      have hwc := (word_cell HS.out hlt).1
      have hwf := (word_cell HS.out hlt).2
      have hx90 := word_small' i
      have HTN := Lib.hid (word_turn HS.out hlt)
      generalize (valW.getD i 0).toNat = xv at hwc hx90 HTN
      go_wp2_with fail
      · go_roundw
        case rel =>
          obtain ⟨ws', h'⟩ := HTN.out
          exact ⟨i + 1, ws', _, by omega, rfl, by go_num, Lib.hid h'⟩
        case measure => simp [intOf]; omega
      · go_roundw
        case rel => exact ⟨i + 1, ws, _, by omega, rfl, by go_num, Lib.hid (word_skip HS.out)⟩
        case measure => simp [intOf]; omega
    · obtain rfl : i = 6 := by omega
      have HWO := Lib.hid (word_ok HS.out)
      have HB1 := Lib.hid HS.out.2.2.1
      have hbw : w1.heap.size < wr.heap.size := (Array.getElem?_eq_some_iff.1 HS.out.2.1).1
      have hconv := word_conv (W := (wr.alloc (.cells #[.string ⟨#[]⟩, .string ⟨#[32]⟩, .string ⟨#[10]⟩, .string ⟨#[9, 32]⟩, .string ⟨#[32, 32]⟩] 9)).drew) HS.out (fun j => World.cell?_alloc_past _ _ _ hbw)
      obtain ⟨kb, hkb, hkb5⟩ : ∃ kb : Nat, bf % 5 = kb ∧ kb < 5 := ⟨(bf % 5).toNat, by omega, by omega⟩
      obtain ⟨ka, hka, hka5⟩ : ∃ ka : Nat, af % 5 = ka ∧ ka < 5 := ⟨(af % 5).toNat, by omega, by omega⟩
      have hgb := gap_cell wr hkb5
      have hga := gap_cell wr hka5
      have HGB := Lib.hid (gap_ok hkb5)
      have HGA := Lib.hid (gap_ok hka5)
      have hzb := HGB.out.2.2
      have hza := HGA.out.2.2
      generalize gapsB.getD kb ByteArray.empty = gb at hgb HGB hzb
      generalize gapsB.getD ka ByteArray.empty = ga at hga HGA hza
      have hwz : (⟨ws.toArray⟩ : ByteArray).size ≤ 6 := Nat.le_of_eq HWO.out.2.2
      have HWL := Lib.hid (show (⟨ws.toArray⟩ : ByteArray).data.toList = ws from rfl)
      have HCV := Lib.hid (fun (W : World) (hW : ∀ j, W.cell? ⟨w1.heap.size, j, none⟩ = wr.cell? ⟨w1.heap.size, j, none⟩) => word_conv (W := W) HS.out hW)
      generalize (⟨ws.toArray⟩ : ByteArray) = wb at hconv hwz HWL HCV
      have b1 : ¬ 9223372036854775807 < gb.size + wb.size := by omega
      have b2 : ¬ 9223372036854775807 < gb.size + wb.size + ga.size := by omega
      have htb : bf.tmod 5 = kb := by rw [Int.tmod_eq_emod_of_nonneg (by omega)]; exact hkb
      have hta : af.tmod 5 = ka := by rw [Int.tmod_eq_emod_of_nonneg (by omega)]; exact hka
      have hkb0 : (0 : Int) ≤ kb := by omega
      have hka0 : (0 : Int) ≤ ka := by omega
      have hkb5i : (kb : Int) < 5 := by omega
      have hka5i : (ka : Int) < 5 := by omega
      have HBG := Lib.hid ((HB1.out.alloc HB1.out.size gapsO).drew)
      have HBX := Lib.hid (HW1.out.trans (HBG.out.mono HW1.out.size))
      have HLT := Lib.hid (show wr.heap.size < (wr.alloc gapsO).heap.size by simp)
      have HZZ := Lib.hid (show (gb ++ wb ++ ga).size ≤ 50 by rw [ByteArray.size_append', ByteArray.size_append']; omega)
      go_upto_region 14 with fail
      go_region_held3 (fun w' => w'.cell? ⟨wr.heap.size, kb, none⟩ = some (.string gb) ∧ w'.cell? ⟨wr.heap.size, ka, none⟩ = some (.string ga) ∧ (convert 59 9 (.slice (some ⟨w1.heap.size, 0, none⟩) 6 6)).run Tryd.prog w' = .ok (.string wb) w') (first | exact ⟨hgb, hga, hconv⟩ | exact ⟨hgb1, hga1, hcv1⟩) (first | (go_at_call 23; refine (insert9_any A n c n3 ss (gb ++ wb ++ ga) _ HN.out hn6 (strsAt_below HX.out HBX.out) (name_size HG.out) hk8 HZZ.out).mono ?_; rintro e w3 ⟨t, u, rfl, ht, hu, hb3⟩; have hgb1 := (hb3.cell (p := ⟨wr.heap.size, kb, none⟩) HLT.out).trans hgb; have hga1 := (hb3.cell (p := ⟨wr.heap.size, ka, none⟩) HLT.out).trans hga; have hcv1 := HCV.out w3 (fun j => (hb3.cell (p := ⟨w1.heap.size, j, none⟩) (Nat.lt_trans hbw HLT.out)).trans (World.cell?_alloc_past _ _ _ hbw)); have HB3 := Lib.hid (HBG.out.trans (hb3.mono HBG.out.size)); have HT := Lib.hid ht; have HU := Lib.hid hu; clear ht hu hb3))
      clear b1 b2 htb hta hconv hgb hga hgb1 hga1 hcv1 hkb hka kc
      have HE := Lib.hid (show (gb ++ wb ++ ga).data.toList = gb.data.toList ++ (ws ++ ga.data.toList) by rw [app_list, app_list, HWL.out, List.append_assoc])
      have HPL := Lib.hid (show ∀ c ∈ gb.data.toList ++ (ws ++ ga.data.toList), plainC c from fun c hc => by
        rcases List.mem_append.1 hc with hc | hc
        · exact HGB.out.2.1 c hc
        · rcases List.mem_append.1 hc with hc | hc
          · exact HWO.out.2.1 c hc
          · exact HGA.out.2.1 c hc)
      have HLL := Lib.hid (show (gb.data.toList ++ (ws ++ ga.data.toList)).length ≤ 50 by rw [List.length_append, List.length_append, size_list, size_list, HWO.out.2.2]; omega)
      rw [HE.out] at HT HU
      have HPW := Lib.hid (pow10_below HP.out HW1.out)
      have HSH := Lib.hid (show ∀ i, i < (ss.map fun s => s.data.toList).length → ((ss.map fun s => s.data.toList).getD i []).length ≤ maxLen from fun i hi => by
        rw [List.length_map] at hi
        have h := name_size HG.out i hi
        have e : (ss.map fun s => s.data.toList).getD i [] = (ss.getD i ByteArray.empty).data.toList := by
          rw [List.getD_eq_getElem?_getD, List.getD_eq_getElem?_getD, List.getElem?_map, List.getElem?_eq_getElem hi]
          rfl
        rw [e, size_list]
        unfold maxLen
        omega)
      have HMN := Lib.hid (many_rows t ⟨(boundI ss.length (gb.data.toList ++ (ws ++ ga.data.toList))).toArray⟩ u u (ss.map fun s => s.data.toList) a3 n3 c3 rs (ls.map LRec.xs) (flR ls ls.length) w3 (fl_whole ls) (i_ok (by rw [HN.out]; exact hn6) (names_ok HG.out) HPL.out HLL.out HT.out) (pow10_below HPW.out HB3.out)
        (by rw [HT.out]; exact i_cn (by rw [HN.out]; exact hn1) (by rw [HN.out]; exact hn6) (names_ok HG.out) HPL.out) (i_asc (by rw [HN.out]; exact hn6) HPL.out rfl) (i_size (by rw [HN.out]; exact hn6) HLL.out) (by rw [HKR.out.2.2, HN2.out]) hk1 (by omega) (by rw [List.length_map, HN.out]; exact hn1) (by rw [List.length_map, HN.out]; omega) HSH.out
        (rows_below HKR.out.1 HB3.out) HKR.out.2.1 (i_fix (g1 := gb.data.toList) (wd := ws) (g2 := ga.data.toList) (by rw [HN.out]; exact hn6) hk1 HGB.out.1 HWO.out.1 HGA.out.1 rfl HU.out) (.inl ⟨rfl, rfl⟩))
      go_wp2_with fail
      refine HMN.out.mono ?_
      rintro e w4 ⟨x4, rfl, ho4, hb4⟩
      have HB4 := Lib.hid (nxD HB3.out hb4)
      have HW4 := Lib.hid (HW1.out.trans (HB4.out.mono HW1.out.size))
      have HFL := Lib.hid (flR_len (rows_len HG.out) ls.length (Nat.le_refl _))
      have HO4 := Lib.hid ho4
      rw [HFL.out, HN2.out, HN.out] at HO4
      clear ho4 hb4
      go_wp2_with fail
      refine (all9_any A2 n3 c2 n ls _ HN2.out hk8 (lsAt_belowD HX2.out HW4.out) (fun i hi => by rw [← HN.out]; exact rows_len HG.out i hi) hn6).mono ?_
      rintro e w5 ⟨v9, rfl, ho9, hb5⟩
      have HFN := Lib.hid (show (flR ls n3).length = n3 * n by have h := HFL.out; rw [HN2.out, HN.out] at h; exact h)
      obtain ⟨A9, c9, rfl, hl9⟩ := listAt_own ho9 HFN.out
      have HL9 := Lib.hid hl9
      have HO5 := Lib.hid (HO4.out.kept (grown_none hb5) (none_or _))
      have HW5 := Lib.hid (nxD HW4.out hb5)
      have HRT := Lib.hid (flat_right HG.out)
      rw [HN2.out] at HRT
      have h48 : n3 * n ≤ 48 := by
        have : n3 * n ≤ 8 * 6 := Nat.mul_le_mul hk8 hn6
        omega
      clear ho9 hb5 hl9
      go_wp2_with fail
      refine (equal_backs _ x4 A9 (n3 * n) c9 (flR ls n3) _ HFN.out (by omega) HO5.out HL9.out (fun i hi => HRT.out i (by rw [HFN.out]; exact hi))).mono ?_
      rintro e w6 ⟨rfl, hb6⟩
      have HW6 := Lib.hid (nxD HW5.out hb6)
      clear hb6
      go_wp2
      go_ret
      exact ⟨rfl, HW6.out⟩
end Go.Proofs.YtpjadgdimkdblaaDoor
