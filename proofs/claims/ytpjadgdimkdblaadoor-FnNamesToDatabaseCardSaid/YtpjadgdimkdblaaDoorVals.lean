/- What valueOf and valuesOf answer of what goOf handed on, lists among it. Walks; every world. -/
import Derived.Test.YtpjadgdimkdblaaDoorValues
import Derived.Test.YtpjadgdimkdblaaDoorCmp
namespace Go.Proofs.YtpjadgdimkdblaaDoor
open Go.RowKit
set_option linter.unusedVariables false

/-- The value that comes back of an argument, a list's elements in a row of its own. -/
def backOf (B : Nat) (g : ARec) (r : VRec) (w : World) : Prop :=
  if g.x.k = 5 then r.k = 5 ∧ r.n = 0 ∧ r.t = ByteArray.empty ∧ w.ownsRow B 34 4 (.slice r.A r.m r.c) g.ys.length (backs g.ys) else r = g.x.back
def rlead (r : VRec) : Option Nat := (Value.slice r.A r.m r.c).ownBlock
theorem backOf_grown {B : Nat} {g : ARec} {r : VRec} {w w' : World} {row : Option Nat} (h : backOf B g r w) (hg : w.grownBy w' row) (hne : rlead r = none ∨ rlead r ≠ row) : backOf B g r w' := by
  unfold backOf at h ⊢
  by_cases h5 : g.x.k = 5
  · rw [if_pos h5] at h ⊢
    exact ⟨h.1, h.2.1, h.2.2.1, h.2.2.2.kept hg hne⟩
  · rw [if_neg h5] at h ⊢
    exact h
theorem backOf_lt {B : Nat} {g : ARec} {r : VRec} {w : World} {j : Nat} (h : backOf B g r w) (hl : rlead r = some j) : B ≤ j ∧ j < w.heap.size := by
  unfold backOf at h
  split at h
  · exact h.2.2.2.lt j hl
  · rw [h] at hl; cases hl
theorem backOf_base {B B' : Nat} {g : ARec} {r : VRec} {w : World} (h : backOf B g r w) (hB : B' ≤ B) : backOf B' g r w := by
  unfold backOf at h ⊢
  by_cases h5 : g.x.k = 5
  · rw [if_pos h5] at h ⊢
    exact ⟨h.1, h.2.1, h.2.2.1, ownsRow_down h.2.2.2 hB⟩
  · rw [if_neg h5] at h ⊢
    exact h
/-- Of what goOf takes. -/
def ARec.taken (a : ARec) : Prop := (0 ≤ a.x.k ∧ a.x.k ≤ 4) ∨ (a.x.k = 5 ∧ a.ys.length ≤ 1000000 ∧ ∀ i, i < a.ys.length → 0 ≤ (a.ys.getD i z0).k ∧ (a.ys.getD i z0).k ≤ 4)
theorem frozen_block' {w : World} {b : Nat} {cs : Array Value} {t : TypeId} (h : w.heap[b]? = some (.cells cs t (0, 0))) (o : Nat) : w.frozen? ⟨b, o, none⟩ = false := by
  simp [World.frozen?, h]
def BackSo (g : ARec) (w : World) (e : Ending) (w' : World) : Prop := ∃ r : VRec, e = .returned r.agg ∧ backOf w.heap.size g r w' ∧ Below w.heap.size w w'
set_option maxHeartbeats 2000000 in
theorem valueOf_list (B : Nat) (x : VRec) (ys : List VRec) (sv : Value) (w : World) (hx : x.k = 5) (ho : w.ownsRow B 20 1 sv ys.length (ys.map VRec.fl)) (hm : ys.length ≤ 1000000) (hk : ∀ i, i < ys.length → 0 ≤ (ys.getD i z0).k ∧ (ys.getD i z0).k ≤ 4) :
    Calls Tryd.prog 46 #[.iface 71 sv] w (BackSo ⟨x, ys⟩ w) := by
  have t1 := ta_li
  have t2 := ta_ls
  have t3 := ta_lb
  have t4 := ta_ll
  have HK := Lib.hid hk
  have HO := Lib.hid ho
  obtain ⟨A, c, rfl⟩ := ownsRow_form ho
  clear hk ho
  go_enter Tryd.func46, Tryd.ntmps46
  go_wp2_with fail
  refine (valuesOf_flat A ys.length c ys _ rfl hm ?_ HK.out).mono ?_
  · intro i hi
    have HO2 := HO.out.alloc (.cells #[.int .i64 0, .int .i64 0, .string ByteArray.empty, .slice none 0 0] 34)
    obtain ⟨g, cap, hv⟩ : ∃ g cap, (Value.slice A ys.length c) = .slice (some ⟨g, 0, none⟩) ys.length cap := by
      rcases HO2.2 with ⟨_, h1⟩ | ⟨g, cap, cur, hv, _⟩
      · omega
      · exact ⟨g, cap, hv⟩
    obtain ⟨rfl, _, rfl⟩ : A = some ⟨g, 0, none⟩ ∧ True ∧ c = cap := by simpa using hv
    have h := HO2.cells (g := g) rfl i ((ys.getD i z0).fl) (by rw [List.getElem?_map, List.getD_eq_getElem?_getD, List.getElem?_eq_getElem hi]; rfl)
    have hadd : (⟨g, 0, none⟩ : Addr).add i = ⟨g, i, none⟩ := by unfold Addr.add; simp; exact fun e => e.symm
    rw [hadd] at h
    exact ⟨g, rfl, (HO2.lt g rfl).2, h⟩
  rintro e w2 ⟨v, rfl, hr, hb⟩
  obtain ⟨A2, c2, rfl⟩ := ownsRow_form hr
  have hc0 := hb.cell (p := ⟨w.heap.size, 0, none⟩) (by simp)
  have hc1 := hb.cell (p := ⟨w.heap.size, 1, none⟩) (by simp)
  have hc2 := hb.cell (p := ⟨w.heap.size, 2, none⟩) (by simp)
  have hc3 := hb.cell (p := ⟨w.heap.size, 3, none⟩) (by simp)
  have f0 := (hb.frozen (p := ⟨w.heap.size, 0, none⟩) (by simp)).trans (frozen_block' (heap_alloc_new w _) 0)
  have f1 := (hb.frozen (p := ⟨w.heap.size, 1, none⟩) (by simp)).trans (frozen_block' (heap_alloc_new w _) 1)
  have f2 := (hb.frozen (p := ⟨w.heap.size, 2, none⟩) (by simp)).trans (frozen_block' (heap_alloc_new w _) 2)
  have f3 := (hb.frozen (p := ⟨w.heap.size, 3, none⟩) (by simp)).trans (frozen_block' (heap_alloc_new w _) 3)
  have HR := Lib.hid hr
  have HB := Lib.hid hb
  clear hr hb
  go_wp2_with fail
  have hsz : w.heap.size < (w.alloc (.cells #[.int .i64 0, .int .i64 0, .string ByteArray.empty, .slice none 0 0] 34)).heap.size := by simp
  have hbel : Below w.heap.size w w2 := ((Below.refl w.heap.size w).alloc (Nat.le_refl _) _).trans (HB.out.mono (by simp))
  refine bodyPost_ret (v := .agg #[.int .i64 5, .int .i64 0, .string ⟨#[]⟩, .slice A2 ys.length c2]) (by first | (simp [results, Tryd.results46, go_sem, hc0, hc1, hc2, hc3]; done) | (simp [results, Tryd.results46, go_sem, hc0, hc1, hc2, hc3]; rfl)) rfl ⟨⟨5, 0, ⟨#[]⟩, A2, ys.length, c2⟩, rfl, ?_, ?_⟩
  · unfold backOf
    rw [if_pos hx]
    exact ⟨rfl, rfl, rfl, ownsRow_down (ownsRow_setCell_below (ownsRow_setCell_below (ownsRow_setCell_below (ownsRow_setCell_below HR.out hsz _) hsz _) hsz _) hsz _) (by simp)⟩
  · exact (((hbel.setCell (Nat.le_refl _) _).setCell (Nat.le_refl _) _).setCell (Nat.le_refl _) _).setCell (Nat.le_refl _) _
theorem valueOf_arec (B : Nat) (g : ARec) (u : Value) (w : World) (hu : g.handed B u w) (hk : g.taken) :
    Calls Tryd.prog 46 #[u] w (BackSo g w) := by
  unfold ARec.handed at hu
  by_cases h5 : g.x.k = 5
  · rw [if_pos h5] at hu
    obtain ⟨sv, rfl, ho⟩ := hu
    rcases hk with h | ⟨_, hm, hy⟩
    · omega
    · exact valueOf_list B g.x g.ys sv w h5 ho hm hy
  · rw [if_neg h5] at hu
    subst hu
    rcases hk with h | ⟨h, _⟩
    · refine (valueOf_flat g.x w h.1 h.2).mono ?_
      rintro e w' ⟨rfl, hb⟩
      refine ⟨g.x.back, rfl, ?_, hb⟩
      unfold backOf
      rw [if_neg h5]
    · exact absurd h h5
/-- The cells of values. -/
def cellsR (rs : List VRec) : List Value := (rs.map VRec.cells).flatten
def ValsSo (gs : List ARec) (w : World) (k : Nat) (v : Value) (rs : List VRec) (wr : World) : Prop :=
  rs.length = k ∧ wr.ownsRow w.heap.size 34 4 v k (cellsR rs) ∧ (∀ i r, rs[i]? = some r → backOf w.heap.size (gs.getD i a0) r wr ∧ (rlead r = none ∨ rlead r ≠ v.ownBlock)) ∧ Below w.heap.size w wr
theorem valsSo_start (gs : List ARec) (w : World) : ValsSo gs w 0 (.slice none 0 0) [] w := ⟨rfl, World.ownsRow_nil _ _ _ _, fun i r h => by simp at h, Below.refl _ _⟩
theorem valsSo_step {gs : List ARec} {w : World} {k : Nat} {v v' : Value} {r : VRec} {rs : List VRec} {wr w1 w2 w3 : World} (h : ValsSo gs w k v rs wr) (hb : Below wr.heap.size wr w1)
    (hu : backOf wr.heap.size (gs.getD k a0) r w1) (ho : w1.grownBy w2 none) (hr : w3.ownsRow w.heap.size 34 4 v' (k + 1) (cellsR rs ++ r.cells)) (hg : w2.grownBy w3 v.ownBlock)
    (hat : v'.ownBlock = v.ownBlock ∨ v'.ownBlock = some w2.heap.size) (hs : w.heap.size ≤ wr.heap.size) : ValsSo gs w (k + 1) v' (rs ++ [r]) w3 := by
  obtain ⟨h1, h2, h3, h4⟩ := h
  have hvlt := h2.lt
  have s1 := hb.size
  have s2 := ho.size
  refine ⟨by simp [h1], by unfold cellsR at hr ⊢; simpa using hr, fun i x hx => ?_, ?_⟩
  · rcases Nat.lt_or_ge i rs.length with hi | hi
    · rw [List.getElem?_append_left hi] at hx
      obtain ⟨q1, q2⟩ := h3 i x hx
      have q3 := backOf_grown q1 (grown_none hb) (none_or _)
      have q4 := backOf_grown q3 ho (none_or _)
      refine ⟨backOf_grown q4 hg q2, ?_⟩
      rcases hat with e | e
      · rw [e]; exact q2
      · rcases hlx : rlead x with _ | g
        · exact .inl rfl
        · have := (backOf_lt q1 hlx).2
          rw [e]
          right
          intro hh
          have : g = w2.heap.size := by simpa using hh
          omega
    · have hx2 : i = rs.length ∧ x = r := by
        rw [List.getElem?_append_right hi] at hx
        have : i - rs.length = 0 := by
          rcases Nat.eq_zero_or_pos (i - rs.length) with e | e
          · exact e
          · rw [List.getElem?_eq_none (by simp; omega)] at hx; cases hx
        rw [this] at hx
        exact ⟨by omega, by simpa using hx.symm⟩
      obtain ⟨rfl, rfl⟩ := hx2
      have hne : rlead x = none ∨ rlead x ≠ v.ownBlock := by
        rcases hlx : rlead x with _ | g
        · exact .inl rfl
        · have a1 := (backOf_lt hu hlx).1
          right
          intro hh
          have := (hvlt g hh.symm).2
          omega
      have q4 := backOf_grown (backOf_base hu hs) ho (none_or _)
      rw [h1]
      refine ⟨backOf_grown q4 hg hne, ?_⟩
      rcases hat with e | e
      · rw [e]; exact hne
      · rcases hlx : rlead x with _ | g
        · exact .inl rfl
        · have := (backOf_lt hu hlx).2
          rw [e]
          right
          intro hh
          have : g = w2.heap.size := by simpa using hh
          omega
  · refine ((h4.trans (hb.mono hs)).grown ho (by omega) (fun k hk => by cases hk)).grown hg (by omega) (fun k hk => (hvlt k hk).1)
/-- What valuesOf answers: a row of the call's own with what comes back of each. -/
def ValsOk (gs : List ARec) (w : World) (e : Ending) (w' : World) : Prop := ∃ v rs, e = .returned v ∧ ValsSo gs w gs.length v rs w'
set_option maxHeartbeats 2000000 in
set_option maxRecDepth 100000 in
theorem valuesOf_args (B : Nat) (A : Option Addr) (n c : Nat) (gs : List ARec) (us : List Value) (w : World) (hn : gs.length = n) (hm : n ≤ 1000000)
    (hx : ∀ i, i < n → ∃ b, A = some ⟨b, 0, none⟩ ∧ b < w.heap.size ∧ w.cell? ⟨b, i, none⟩ = some (us.getD i .nilIface)) (hu : ∀ i, i < n → (gs.getD i a0).handed B (us.getD i .nilIface) w) (hk : ∀ i, i < n → (gs.getD i a0).taken) :
    Calls Tryd.prog 39 #[.slice A n c] w (ValsOk gs w) := by
  obtain ⟨i0, hi0, hz0, hz1, hz2⟩ := info_parts Tryd.infoValue
  have HX := Lib.hid hx
  have HK := Lib.hid hk
  have HN := Lib.hid hn
  have HU := Lib.hid hu
  clear hx hk hn hu
  go_enter Tryd.func39, Tryd.ntmps39
  go_wp2
  go_loopw [3, 8] (fun v i wr => ∃ (k : Nat) (rs : List VRec), k ≤ n ∧ i = .int .i64 k ∧ Hid (ValsSo gs w k v rs wr)) (fun _ i _ => n - (intOf i).toNat)
  case atStart => exact ⟨0, [], Nat.zero_le _, rfl, Lib.hid (valsSo_start gs w)⟩
  case round =>
    obtain ⟨k, rs, hk, rfl, HS⟩ := hrel
    have h0 : (0 : Int) ≤ k := by omega
    have hsz0 := HS.out.2.2.2.size
    by_cases hlt : k < n
    · have hkn : (k : Int) < n := by omega
      obtain ⟨b, rfl, hb, hc⟩ := HX.out k hlt
      have hcell := (HS.out.2.2.2.cell (p := ⟨b, k, none⟩) hb).trans hc
      have HH := Lib.hid (handed_grown (HU.out k hlt) (grown_none (HS.out.2.2.2)) (by cases e : leads (us.getD k .nilIface) <;> simp))
      have HT := Lib.hid (HK.out k hlt)
      generalize us.getD k .nilIface = u at hcell HH
      clear hc
      go_wp2_with fail
      refine (valueOf_arec B (gs.getD k a0) u _ HH.out HT.out).mono ?_
      rintro e w1 ⟨r, rfl, hq, hb1⟩
      have hsz := hb1.size
      have HB1 := Lib.hid hb1
      have HQ1 := Lib.hid hq
      have HO1 := Lib.hid (HS.out.2.1.kept (grown_none hb1) (none_or _))
      unfold VRec.agg
      clear hb1 hcell hq
      have HC1 := Lib.hid (show ∀ z ∈ [Value.int .i64 r.k, Value.int .i64 r.n, Value.string r.t, Value.slice r.A r.m r.c], z.oneCell' = true from fun z hz => by
        simp at hz
        rcases hz with rfl | rfl | rfl | rfl <;> rfl)
      go_wp2_with (at_builtin; go_must (refine wpList_append_own_at _ rfl _ _ 32 rfl w.heap.size 34 i0 _ 4 56 Tryd.underlying32 hi0 hz0 hz1 hz2 rfl (by decide) _ k (cellsR rs) rfl (HO1.out.alloc _) ⟨w1.heap.size, 0, none⟩ 1 1 [.int .i64 r.k, .int .i64 r.n, .string r.t, .slice r.A r.m r.c] rfl rfl (cells_new _ [_, _, _, _] _) HC1.out (by unfold maxLen; omega) (by omega) (by simp; omega) ?_); intro v2 w2 hown2 hg2 _ hat2; refine Hid.out ?_)
      refine Lib.hid ?_
      have HS2 := Lib.hid (valsSo_step HS.out HB1.out HQ1.out (World.grownBy_alloc _ _ _) hown2 hg2 hat2 hsz0)
      clear hown2 hg2 hat2
      go_wp2
      go_roundw
      case rel => exact ⟨k + 1, _, by omega, by go_num, HS2⟩
      case measure => simp [intOf]; omega
    · obtain rfl : k = n := by omega
      go_wp2
      go_ret
      exact ⟨_, rs, rfl, HN.out ▸ HS.out⟩
end Go.Proofs.YtpjadgdimkdblaaDoor
