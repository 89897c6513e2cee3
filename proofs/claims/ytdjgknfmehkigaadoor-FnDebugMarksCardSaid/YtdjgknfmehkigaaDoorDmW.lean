/- FnDebugMarks walked: it answers true whatever the texts are, and only makes new memory. -/
import Derived.Test.YtdjgknfmehkigaaDoorDebug
namespace Go.Proofs.YtdjgknfmehkigaaDoor
open Go.RowKit
set_option linter.unusedVariables false

def tq (t : ByteArray) : VRec := ⟨2, 0, t, none, 0, 0⟩
theorem tq_shown (t : ByteArray) : shownB (tq t) = t := rfl
theorem three_at (w : World) (a b d : ByteArray) (T : TypeId) : StrsAt (w.alloc (.cells #[.string a, .string b, .string d] T)) (some ⟨w.heap.size, 0, none⟩) [a, b, d] := by
  refine .inr ⟨w.heap.size, 0, rfl, by simp, fun i hi => ?_⟩
  have h : i = 0 ∨ i = 1 ∨ i = 2 := by simp at hi; omega
  rcases h with rfl | rfl | rfl
  all_goals exact (cell_of_row _ _ _ _ _ _ (heap_alloc_new w _)).trans rfl
theorem three_le {a b d : ByteArray} {m : Nat} (ha : a.size ≤ m) (hb : b.size ≤ m) (hd : d.size ≤ m) : ∀ i, i < 3 → (([a, b, d] : List ByteArray).getD i ByteArray.empty).size ≤ m := by
  intro i hi
  have h : i = 0 ∨ i = 1 ∨ i = 2 := by omega
  rcases h with rfl | rfl | rfl
  · exact ha
  · exact hb
  · exact hd
theorem three_bare {a b d : ByteArray} (h : bareB [a, b, d] = true) : bare1 a ∧ bare1 b ∧ bare1 d := by
  have h := (bareB_iff.1 h).1
  exact ⟨h 0 (by simp), h 1 (by simp), h 2 (by simp)⟩
theorem pair_at (w : World) (t : ByteArray) (T : TypeId) : ListAt (w.alloc (.cells #[.int .i64 2, .int .i64 0, .string t, .slice none 0 0, .int .i64 2, .int .i64 0, .string t, .slice none 0 0] T)) (some ⟨w.heap.size, 0, none⟩) [tq t, tq t] := by
  refine .inr ⟨w.heap.size, 0, rfl, by simp, fun i hi => ?_⟩
  have h : i = 0 ∨ i = 1 := by simp at hi; omega
  rcases h with rfl | rfl
  all_goals exact ⟨(cell_of_row _ _ _ _ _ _ (heap_alloc_new w _)).trans rfl, (cell_of_row _ _ _ _ _ _ (heap_alloc_new w _)).trans rfl, (cell_of_row _ _ _ _ _ _ (heap_alloc_new w _)).trans rfl, (cell_of_row _ _ _ _ _ _ (heap_alloc_new w _)).trans rfl⟩
def dmQ (a b : ByteArray) : ByteArray := a ++ (⟨#[63]⟩ : ByteArray) ++ b ++ (⟨#[32, 63, 63]⟩ : ByteArray) ++ (⟨#[32, 63]⟩ : ByteArray)
def dmO (a b t : ByteArray) : ByteArray := a ++ (⟨#[39]⟩ : ByteArray) ++ t ++ (⟨#[63, 39]⟩ : ByteArray) ++ b ++ (⟨#[32, 63, 32, 39]⟩ : ByteArray) ++ t ++ (⟨#[63, 39]⟩ : ByteArray)
theorem dm_dbg (a b t : ByteArray) (ha : bare1 a) (hb : bare1 b) : Dbg (dmQ a b).data.toList [t ++ (⟨#[63]⟩ : ByteArray), t ++ (⟨#[63]⟩ : ByteArray)] (dmO a b t).data.toList := by
  have h1 : no63l (a.data.toList) := free63 ha
  have h2 : no63l (b.data.toList ++ [32]) := by
    intro c hc
    rcases List.mem_append.1 hc with h | h
    · exact free63 hb c h
    · simp at h; subst h; decide
  have h3 : no63l [32] := by intro c hc; simp at hc; subst hc; decide
  have h4 : no63l [] := by intro c hc; cases hc
  have d := Dbg.arg a.data.toList _ (t ++ (⟨#[63]⟩ : ByteArray)) _ _ h1 (by cases hx : b.data.toList with | nil => simp | cons x l => simp; intro e; subst e; exact free63 hb 63 (by rw [hx]; simp) (by decide)) (Dbg.esc (b.data.toList ++ [32]) _ _ _ h2 (Dbg.arg [32] [] (t ++ (⟨#[63]⟩ : ByteArray)) [] [] h3 (by simp) (Dbg.fin [] h4)))
  have e1 : (dmQ a b).data.toList = a.data.toList ++ 63 :: (b.data.toList ++ [32] ++ 63 :: 63 :: ([32] ++ [63])) := by
    unfold dmQ
    simp only [app_list]
    simp
  have e2 : (dmO a b t).data.toList = a.data.toList ++ 39 :: ((t ++ (⟨#[63]⟩ : ByteArray)).data.toList ++ 39 :: (b.data.toList ++ [32] ++ 63 :: ([32] ++ 39 :: ((t ++ (⟨#[63]⟩ : ByteArray)).data.toList ++ [39])))) := by
    unfold dmO
    simp only [app_list]
    simp
  rw [e1, e2]
  exact d
theorem pair_at2 (w : World) (X : Obj) (t : ByteArray) (T : TypeId) : ListAt ((w.alloc X).alloc (.cells #[.int .i64 2, .int .i64 0, .string t, .slice none 0 0, .int .i64 2, .int .i64 0, .string t, .slice none 0 0] T)) (some ⟨w.heap.size + 1, 0, none⟩) [tq t, tq t] := by
  have h := pair_at (w.alloc X) t T
  rw [World.size_alloc] at h
  exact h
theorem dm_debug (a b t : ByteArray) (w : World) (X : Obj) (T : TypeId) (ha : bare1 a) (hb : bare1 b) (ht : t.size ≤ 100) (hp : Pow10 w) :
    Calls Tryd.prog 24 #[.string (a ++ (⟨#[63]⟩ : ByteArray) ++ b ++ (⟨#[32, 63, 63]⟩ : ByteArray) ++ (⟨#[32, 63]⟩ : ByteArray)), .slice (some ⟨w.heap.size + 1, 0, none⟩) 2 2] ((w.alloc X).alloc (.cells #[.int .i64 2, .int .i64 0, .string (t ++ (⟨#[63]⟩ : ByteArray)), .slice none 0 0, .int .i64 2, .int .i64 0, .string (t ++ (⟨#[63]⟩ : ByteArray)), .slice none 0 0] T)) fun e w' => e = .returned (.string (a ++ (⟨#[39]⟩ : ByteArray) ++ t ++ (⟨#[63, 39]⟩ : ByteArray) ++ b ++ (⟨#[32, 63, 32, 39]⟩ : ByteArray) ++ t ++ (⟨#[63, 39]⟩ : ByteArray))) ∧ Below w.heap.size w w' := by
  have hza := ha.1
  have hzb := hb.1
  have s1 : (ByteArray.mk #[63]).size = 1 := rfl
  have s2 : (ByteArray.mk #[32, 63, 63]).size = 3 := rfl
  have s3 : (ByteArray.mk #[32, 63]).size = 2 := rfl
  have s4 : (ByteArray.mk #[39]).size = 1 := rfl
  have s5 : (ByteArray.mk #[63, 39]).size = 2 := rfl
  have s6 : (ByteArray.mk #[32, 63, 32, 39]).size = 4 := rfl
  refine (debug_any (dmQ a b) _ 2 2 [tq (t ++ (⟨#[63]⟩ : ByteArray)), tq (t ++ (⟨#[63]⟩ : ByteArray))] (dmO a b t).data.toList _ rfl (by decide) (pair_at2 w X _ T) ?_ ?_ (dm_dbg a b t ha hb) ?_ (pow10_below hp (b2 w _ _))).mono ?_
  · unfold dmQ; simp only [ByteArray.size_append']; omega
  · rw [size_list]; unfold dmO; simp only [ByteArray.size_append']; omega
  · intro i hi
    have h : i = 0 ∨ i = 1 := by simp at hi; omega
    rcases h with rfl | rfl <;> exact ⟨⟨(by decide : (0 : Int) ≤ 2), (by decide : (2 : Int) ≤ 4)⟩, fun h => absurd h (by decide : ¬ (2 : Int) = 1)⟩
  · rintro e w' ⟨rfl, hb⟩
    exact ⟨rfl, nx (b2 w _ _) hb⟩
set_option maxHeartbeats 4000000 in
set_option maxRecDepth 100000 in
theorem debugMarks_any (a b d : ByteArray) (w : World) (hp : Pow10 w) (ha : a.size ≤ maxLen) (hb : b.size ≤ maxLen) (hd : d.size ≤ maxLen) :
    Calls Tryd.prog 9 #[.string a, .string b, .string d] w fun e w' => e = .returned (.bool true) ∧ Below w.heap.size w w' := by
  have HP := Lib.hid hp
  have HA := Lib.hid ha
  have HB := Lib.hid hb
  have HD := Lib.hid hd
  unfold maxLen at ha hb hd
  clear hp
  by_cases hs : a.size ≤ 2147483647 ∧ b.size ≤ 2147483647 ∧ d.size ≤ 2147483647
  · have hsa : ¬ (2147483647 : Int) < a.size := by omega
    have hsb : ¬ (2147483647 : Int) < b.size := by omega
    have hsd : ¬ (2147483647 : Int) < d.size := by omega
    clear hs
    go_enter Tryd.func9, Tryd.ntmps9
    go_wp2_with fail
    refine (bare_at _ 3 3 [a, b, d] _ rfl (by unfold maxLen; omega) (three_at w a b d _) (three_le HA.out HB.out HD.out)).mono ?_
    rintro e w' ⟨rfl, rfl⟩
    have HW0 := Lib.hid ((Below.refl w.heap.size w).alloc (Nat.le_refl _) (.cells #[.string a, .string b, .string d] 9))
    generalize w.alloc (.cells #[.string a, .string b, .string d] 9) = w0 at HW0 ⊢
    cases hB : bareB [a, b, d] with
    | false =>
      go_wp2
      go_ret
      exact ⟨rfl, HW0.out⟩
    | true =>
    have HBB := Lib.hid (three_bare hB)
    have hza := HBB.out.1.1
    have hzb := HBB.out.2.1.1
    have hzd := HBB.out.2.2.1
    clear hB
    go_wp2_with fail
    refine (dm_debug a b d w0 _ _ HBB.out.1 HBB.out.2.1 hzd (pow10_below HP.out HW0.out)).mono ?_
    rintro e w2 ⟨rfl, hb2⟩
    have HW2 := Lib.hid (nx HW0.out hb2)
    clear hb2
    go_wp2_with fail
    go_ret
    exact ⟨rfl, HW2.out⟩
  · rcases Nat.lt_or_ge 2147483647 a.size with h | h
    · have hsa : (2147483647 : Int) < a.size := by omega
      go_enter Tryd.func9, Tryd.ntmps9
      go_wp2_with fail
      go_ret
      exact ⟨rfl, Below.refl _ _⟩
    · have hsa : ¬ (2147483647 : Int) < a.size := by omega
      rcases Nat.lt_or_ge 2147483647 b.size with h2 | h2
      · have hsb : (2147483647 : Int) < b.size := by omega
        go_enter Tryd.func9, Tryd.ntmps9
        go_wp2_with fail
        go_ret
        exact ⟨rfl, Below.refl _ _⟩
      · have hsb : ¬ (2147483647 : Int) < b.size := by omega
        have hsd : (2147483647 : Int) < d.size := by omega
        clear hs
        go_enter Tryd.func9, Tryd.ntmps9
        go_wp2_with fail
        go_ret
        exact ⟨rfl, Below.refl _ _⟩
end Go.Proofs.YtdjgknfmehkigaaDoor
