/- What compileNamedQuery answers, as a contract says it. No walk. -/
import Derived.Test.YtpjadgdimkdblaaDoorCnS
import Derived.Test.YtpjadgdimkdblaaDoorReb
import Derived.Test.YtpjadgdimkdblaaDoorWords
import Derived.Test.YtpjadgdimkdblaaDoorShelf
import Derived.Laws.MakeOwn
import Derived.Sort.Grow
import Derived.Lib.ItoaLen
namespace Go.Proofs.YtpjadgdimkdblaaDoor
open Go.RowKit
set_option linter.unusedVariables false

theorem Tryd.infoString : (Tryd.prog.info? 9).map (fun i => (i.zero, i.size, i.bytes)) = some (some (.string ByteArray.empty), 1, 16) := by kernel_rfl
def ten0 : Array Value := #[.string ByteArray.empty, .string ByteArray.empty, .string ByteArray.empty, .string ByteArray.empty, .string ByteArray.empty, .string ByteArray.empty, .string ByteArray.empty, .string ByteArray.empty, .string ByteArray.empty, .string ByteArray.empty]
def tenB : Array Value := #[.int .u8 0, .int .u8 0, .int .u8 0, .int .u8 0, .int .u8 0, .int .u8 0, .int .u8 0, .int .u8 0, .int .u8 0, .int .u8 0]
theorem mk_names (w : World) : (Instr.makeSlice 28 (.int .i64 0) (.int .i64 10)).run Tryd.prog w = .ok (.slice (some ⟨w.heap.size, 0, none⟩) 0 10) (w.alloc (.cells ten0 9)) := by kernel_rfl
theorem mk_name (w : World) : (Instr.makeSlice 59 (.int .i64 0) (.int .i64 10)).run Tryd.prog w = .ok (.slice (some ⟨w.heap.size, 0, none⟩) 0 10) (w.alloc (.cells tenB 5)) := by kernel_rfl
/-- A text does not end with an underscore or a point. -/
def EndOk (l : List UInt8) : Prop := ∀ c, l.getLast? = some c → c ≠ 95 ∧ c ≠ 46
def CnOk (k : Int) (q : ByteArray) (w : World) (e : Ending) (w' : World) : Prop :=
  match cn (mkK k) q.data.toList none [] [] with
  | some (L, ns) => ∃ sv, e = .returned (.tuple #[.string ⟨L.toArray⟩, sv, .nilIface]) ∧ w'.ownsRow w.heap.size 9 1 sv ns.length (ns.map fun x => Value.string ⟨x.toArray⟩) ∧ Below w.heap.size w w'
  | none => ∃ sv t x, e = .returned (.tuple #[.string ⟨#[]⟩, sv, .iface t x]) ∧ Below w.heap.size w w'
theorem cnOk_some {k : Int} {q : ByteArray} {w w' : World} {L : List UInt8} {ns : List (List UInt8)} {sv : Value} (h : cn (mkK k) q.data.toList none [] [] = some (L, ns)) (ho : w'.ownsRow w.heap.size 9 1 sv ns.length (ns.map fun x => Value.string ⟨x.toArray⟩)) (hb : Below w.heap.size w w') : CnOk k q w (.returned (.tuple #[.string ⟨L.toArray⟩, sv, .nilIface])) w' := by
  unfold CnOk
  rw [h]
  exact ⟨sv, rfl, ho, hb⟩
theorem cnOk_none {k : Int} {q : ByteArray} {w w' : World} {sv x : Value} {t : TypeId} (h : cn (mkK k) q.data.toList none [] [] = none) (hb : Below w.heap.size w w') : CnOk k q w (.returned (.tuple #[.string ⟨#[]⟩, sv, .iface t x])) w' := by
  unfold CnOk
  rw [h]
  exact ⟨sv, t, x, rfl, hb⟩
/-- What the loop carries: nothing is open. -/
def CnA (mk : List UInt8 → Nat → List UInt8) (q : ByteArray) (w : World) (k : Nat) (rv sv : Value) (L : List UInt8) (ns : List (List UInt8)) (wr : World) : Prop :=
  O3 w.heap.size rv (.slice none 0 0) sv L [] ns wr ∧ Below w.heap.size w wr ∧ CnP mk q k none L ns
/-- What the loop carries: a name is open. -/
def CnB (mk : List UInt8 → Nat → List UInt8) (q : ByteArray) (w : World) (k : Nat) (rv nv sv : Value) (L nm : List UInt8) (ns : List (List UInt8)) (wr : World) : Prop :=
  O3 w.heap.size rv nv sv L nm ns wr ∧ nv.ownBlock ≠ none ∧ Below w.heap.size w wr ∧ CnP mk q k (some nm) L ns
theorem slice_of {w : World} {B : Nat} {T : TypeId} {m n : Nat} {v : Value} {xs : List Value} (h : w.ownsRow B T m v n xs) (hv : v.ownBlock ≠ none) : ∃ g cap, v = .slice (some ⟨g, 0, none⟩) n cap := by
  rcases h.2 with ⟨rfl, _⟩ | ⟨g, cap, cur, hv2, _⟩
  · exact absurd rfl hv
  · exact ⟨g, cap, hv2⟩
theorem drop_cons_of {q : ByteArray} {k n : Nat} (hn : q.size = n) (hk : k < n) : ∃ t, q.data.toList.drop k = q.data.toList.getD k 0 :: t ∧ (t = [] ↔ k + 1 = n) := by
  have hl : k < q.data.toList.length := by rw [size_list]; omega
  refine ⟨q.data.toList.drop (k + 1), ?_, ?_⟩
  · rw [List.drop_eq_getElem_cons hl, List.getD_eq_getElem?_getD, List.getElem?_eq_getElem hl]
    rfl
  · rw [List.drop_eq_nil_iff, size_list]
    omega
theorem asc_getD {q : ByteArray} (h : asc q) (k : Nat) : (q.data.toList.getD k 0).toNat < 128 := by
  rcases Nat.lt_or_ge k q.data.toList.length with hk | hk
  · rw [List.getD_eq_getElem?_getD, List.getElem?_eq_getElem hk]
    exact h _ (List.getElem_mem hk)
  · rw [List.getD_eq_getElem?_getD, List.getElem?_eq_none hk]
    decide
theorem end_at {q : ByteArray} {k : Nat} {cb : UInt8} (h : EndOk q.data.toList) (hd : q.data.toList.drop k = [cb]) : cb ≠ 95 ∧ cb ≠ 46 := by
  refine h cb ?_
  have : q.data.toList = q.data.toList.take k ++ [cb] := by rw [← hd, List.take_append_drop]
  rw [this]
  simp
theorem o3_start {w w1 : World} {n : Nat} (hown : w1.ownsRow w.heap.size 5 1 (.slice (some ⟨w.heap.size + 1, 0, none⟩) 0 n) 0 []) (hg : (w.alloc (.cells ten0 9)).grownBy w1 none) (X : Obj) :
    O3 w.heap.size (.slice (some ⟨w.heap.size + 1, 0, none⟩) 0 n) (.slice none 0 0) (.slice (some ⟨w.heap.size, 0, none⟩) 0 10) [] [] [] (w1.alloc X) ∧ Below w.heap.size w (w1.alloc X) := by
  have hz := hg.size
  rw [World.size_alloc] at hz
  refine ⟨⟨hown.alloc _, World.ownsRow_nil _ _ _ _, ((World.ownsRow_made w ten0 10 (Nat.le_refl _) (by decide) (by decide)).kept hg (none_or' _)).alloc _, dj_symm (.inl rfl), .inr ?_, .inl rfl⟩, ?_⟩
  · intro e
    simp [Value.ownBlock] at e
  · exact (((Below.refl w.heap.size w).alloc (Nat.le_refl _) _).grown hg (by simp) (fun k hk => by cases hk)).alloc (by omega) X
theorem b_app {w W W1 : World} {row : Option Nat} (h : Below w.heap.size w W) (X : Obj) (hg : (W.alloc X).grownBy W1 row) (hr : ∀ k, row = some k → w.heap.size ≤ k) : Below w.heap.size w W1 :=
  (h.alloc h.size X).grown hg (by rw [World.size_alloc]; have := h.size; omega) hr
theorem b_one (W : World) (X : Obj) : Below W.heap.size W (W.alloc X) := (Below.refl _ W).alloc (Nat.le_refl _) X
theorem own_names {w : World} {B : Nat} {v : Value} {ns : List (List UInt8)} {nm : List UInt8} (h : w.ownsRow B 9 1 v (ns.length + 1) ((ns.map fun x => Value.string ⟨x.toArray⟩) ++ [Value.string ⟨nm.toArray⟩])) :
    w.ownsRow B 9 1 v (ns ++ [nm]).length ((ns ++ [nm]).map fun x => Value.string ⟨x.toArray⟩) := by
  rw [List.length_append, List.map_append]
  exact h
theorem str_one (s : ByteArray) : ∀ u ∈ [Value.string s], u.oneCell' = true := by
  intro u hu
  simp at hu
  subst hu
  rfl
theorem ne_58 {c : UInt8} (h : c ≠ 58) : ((c.toNat : Int) == 58) = false := by
  rw [beq_eq_false_iff_ne]
  intro e
  exact h (UInt8.toNat_inj.1 (by rw [show (58 : UInt8).toNat = 58 from rfl]; omega))
theorem not_assign {c : UInt8} {nm : List UInt8} (h : ¬ (c = 61 ∧ nm = [])) : ((c.toNat : Int) == 61) = false ∨ (((c.toNat : Int) == 61) = true ∧ ((nm.length : Int) == 0) = false) := by
  by_cases hc : c = 61
  · right
    refine ⟨by rw [hc]; rfl, ?_⟩
    rw [beq_eq_false_iff_ne]
    intro e
    exact h ⟨hc, List.eq_nil_of_length_eq_zero (by omega)⟩
  · left
    rw [beq_eq_false_iff_ne]
    intro e
    exact hc (UInt8.toNat_inj.1 (by rw [show (61 : UInt8).toNat = 61 from rfl]; omega))
theorem ne_byte {c : UInt8} (m : Nat) (hm : m < 256) (h : c ≠ UInt8.ofNat m) : ((c.toNat : Int) == (m : Int)) = false := by
  rw [beq_eq_false_iff_ne]
  intro e
  refine h (UInt8.toNat_inj.1 ?_)
  rw [UInt8.toNat_ofNat']
  omega
theorem dots (c : UInt8) : ((c.toNat : Int) == 95) = true ∨ (((c.toNat : Int) == 95) = false ∧ ((c.toNat : Int) == 46) = true) ∨ (((c.toNat : Int) == 95) = false ∧ ((c.toNat : Int) == 46) = false) := by
  cases h1 : ((c.toNat : Int) == 95) <;> cases h2 : ((c.toNat : Int) == 46) <;> simp
theorem isN_cases {c : UInt8} (h : isN c = true) : isA c = true ∨ (isA c = false ∧ ((c.toNat : Int) == 95) = true) ∨ (isA c = false ∧ ((c.toNat : Int) == 95) = false ∧ ((c.toNat : Int) == 46) = true) := by
  unfold isN at h
  cases hA : isA c with
  | true => exact .inl rfl
  | false =>
    right
    rw [hA] at h
    simp only [Bool.false_or, Bool.or_eq_true, beq_iff_eq] at h
    rcases h with h | h
    · exact .inl ⟨rfl, by rw [h]; rfl⟩
    · exact .inr ⟨rfl, by rw [h]; rfl, by rw [h]; rfl⟩
theorem isN_not {c : UInt8} (h : isN c = false) : isA c = false ∧ ((c.toNat : Int) == 95) = false ∧ ((c.toNat : Int) == 46) = false := by
  unfold isN at h
  simp only [Bool.or_eq_false_iff, beq_eq_false_iff_ne] at h
  exact ⟨h.1.1, ne_byte 95 (by decide) h.1.2, ne_byte 46 (by decide) h.2⟩
theorem cnp_fin {mk : List UInt8 → Nat → List UInt8} {q : ByteArray} {k : Nat} {L : List UInt8} {ns : List (List UInt8)} (hn : q.size = k) (h : CnP mk q k none L ns) : cn mk q.data.toList none [] [] = some (L, ns) := by
  have h1 := h.1
  rw [List.drop_of_length_le (by rw [size_list]; omega)] at h1
  exact h1.symm
theorem cnp_fin2 {mk : List UInt8 → Nat → List UInt8} {q : ByteArray} {k : Nat} {L nm : List UInt8} {ns : List (List UInt8)} (hn : q.size = k) (h : CnP mk q k (some nm) L ns) : cn mk q.data.toList none [] [] = some (L, ns) := by
  have h1 := h.1
  rw [List.drop_of_length_le (by rw [size_list]; omega)] at h1
  exact h1.symm
theorem take_next (s : ByteArray) (k : Nat) (h : k < s.size) : s.data.toList.take (k + 1) = s.data.toList.take k ++ [s[k]] := by
  have hk : k < s.data.toList.length := by simpa using h
  rw [List.take_add_one, List.getElem?_eq_getElem hk]
  rfl
theorem dec_list (i : Nat) : (ByteArray.mk (Lib.decDigits i).toArray).data.toList = Lib.decDigits i := rfl
theorem dec_sz (i : Nat) (hi : i < 100) : (ByteArray.mk (Lib.decDigits i).toArray).size ≤ 2 := by
  have : (Lib.decDigits i).length ≤ 2 := by
    rw [Lib.decDigits]
    split
    · simp
    · rw [Lib.decDigits, dif_pos (by omega)]
      simp
  have e : (ByteArray.mk (Lib.decDigits i).toArray).size = (Lib.decDigits i).length := by simp [ByteArray.size]
  omega
theorem len7 {L : List UInt8} {m : Nat} (h : L.length ≤ 600002) (hm : m < 100) : (L ++ Lib.decDigits m).length ≤ 600010 := by
  have h1 := dec_sz m hm
  have e : (ByteArray.mk (Lib.decDigits m).toArray).size = (Lib.decDigits m).length := by simp [ByteArray.size]
  rw [List.length_append]
  omega
theorem dec_asc (i : Nat) : asc (ByteArray.mk (Lib.decDigits i).toArray) := by
  have h : ∀ (i : Nat), ∀ c ∈ Lib.decDigits i, c.toNat < 128 := by
    intro i
    induction i using Nat.strongRecOn with
    | _ i ih =>
      intro c hc
      rw [Lib.decDigits] at hc
      split at hc
      · simp only [List.mem_singleton] at hc
        subst hc
        rw [UInt8.toNat_ofNat']
        omega
      · rcases List.mem_append.1 hc with hc | hc
        · exact ih (i / 10) (by omega) c hc
        · simp only [List.mem_singleton] at hc
          subst hc
          rw [UInt8.toNat_ofNat']
          omega
  intro c hc
  exact h i c hc
theorem below_grow2 (w : World) (n : Nat) (os : Array Obj) : Below w.heap.size w (Sort.grow (w.drewN n) os) := by
  refine ⟨rfl, rfl, rfl, ?_, fun k hk => ?_⟩
  · show w.heap.size ≤ (w.heap ++ os).size
    simp
  · exact Sort.heap_grow_old (w.drewN n) os hk
theorem ne_of_at {a b : Value} {m : Nat} (h : b.ownBlock = a.ownBlock ∨ b.ownBlock = some m) (ha : a.ownBlock ≠ none) : b.ownBlock ≠ none := by
  rcases h with h | h
  · rw [h]; exact ha
  · rw [h]; simp
end Go.Proofs.YtpjadgdimkdblaaDoor
