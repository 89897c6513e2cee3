/- What compileNamedQuery makes of a text, and the three rows that its loop holds. No walk. zzAllowed at a byte of ASCII, and errors.New: walks. -/
import Derived.Test.YtpjadgdimkdblaaDoorRebS
import Derived.Test.YtpjadgdimkdblaaDoorProg
import Derived.Lib.OthersKept
import Derived.Maps.AppendAt
import Derived.Lib.AppendStr
namespace Go.Proofs.YtpjadgdimkdblaaDoor
open Go.RowKit
set_option linter.unusedVariables false

/-- A letter or a digit of ASCII. -/
def isA (c : UInt8) : Bool := decide (97 ≤ c.toNat ∧ c.toNat ≤ 122 ∨ 65 ≤ c.toNat ∧ c.toNat ≤ 90 ∨ 48 ≤ c.toNat ∧ c.toNat ≤ 57)
/-- A byte of a name. -/
def isN (c : UInt8) : Bool := isA c || c == 95 || c == 46
/-- A text read on: what is open (a name's bytes), what is written, the names. -/
def cn (mk : List UInt8 → Nat → List UInt8) : List UInt8 → Option (List UInt8) → List UInt8 → List (List UInt8) → Option (List UInt8 × List (List UInt8))
  | [], _, L, ns => some (L, ns)
  | c :: l, none, L, ns => if c = 58 then cn mk l (some []) L ns else cn mk l none (L ++ [c]) ns
  | c :: l, some nm, L, ns =>
    if c = 58 then (if nm = [] then cn mk l none (L ++ [58]) ns else none)
    else if c = 61 ∧ nm = [] then cn mk l none (L ++ [58, 61]) ns
    else if isN c = true ∧ l ≠ [] then cn mk l (some (nm ++ [c])) L ns
    else if l = [] ∧ isA c = true then cn mk l none (L ++ mk (nm ++ [c]) (ns.length + 1)) (ns ++ [nm ++ [c]])
    else cn mk l none (L ++ mk nm (ns.length + 1) ++ [c]) (ns ++ [nm])
/-- The mark of a kind. -/
def mkK (k : Int) (nm : List UInt8) (j : Nat) : List UInt8 :=
  if k = 2 then 36 :: Lib.decDigits j else if k = 3 then 58 :: nm else if k = 4 then 64 :: 112 :: Lib.decDigits j else [63]
def cnt58 : List UInt8 → Nat
  | [] => 0
  | c :: l => if c = 58 then cnt58 l + 1 else cnt58 l
/-- What the loop knows of the text: what is to come answers as all; how much is written. -/
def CnP (mk : List UInt8 → Nat → List UInt8) (q : ByteArray) (k : Nat) (st : Option (List UInt8)) (L : List UInt8) (ns : List (List UInt8)) : Prop :=
  cn mk (q.data.toList.drop k) st L ns = cn mk q.data.toList none [] [] ∧
  ns.length + (match st with | none => 0 | some _ => 1) + cnt58 (q.data.toList.drop k) ≤ 98 ∧
  L.length + (match st with | none => 0 | some nm => nm.length) ≤ 6 * k ∧
  (∀ nm, st = some nm → 0 < k ∧ (nm = [] → q.data.toList.getD (k - 1) 0 = 58) ∧ (nm ≠ [] → q.data.toList.getD (k - 1) 0 ≠ 58))
theorem cnp_start (mk : List UInt8 → Nat → List UInt8) (q : ByteArray) (h : cnt58 q.data.toList ≤ 98) : CnP mk q 0 none [] [] := by
  refine ⟨by rw [List.drop_zero], ?_, by simp, fun nm h => by cases h⟩
  rw [List.drop_zero]
  simpa using h
theorem getD_at {l : List UInt8} {k : Nat} {c : UInt8} {t : List UInt8} (h : l.drop k = c :: t) : l.getD k 0 = c := by
  have hk : k < l.length := by
    rcases Nat.lt_or_ge k l.length with h1 | h1
    · exact h1
    · rw [List.drop_of_length_le h1] at h; cases h
  rw [List.drop_eq_getElem_cons hk] at h
  rw [List.getD_eq_getElem?_getD, List.getElem?_eq_getElem hk]
  exact (List.cons.inj h).1
theorem drop_next {l : List UInt8} {k : Nat} {c : UInt8} {t : List UInt8} (h : l.drop k = c :: t) : l.drop (k + 1) = t := by
  rw [← List.drop_drop, h]
  rfl
section
variable {mk : List UInt8 → Nat → List UInt8} {q : ByteArray} {k : Nat} {L : List UInt8} {ns : List (List UInt8)} {nm : List UInt8} {c : UInt8} {t : List UInt8}
theorem cnp_colon (h : CnP mk q k none L ns) (hd : q.data.toList.drop k = c :: t) (hc : c = 58) : CnP mk q (k + 1) (some []) L ns := by
  obtain ⟨h1, h2, h3, h4⟩ := h
  have hn := drop_next hd
  rw [hd] at h1 h2
  subst hc
  rw [cnt58, if_pos rfl] at h2
  rw [cn, if_pos rfl] at h1
  refine ⟨by rw [hn]; exact h1, by rw [hn]; simp only at h2 ⊢; omega, by simp only [List.length_nil] at h3 ⊢; omega, fun nm h => ?_⟩
  cases h
  exact ⟨by omega, fun _ => by rw [Nat.add_sub_cancel]; exact getD_at hd, fun e => absurd rfl e⟩
theorem cnp_text (h : CnP mk q k none L ns) (hd : q.data.toList.drop k = c :: t) (hc : c ≠ 58) : CnP mk q (k + 1) none (L ++ [c]) ns := by
  obtain ⟨h1, h2, h3, h4⟩ := h
  have hn := drop_next hd
  rw [hd] at h1 h2
  rw [cnt58, if_neg hc] at h2
  rw [cn, if_neg hc] at h1
  exact ⟨by rw [hn]; exact h1, by rw [hn]; exact h2, by simp only [List.length_append, List.length_singleton] at h3 ⊢; omega, fun nm h => by cases h⟩
theorem cnp_two (h : CnP mk q k (some []) L ns) (hd : q.data.toList.drop k = c :: t) (hc : c = 58) : CnP mk q (k + 1) none (L ++ [58]) ns := by
  obtain ⟨h1, h2, h3, h4⟩ := h
  have hn := drop_next hd
  rw [hd] at h1 h2
  subst hc
  rw [cnt58, if_pos rfl] at h2
  rw [cn, if_pos rfl, if_pos rfl] at h1
  exact ⟨by rw [hn]; exact h1, by rw [hn]; simp only at h2 ⊢; omega, by simp only [List.length_append, List.length_singleton, List.length_nil] at h3 ⊢; omega, fun nm h => by cases h⟩
theorem cnp_bad (h : CnP mk q k (some nm) L ns) (hd : q.data.toList.drop k = c :: t) (hc : c = 58) (hnm : nm ≠ []) : cn mk q.data.toList none [] [] = none := by
  obtain ⟨h1, _⟩ := h
  rw [hd] at h1
  rw [cn, if_pos hc, if_neg hnm] at h1
  exact h1.symm
theorem cnp_assign (h : CnP mk q k (some []) L ns) (hd : q.data.toList.drop k = c :: t) (hc : c = 61) : CnP mk q (k + 1) none (L ++ [58, 61]) ns := by
  obtain ⟨h1, h2, h3, h4⟩ := h
  have hn := drop_next hd
  rw [hd] at h1 h2
  subst hc
  rw [cnt58, if_neg (by decide)] at h2
  rw [cn, if_neg (by decide), if_pos ⟨rfl, rfl⟩] at h1
  exact ⟨by rw [hn]; exact h1, by rw [hn]; simp only at h2 ⊢; omega, by simp only [List.length_append, List.length_cons, List.length_nil] at h3 ⊢; omega, fun nm h => by cases h⟩
theorem cnp_more (h : CnP mk q k (some nm) L ns) (hd : q.data.toList.drop k = c :: t) (hc : c ≠ 58) (h61 : ¬ (c = 61 ∧ nm = [])) (hN : isN c = true) (ht : t ≠ []) : CnP mk q (k + 1) (some (nm ++ [c])) L ns := by
  obtain ⟨h1, h2, h3, h4⟩ := h
  have hn := drop_next hd
  rw [hd] at h1 h2
  rw [cnt58, if_neg hc] at h2
  rw [cn, if_neg hc, if_neg h61, if_pos ⟨hN, ht⟩] at h1
  refine ⟨by rw [hn]; exact h1, by rw [hn]; exact h2, by simp only [List.length_append, List.length_singleton] at h3 ⊢; omega, fun nm' h => ?_⟩
  cases h
  exact ⟨by omega, fun e => by simp at e, fun _ => by rw [Nat.add_sub_cancel, getD_at hd]; exact hc⟩
theorem cnp_end (h : CnP mk q k (some nm) L ns) (hd : q.data.toList.drop k = c :: t) (hc : c ≠ 58) (h61 : ¬ (c = 61 ∧ nm = [])) (hN : ¬ (isN c = true ∧ t ≠ [])) (hA : ¬ (t = [] ∧ isA c = true)) (hmk : (mk nm (ns.length + 1)).length ≤ nm.length + 4) :
    CnP mk q (k + 1) none (L ++ mk nm (ns.length + 1) ++ [c]) (ns ++ [nm]) := by
  obtain ⟨h1, h2, h3, h4⟩ := h
  have hn := drop_next hd
  rw [hd] at h1 h2
  rw [cnt58, if_neg hc] at h2
  rw [cn, if_neg hc, if_neg h61, if_neg hN, if_neg hA] at h1
  refine ⟨by rw [hn]; exact h1, by rw [hn]; simp only [List.length_append, List.length_singleton] at h2 ⊢; omega, by simp only [List.length_append, List.length_singleton] at h3 ⊢; omega, fun nm h => by cases h⟩
theorem cnp_last (h : CnP mk q k (some nm) L ns) (hd : q.data.toList.drop k = c :: t) (hc : c ≠ 58) (h61 : ¬ (c = 61 ∧ nm = [])) (ht : t = []) (hA : isA c = true) (hmk : (mk (nm ++ [c]) (ns.length + 1)).length ≤ nm.length + 5) :
    CnP mk q (k + 1) none (L ++ mk (nm ++ [c]) (ns.length + 1)) (ns ++ [nm ++ [c]]) := by
  obtain ⟨h1, h2, h3, h4⟩ := h
  have hn := drop_next hd
  rw [hd] at h1 h2
  rw [cnt58, if_neg hc] at h2
  rw [cn, if_neg hc, if_neg h61, if_neg (fun e => e.2 ht), if_pos ⟨ht, hA⟩] at h1
  refine ⟨by rw [hn]; exact h1, by rw [hn]; simp only [List.length_append, List.length_singleton] at h2 ⊢; omega, by simp only [List.length_append] at h3 ⊢; omega, fun nm h => by cases h⟩
end
/-- Two rows that are not one. -/
def dj (a b : Value) : Prop := a.ownBlock = none ∨ a.ownBlock ≠ b.ownBlock
theorem dj_symm {a b : Value} (h : dj a b) : dj b a := by
  rcases h with h | h
  · rcases hb : b.ownBlock with _ | g
    · exact .inl hb
    · right; rw [h, hb]; simp
  · right; exact fun e => h e.symm
/-- What is written, the name that is open, and the names, each a row of the call's own. -/
structure O3 (B : Nat) (rv nv sv : Value) (L nm : List UInt8) (ns : List (List UInt8)) (w : World) : Prop where
  r : w.ownsRow B 5 1 rv L.length (Lib.byteCells L)
  n : w.ownsRow B 5 1 nv nm.length (Lib.byteCells nm)
  s : w.ownsRow B 9 1 sv ns.length (ns.map fun x => Value.string ⟨x.toArray⟩)
  rn : dj rv nv
  rs : dj rv sv
  sn : dj nv sv
theorem grown_below {w w' : World} (h : Below w.heap.size w w') : w.grownBy w' none := ⟨h.os, h.tape, h.output, h.size, fun k hk _ => h.block k hk⟩
theorem none_or' (o : Option Nat) : o = none ∨ o ≠ none := by cases o <;> simp
section
variable {B : Nat} {rv nv sv v' : Value} {L nm L' : List UInt8} {ns ns' : List (List UInt8)} {w w1 w2 : World}
theorem O3.old (h : O3 B rv nv sv L nm ns w) (hb : Below w.heap.size w w1) : O3 B rv nv sv L nm ns w1 :=
  ⟨h.r.kept (grown_below hb) (none_or' _), h.n.kept (grown_below hb) (none_or' _), h.s.kept (grown_below hb) (none_or' _), h.rn, h.rs, h.sn⟩
theorem new_ne {T : TypeId} {m n : Nat} {xs : List Value} {a b : Value} (hb : w.ownsRow B T m b n xs) (hw : w.heap.size ≤ w1.heap.size) (ha : a.ownBlock = some w1.heap.size) : dj b a := by
  rcases hbb : b.ownBlock with _ | g
  · exact .inl hbb
  · right
    rw [ha, hbb]
    intro e
    have := (hb.lt g hbb).2
    have := Option.some.inj e
    omega
theorem O3.grow_r (h : O3 B rv nv sv L nm ns w) (hb : Below w.heap.size w w1) (ho : w2.ownsRow B 5 1 v' L'.length (Lib.byteCells L')) (hg : w1.grownBy w2 rv.ownBlock) (hat : v'.ownBlock = rv.ownBlock ∨ v'.ownBlock = some w1.heap.size) :
    O3 B v' nv sv L' nm ns w2 := by
  have h1 := h.old hb
  refine ⟨ho, h1.n.kept hg (dj_symm h.rn), h1.s.kept hg (dj_symm h.rs), ?_, ?_, h.sn⟩
  · rcases hat with e | e
    · have := h.rn; unfold dj at this ⊢; rw [e]; exact this
    · exact dj_symm (new_ne h.n hb.size e)
  · rcases hat with e | e
    · have := h.rs; unfold dj at this ⊢; rw [e]; exact this
    · exact dj_symm (new_ne h.s hb.size e)
theorem O3.grow_n (h : O3 B rv nv sv L nm ns w) (hb : Below w.heap.size w w1) (ho : w2.ownsRow B 5 1 v' L'.length (Lib.byteCells L')) (hg : w1.grownBy w2 nv.ownBlock) (hat : v'.ownBlock = nv.ownBlock ∨ v'.ownBlock = some w1.heap.size) :
    O3 B rv v' sv L L' ns w2 := by
  have h1 := h.old hb
  refine ⟨h1.r.kept hg h.rn, ho, h1.s.kept hg (dj_symm h.sn), ?_, h.rs, ?_⟩
  · rcases hat with e | e
    · have := h.rn; unfold dj at this ⊢; rw [e]; exact this
    · exact new_ne h.r hb.size e
  · rcases hat with e | e
    · have := h.sn; unfold dj at this ⊢; rw [e]; exact this
    · exact dj_symm (new_ne h.s hb.size e)
theorem O3.grow_s (h : O3 B rv nv sv L nm ns w) (hb : Below w.heap.size w w1) (ho : w2.ownsRow B 9 1 v' ns'.length (ns'.map fun x => Value.string ⟨x.toArray⟩)) (hg : w1.grownBy w2 sv.ownBlock) (hat : v'.ownBlock = sv.ownBlock ∨ v'.ownBlock = some w1.heap.size) :
    O3 B rv nv v' L nm ns' w2 := by
  have h1 := h.old hb
  refine ⟨h1.r.kept hg h.rs, h1.n.kept hg h.sn, ho, h.rn, ?_, ?_⟩
  · rcases hat with e | e
    · have := h.rs; unfold dj at this ⊢; rw [e]; exact this
    · exact new_ne h.r hb.size e
  · rcases hat with e | e
    · have := h.sn; unfold dj at this ⊢; rw [e]; exact this
    · exact new_ne h.n hb.size e
theorem O3.shut (h : O3 B rv nv sv L nm ns w) : O3 B rv (.slice none 0 0) sv L [] ns w :=
  ⟨h.r, World.ownsRow_nil _ _ _ _, h.s, dj_symm (.inl rfl), h.rs, .inl rfl⟩
/-- A name is begun: '[]byte{}'. -/
theorem O3.begin (h : O3 B rv nv sv L nm ns w) (hB : B ≤ w.heap.size) : O3 B rv (.slice (some ⟨w.heap.size, 0, none⟩) 0 0) sv L [] ns (w.alloc (.cells #[] 5)) :=
  ⟨h.r.alloc _, World.ownsRow_made w #[] 0 hB (by decide) (by decide), h.s.alloc _, new_ne h.r (Nat.le_refl _) rfl, h.rs, dj_symm (new_ne h.s (Nat.le_refl _) rfl)⟩
theorem ownsRow_iterAt {T : TypeId} {m n : Nat} {xs : List Value} {v : Value} (h : w.ownsRow B T m v n xs) {k : Nat} {s : ByteArray} {pos : Nat} (hk : w.heap[k]? = some (.stringIter s pos)) (pos' : Nat) : (w.iterAt k s pos').ownsRow B T m v n xs := by
  refine ⟨h.1, ?_⟩
  rcases h.2 with hn | ⟨g, cap, cur, hv, hbg, hg, rest⟩
  · exact .inl hn
  · have hkg : g ≠ k := by
      intro e1
      rw [e1, hk] at hg
      cases hg
    exact .inr ⟨g, cap, cur, hv, hbg, (Lib.iterAt_other w k g s pos' hkg).trans hg, rest⟩
theorem O3.iterAt (h : O3 B rv nv sv L nm ns w) {k : Nat} {s : ByteArray} {pos : Nat} (hk : w.heap[k]? = some (.stringIter s pos)) (pos' : Nat) : O3 B rv nv sv L nm ns (w.iterAt k s pos') :=
  ⟨ownsRow_iterAt h.r hk _, ownsRow_iterAt h.n hk _, ownsRow_iterAt h.s hk _, h.rn, h.rs, h.sn⟩
/-- An iterator stands while a row is appended to. -/
theorem iter_grown {T : TypeId} {m n : Nat} {xs : List Value} {v : Value} (h : w.ownsRow B T m v n xs) (hb : Below w.heap.size w w1) (hg : w1.grownBy w2 v.ownBlock) {k : Nat} {s : ByteArray} {pos : Nat} (hk : w.heap[k]? = some (.stringIter s pos)) : w2.heap[k]? = some (.stringIter s pos) := by
  have hlt : k < w.heap.size := (Array.getElem?_eq_some_iff.1 hk).1
  have h1 := (hb.block k hlt).trans hk
  rw [hg.block k (Nat.lt_of_lt_of_le hlt hb.size) ?_]
  · exact h1
  · intro e
    rcases h.2 with ⟨hv, _⟩ | ⟨g, cap, cur, hv, _, hgg, _⟩
    · rw [hv] at e; simp [Value.ownBlock] at e
    · rw [hv] at e
      simp [Value.ownBlock] at e
      rw [e, hgg] at hk
      cases hk
end
theorem mkK_small (k : Int) (nm : List UInt8) (j : Nat) (hj : j < 100) : (mkK k nm j).length ≤ nm.length + 4 := by
  have hd : (Lib.decDigits j).length ≤ 2 := by
    rw [Lib.decDigits]
    split
    · simp
    · rw [Lib.decDigits, dif_pos (by omega)]
      simp
  unfold mkK
  split
  · simp only [List.length_cons]; omega
  · split
    · simp only [List.length_cons]; omega
    · split
      · simp only [List.length_cons]; omega
      · simp
end Go.Proofs.YtpjadgdimkdblaaDoor
namespace Go.Proofs.YtpjadgdimkdblaaDoor
open Go.RowKit
set_option linter.unusedVariables false

theorem isA_iff {c : UInt8} : isA c = true ↔ (97 ≤ c.toNat ∧ c.toNat ≤ 122 ∨ 65 ≤ c.toNat ∧ c.toNat ≤ 90 ∨ 48 ≤ c.toNat ∧ c.toNat ≤ 57) := by
  unfold isA
  simp
set_option maxHeartbeats 1000000 in
set_option maxRecDepth 100000 in
theorem allowed_any (c : UInt8) (hc : c.toNat < 128) (w : World) :
    Calls Tryd.prog 53 #[.int .u8 (c.toNat : Int)] w fun e w' => e = .returned (.bool (isA c)) ∧ w = w' := by
  cases h : isA c with
  | true =>
    rw [isA_iff] at h
    generalize c.toNat = x at h hc ⊢
    rcases h with h | h | h
    all_goals
      have h1 : (48 : Int) ≤ x := by omega
      have h2 : (x : Int) < 128 := by omega
      go_enter Tryd.func53, Tryd.ntmps53
      go_wp2_with fail
      go_ret
      exact ⟨rfl, rfl⟩
  | false =>
    have h : ¬ (97 ≤ c.toNat ∧ c.toNat ≤ 122 ∨ 65 ≤ c.toNat ∧ c.toNat ≤ 90 ∨ 48 ≤ c.toNat ∧ c.toNat ≤ 57) := fun e => by rw [isA_iff.2 e] at h; cases h
    generalize c.toNat = x at h hc ⊢
    have h4 : x < 48 ∨ (57 < x ∧ x < 65) ∨ (90 < x ∧ x < 97) ∨ 122 < x := by omega
    clear h
    have h0 : (0 : Int) ≤ x := by omega
    have h2 : (x : Int) < 128 := by omega
    rcases h4 with h | h | h | h
    all_goals
      go_enter Tryd.func53, Tryd.ntmps53
      go_wp2_with fail
      go_ret
      refine ⟨ret_bool ?_, rfl⟩
      simp
      omega
theorem errNew_any (s : ByteArray) (w : World) :
    Calls Tryd.prog 51 #[.string s] w fun e w' => e = .returned (.iface 105 (.pointer (some ⟨w.heap.size, 0, none⟩))) ∧ Below w.heap.size w w' := by
  go_enter Tryd.func51, Tryd.ntmps51
  go_wp2_with fail
  go_ret
  exact ⟨rfl, (Below.refl _ _).alloc (Nat.le_refl _) _⟩
end Go.Proofs.YtpjadgdimkdblaaDoor
