/- What In answers, in plain words: the text with each list's question mark spread, and the values in order. No walk. -/
import Derived.Test.YtdjgknfmehkigaaArgs
import Derived.Lib.Repeat
namespace Go.Proofs.Ytdjgknfmehkigaa
open Go.RowKit
set_option linter.unusedVariables false

def more (a : ARec) : List UInt8 := if a.x.k = 5 then Lib.repeatL [44, 32, 63] (a.ys.length - 1) else []
def vals (a : ARec) : List VRec := if a.x.k = 5 then a.ys else [a.x]
def ex : List UInt8 → List ARec → Option (List UInt8 × List VRec)
  | [], [] => some ([], [])
  | [], _ :: _ => none
  | c :: l, gs => if (c.toNat : Int) = 63 then (match gs with
      | [] => none
      | a :: r => (ex l r).map fun p => (63 :: (more a ++ p.1), vals a ++ p.2)) else (ex l gs).map fun p => (c :: p.1, p.2)
def emptyL (a : ARec) : Prop := a.x.k = 5 ∧ a.ys = []
def isL (a : ARec) : Bool := a.x.k == 5
theorem ex_none (c : UInt8) (l : List UInt8) (gs : List ARec) (h : ¬ (c.toNat : Int) = 63) : ex (c :: l) gs = (ex l gs).map fun p => (c :: p.1, p.2) := by
  cases gs <;> simp only [ex] <;> rw [if_neg h]
theorem ex_nil (l : List UInt8) : ex (63 :: l) [] = none := by simp [ex]
theorem ex_cons (l : List UInt8) (a : ARec) (r : List ARec) : ex (63 :: l) (a :: r) = (ex l r).map fun p => (63 :: (more a ++ p.1), vals a ++ p.2) := by simp [ex]
theorem ex_skip (a : List UInt8) (h : ∀ c ∈ a, (c.toNat : Int) ≠ 63) (l : List UInt8) (gs : List ARec) : ex (a ++ l) gs = (ex l gs).map fun p => (a ++ p.1, p.2) := by
  induction a with
  | nil => simp
  | cons c a ih =>
    rw [List.cons_append, ex_none _ _ _ (h c (by simp)), ih (fun d hd => h d (by simp [hd])), Option.map_map]
    rfl
theorem idxQ_shift (l : List UInt8) : ∀ i j, idxQ l (i + j) = if idxQ l i = -1 then -1 else idxQ l i + j := by
  induction l with
  | nil => intro i j; simp [idxQ]
  | cons c l ih =>
    intro i j
    unfold idxQ
    split
    · rw [if_neg (by omega)]; omega
    · have := ih (i + 1) j
      rw [show i + 1 + j = i + j + 1 from by omega] at this
      exact this
theorem idxQ_none : ∀ (l : List UInt8) (i : Nat), idxQ l i = -1 → ∀ c ∈ l, (c.toNat : Int) ≠ 63
  | [], _, _ => by simp
  | c :: l, i, h => by
    unfold idxQ at h
    split at h
    · omega
    · intro d hd
      rcases List.mem_cons.1 hd with rfl | hd
      · assumption
      · exact idxQ_none l _ h d hd
theorem idxQ_ge : ∀ (l : List UInt8) (i : Nat), idxQ l i = -1 ∨ (i : Int) ≤ idxQ l i
  | [], _ => by simp [idxQ]
  | c :: l, i => by
    unfold idxQ
    split
    · right; omega
    · rcases idxQ_ge l (i + 1) with h | h
      · exact .inl h
      · right; omega
theorem idxQ_some : ∀ (l : List UInt8) (i k : Nat), idxQ l i = ((i + k : Nat) : Int) → k < l.length ∧ l = l.take k ++ 63 :: l.drop (k + 1) ∧ ∀ c ∈ l.take k, (c.toNat : Int) ≠ 63
  | [], i, k, h => by simp [idxQ] at h; omega
  | c :: l, i, k, h => by
    unfold idxQ at h
    split at h
    · rename_i hc
      have : k = 0 := by omega
      subst this
      refine ⟨by simp, ?_, by simp⟩
      have : c = 63 := UInt8.toNat_inj.1 (by rw [show (63 : UInt8).toNat = 63 from rfl]; omega)
      simp [this]
    · rename_i hc
      have hge := idxQ_ge l (i + 1)
      rcases k with _ | k
      · omega
      · have := idxQ_some l (i + 1) k (by rw [h]; omega)
        refine ⟨by simp; omega, by rw [List.take_succ_cons, List.drop_succ_cons, List.cons_append]; exact congrArg (c :: ·) this.2.1, ?_⟩
        intro d hd
        rw [List.take_succ_cons] at hd
        rcases List.mem_cons.1 hd with rfl | hd
        · exact hc
        · exact this.2.2 d hd
/-- What is done, and what is left to do. -/
def Done (q : List UInt8) (gs : List ARec) (l : List UInt8) (vs : List VRec) (rest : List UInt8) (gr : List ARec) : Prop := ex q gs = (ex rest gr).map fun p => (l ++ p.1, vs ++ p.2)
theorem done_start (q : List UInt8) (gs : List ARec) : Done q gs [] [] q gs := by unfold Done; simp
theorem done_step {q : List UInt8} {gs : List ARec} {l : List UInt8} {vs : List VRec} {rest : List UInt8} {a : ARec} {gr : List ARec} {k : Nat} (h : Done q gs l vs rest (a :: gr)) (hk : idxQ rest 0 = (k : Int)) :
    Done q gs (l ++ rest.take k ++ 63 :: more a) (vs ++ vals a) (rest.drop (k + 1)) gr := by
  obtain ⟨_, h1, h2⟩ := idxQ_some rest 0 k (by simpa using hk)
  unfold Done at h ⊢
  rw [h]
  conv => lhs; rw [h1]
  rw [ex_skip _ h2, ex_cons, Option.map_map, Option.map_map]
  congr 1
  funext p
  simp
theorem done_many {q : List UInt8} {gs : List ARec} {l : List UInt8} {vs : List VRec} {rest : List UInt8} {k : Nat} (h : Done q gs l vs rest []) (hk : idxQ rest 0 = (k : Int)) : ex q gs = none := by
  obtain ⟨_, h1, h2⟩ := idxQ_some rest 0 k (by simpa using hk)
  unfold Done at h
  rw [h]
  conv => lhs; rw [h1]
  rw [ex_skip _ h2, ex_nil]
  rfl
theorem done_end {q : List UInt8} {gs : List ARec} {l : List UInt8} {vs : List VRec} {rest : List UInt8} (h : Done q gs l vs rest []) (hk : idxQ rest 0 = -1) : ex q gs = some (l ++ rest, vs) := by
  have h2 := idxQ_none rest 0 hk
  unfold Done at h
  rw [h]
  have := ex_skip rest h2 [] []
  rw [List.append_nil] at this
  rw [this]
  simp [ex]
theorem done_few {q : List UInt8} {gs : List ARec} {l : List UInt8} {vs : List VRec} {rest : List UInt8} {a : ARec} {gr : List ARec} (h : Done q gs l vs rest (a :: gr)) (hk : idxQ rest 0 = -1) : ex q gs = none := by
  have h2 := idxQ_none rest 0 hk
  unfold Done at h
  rw [h]
  have := ex_skip rest h2 [] (a :: gr)
  rw [List.append_nil] at this
  rw [this]
  simp [ex]
open Classical in
/-- What In answers of a text and arguments: nothing, or the text and the values. -/
noncomputable def inSpec (q : List UInt8) (gs : List ARec) : Option (List UInt8 × List VRec) :=
  if ∃ a ∈ gs, emptyL a then none else if gs.any isL = true then ex q gs else some (q, gs.map ARec.x)
end Go.Proofs.Ytdjgknfmehkigaa
