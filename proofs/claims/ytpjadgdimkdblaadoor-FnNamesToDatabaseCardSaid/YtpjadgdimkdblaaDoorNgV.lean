/- What FnNamedAgain asks of zzFits4 and of valuesOf. Every world. -/
import Derived.Test.YtpjadgdimkdblaaDoorNgL
import Derived.Test.YtpjadgdimkdblaaDoorEqA
import Derived.Test.YtpjadgdimkdblaaDoorNo
namespace Go.Proofs.YtpjadgdimkdblaaDoor
open Go.RowKit
set_option linter.unusedVariables false

set_option maxHeartbeats 1000000 in
theorem fits4_any (x : VRec) (w : World) (ht : x.t.size ≤ maxLen) (hm : x.m ≤ maxLen) :
    Calls Tryd.prog 17 #[x.agg] w fun e w' => ∃ r : Bool, e = .returned (.bool r) ∧ Below w.heap.size w w' := by
  unfold maxLen at ht hm
  unfold VRec.agg
  go_enter Tryd.func17, Tryd.ntmps17
  go_wp2_with fail
  all_goals
    go_ret
    exact ⟨_, rfl, (Below.refl _ _).alloc (Nat.le_refl _) _⟩
/-- What comes back of one argument so many times. -/
def ManyBack (B : Nat) (a : ARec) (k : Nat) (x : Value) (w : World) : Prop :=
  ∃ rs : List VRec, rs.length = k ∧ w.ownsRow B 34 4 x k (cellsR rs) ∧ ∀ (i : Nat) (r : VRec), rs[i]? = some r → backOf B a r w
theorem row_cells1 {w : World} {B : Nat} {v : Value} {n : Nat} {us : List Value} (h : w.ownsRow B 20 1 v n us) (hn : us.length = n) : ∃ A c, v = .slice A n c ∧ ∀ i, i < n → ∃ b, A = some ⟨b, 0, none⟩ ∧ b < w.heap.size ∧ w.cell? ⟨b, i, none⟩ = some (us.getD i .nilIface) := by
  obtain ⟨A, c, rfl⟩ := ownsRow_form h
  refine ⟨A, c, rfl, fun i hi => ?_⟩
  rcases h.2 with ⟨_, h1⟩ | ⟨g, cap, cur, hv, _⟩
  · omega
  · obtain ⟨rfl, _, rfl⟩ : A = some ⟨g, 0, none⟩ ∧ True ∧ c = cap := by simpa using hv
    have hc := h.cells (g := g) rfl i (us.getD i .nilIface) (by rw [List.getD_eq_getElem?_getD, List.getElem?_eq_getElem (by omega)]; rfl)
    rw [addz] at hc
    exact ⟨g, rfl, (h.lt g rfl).2, hc⟩
theorem taken_of_right {a : ARec} (h : a.right) : a.taken := by
  rcases h with h | ⟨h5, _, _, h20, hy⟩
  · exact .inl h.1
  · exact .inr ⟨h5, by omega, fun i hi => (hy i hi).1⟩
theorem okOfRight {w : World} {a : ARec} (h : a.right) (hl : a.lain w) : a.ok w := by
  rcases h with h | ⟨h5, _, _, h20, hy⟩
  · exact .inl h.1
  · exact .inr ⟨h5, hl.1, by omega, hl.2.2, fun i hi => (hy i hi).1⟩
theorem says_many (nm : ByteArray) (a : ARec) (k : Nat) (w : World) (hk : k ≤ 1000000) (ha : a.taken) : ValsSay [⟨nm, a⟩] (fun us => List.replicate k (us.getD 0 .nilIface)) (ManyBack w.heap.size a k) w := by
  intro us v wv hl hh ho hb
  simp only [List.length_replicate] at ho
  obtain ⟨A, c, rfl, hc⟩ := row_cells1 ho (by simp)
  have h0 : us[0]? = some (us.getD 0 .nilIface) := by
    rw [List.getD_eq_getElem?_getD, List.getElem?_eq_getElem (by rw [hl]; simp)]
    rfl
  have hu := hh 0 _ h0
  have hg : ∀ i, i < k → (List.replicate k a).getD i a0 = a := fun i hi => by
    rw [List.getD_eq_getElem?_getD, List.getElem?_replicate, if_pos hi]
    rfl
  have hu2 : ∀ i, i < k → (List.replicate k (us.getD 0 .nilIface)).getD i .nilIface = us.getD 0 .nilIface := fun i hi => by
    rw [List.getD_eq_getElem?_getD, List.getElem?_replicate, if_pos hi]
    rfl
  refine (valuesOf_args w.heap.size A k c (List.replicate k a) (List.replicate k (us.getD 0 .nilIface)) wv (by simp) hk hc (fun i hi => ?_) (fun i hi => ?_)).mono ?_
  · rw [hg i hi, hu2 i hi]
    exact hu
  · rw [hg i hi]
    exact ha
  · rintro e w' ⟨x, rs, rfl, hs⟩
    simp only [List.length_replicate] at hs
    obtain ⟨h1, h2, h3, h4⟩ := hs
    refine ⟨x, rfl, ⟨rs, h1, ownsRow_down h2 hb.size, fun i r hr => ?_⟩, h4⟩
    have hi : i < k := by
      rw [← h1]
      exact (List.getElem?_eq_some_iff.1 hr).1
    have := (h3 i r hr).1
    rw [hg i hi] at this
    exact backOf_base this hb.size
end Go.Proofs.YtpjadgdimkdblaaDoor
