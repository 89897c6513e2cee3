/- A map keyed by texts whose elements are interface values, as it reads. No walk. -/
import Derived.Test.YtpjadgdimkdblaaDoorProg
import Derived.Test.YtpjadgdimkdblaaDoorWords
import Derived.Maps.OwnSet
import Derived.Maps.Views
import Derived.WalkKit
namespace Go.Proofs.YtpjadgdimkdblaaDoor
open Go.RowKit Go.Maps
set_option linter.unusedVariables false

theorem lawS : Keyed Tryd.prog 9 := string_keyed Tryd.underlying9
theorem zeroI (w : World) : (zeroValue 20).run Tryd.prog w = .ok .nilIface w := by kernel_rfl
/-- An element reads as itself. -/
def RV (v : Value) : Option (DataW Value × List MemPlace) := some (.held v, [])
def klS (s : ByteArray) : Lit := .string s.data.toList
theorem klS_ne {a b : ByteArray} (h : a ≠ b) : klS a ≠ klS b := fun e => h (ext_list (Lit.string.inj e))
theorem keyS (s : ByteArray) (h : s.size ≤ maxLen) : keyOf Tryd.prog 9 (.string s) = some (klS s) := WideMaps.keyOf_string_mk Tryd.underlying9 h
theorem klS_key (s : ByteArray) : WideAt.IsKeyLit (klS s) := trivial
/-- The map of names with their values, in order. -/
def mapD (l : List (ByteArray × Value)) : DataW Value := l.foldl (fun D p => D.put (klS p.1) (.held p.2)) (.map [])
theorem mapD_snoc (l : List (ByteArray × Value)) (p : ByteArray × Value) : mapD (l ++ [p]) = (mapD l).put (klS p.1) (.held p.2) := by simp [mapD, List.foldl_append]
theorem isMap_mapD (l : List (ByteArray × Value)) : IsMap (mapD l) := by
  have h : ∀ (l : List (ByteArray × Value)) (D : DataW Value), IsMap D → IsMap (l.foldl (fun D p => D.put (klS p.1) (.held p.2)) D) := by
    intro l
    induction l with
    | nil => exact fun D h => h
    | cons p l ih => exact fun D h => ih _ (h.put _ _)
  exact h l _ isMap_empty
/-- What the map says of a name. -/
def lookN : List (ByteArray × Value) → ByteArray → Option Value
  | [], _ => none
  | p :: l, s => match lookN l s with
    | some v => some v
    | none => if p.1.data.toList = s.data.toList then some p.2 else none
theorem look_fold (s : ByteArray) : ∀ (l : List (ByteArray × Value)) (D : DataW Value), IsMap D → match lookN l s with
    | some v => has (l.foldl (fun D p => D.put (klS p.1) (.held p.2)) D) (klS s) = true ∧ ∀ z, (l.foldl (fun D p => D.put (klS p.1) (.held p.2)) D).atKey (klS s) z = .held v
    | none => has (l.foldl (fun D p => D.put (klS p.1) (.held p.2)) D) (klS s) = has D (klS s) ∧ ∀ z, (l.foldl (fun D p => D.put (klS p.1) (.held p.2)) D).atKey (klS s) z = D.atKey (klS s) z
  | [], D, _ => ⟨rfl, fun _ => rfl⟩
  | p :: l, D, hD => by
    have ih := look_fold s l (D.put (klS p.1) (.held p.2)) (hD.put _ _)
    rw [lookN]
    cases hl : lookN l s with
    | some v =>
      rw [hl] at ih
      exact ih
    | none =>
      rw [hl] at ih
      simp only at ih ⊢
      by_cases hp : p.1.data.toList = s.data.toList
      · rw [if_pos hp]
        have e : klS p.1 = klS s := by unfold klS; rw [hp]
        refine ⟨?_, fun z => ?_⟩
        · show has (l.foldl _ (D.put (klS p.1) (.held p.2))) (klS s) = true
          rw [ih.1, e]
          exact has_put_same hD (klS_key s) _
        · show (l.foldl _ (D.put (klS p.1) (.held p.2))).atKey (klS s) z = _
          rw [ih.2 z, e]
          exact atKey_put_same hD (klS_key s) _ _
      · rw [if_neg hp]
        have hne : klS s ≠ klS p.1 := fun e => hp (Lit.string.inj e).symm
        refine ⟨?_, fun z => ?_⟩
        · show has (l.foldl _ (D.put (klS p.1) (.held p.2))) (klS s) = _
          rw [ih.1]
          exact has_put_other hne _
        · show (l.foldl _ (D.put (klS p.1) (.held p.2))).atKey (klS s) z = _
          rw [ih.2 z]
          exact atKey_put_other hne _ _
theorem look_some {l : List (ByteArray × Value)} {s : ByteArray} {v : Value} (h : lookN l s = some v) : has (mapD l) (klS s) = true ∧ ∀ z, (mapD l).atKey (klS s) z = .held v := by
  have := look_fold s l (.map []) isMap_empty
  rw [h] at this
  exact this
theorem look_none {l : List (ByteArray × Value)} {s : ByteArray} (h : lookN l s = none) : has (mapD l) (klS s) = false := by
  have := look_fold s l (.map []) isMap_empty
  rw [h] at this
  exact this.1.trans rfl
end Go.Proofs.YtpjadgdimkdblaaDoor
