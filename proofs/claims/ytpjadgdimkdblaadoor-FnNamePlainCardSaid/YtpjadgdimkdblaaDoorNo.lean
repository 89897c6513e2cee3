/- impl.NamedOf and impl.Named walked, where every name is found; what valuesOf answers is the caller's to say. Every world. -/
import Derived.Test.YtpjadgdimkdblaaDoorBnd
namespace Go.Proofs.YtpjadgdimkdblaaDoor
open Go.RowKit Go.Maps
set_option linter.unusedVariables false

theorem us_form {gs : List NRec} {w wr : World} {k : Nat} {us : List Value} (h : MapSo gs w k us wr) : ∀ i, i < k → oneForm (us.getD i .nilIface) := by
  intro i hi
  have h1 := h.1
  have := (h.2.2.1 i (us.getD i .nilIface) (by rw [List.getD_eq_getElem?_getD, List.getElem?_eq_getElem (by omega)]; rfl)).1
  exact handed_form this
def NoOk (L : List UInt8) (R : Value → World → Prop) (w : World) (e : Ending) (w' : World) : Prop :=
  ∃ x, e = .returned (.tuple #[.string ⟨L.toArray⟩, x, .bool true]) ∧ R x w' ∧ Below w.heap.size w w'
def ValsSay (gs : List NRec) (F : List Value → List Value) (R : Value → World → Prop) (w : World) : Prop :=
  ∀ us v wv, us.length = gs.length → (∀ i u, us[i]? = some u → (gs.getD i n0).a.handed w.heap.size u wv) → wv.ownsRow w.heap.size 20 1 v (F us).length (F us) → Below w.heap.size w wv → Calls Tryd.prog 39 #[v] wv fun e w' => ∃ x, e = .returned x ∧ R x w' ∧ Below wv.heap.size wv w'
set_option maxHeartbeats 1000000 in
theorem namedOf_any (k : Int) (hk : KindOk k) (q : ByteArray) (A : Option Addr) (c : Nat) (gs : List NRec) (L : List UInt8) (ns : List (List UInt8)) (F : List Value → List Value) (R : Value → World → Prop) (w : World) (ht : TextOk q) (hp : Pow10 w) (hg : NamesOk w A gs)
    (hf : ∀ us, us.length = gs.length → (∀ i, i < gs.length → oneForm (us.getD i .nilIface)) → Found k q L ns (pairs gs us) (F us)) (hv : ValsSay gs F R w) :
    Calls Tryd.prog 31 #[.int .i64 k, .string q, .slice A gs.length c] w (NoOk L R w) := by
  have HF := Lib.hid hf
  have HV := Lib.hid hv
  clear hf hv
  go_enter Tryd.func31, Tryd.ntmps31
  go_wp2_with fail
  refine (mapOf_names A c gs w hg).mono ?_
  rintro e w1 ⟨us, rfl, hm⟩
  have HM := Lib.hid hm
  have HB1 := Lib.hid hm.2.2.2
  have HP1 := Lib.hid (pow10_below hp hm.2.2.2)
  clear hm
  go_wp2_with fail
  refine (bindNamed_map k hk q L ns (pairs gs us) (F us) w.heap.size gs.length w1 ht HP1.out (HF.out us HM.out.1 (us_form HM.out)) HM.out.2.1).mono ?_
  rintro e w2 ⟨v, rfl, ho, hb⟩
  have HB2 := Lib.hid (HB1.out.trans (hb.mono HB1.out.size))
  have HO2 := Lib.hid (ownsRow_down ho HB1.out.size)
  have HU2 := Lib.hid (show ∀ i u, us[i]? = some u → (gs.getD i n0).a.handed w.heap.size u w2 from fun i u hu => by
    have h := (HM.out.2.2.1 i u hu).1
    exact handed_grown h (grown_none hb) (by cases e : leads u <;> simp))
  clear ho hb
  go_wp2_with fail
  refine (HV.out us v w2 HM.out.1 HU2.out HO2.out HB2.out).mono ?_
  rintro e w3 ⟨x, rfl, hr, hb⟩
  have HB3 := Lib.hid (HB2.out.trans (hb.mono HB2.out.size))
  have HR3 := Lib.hid hr
  clear hr hb
  go_wp2_with fail
  go_ret3
  exact ⟨x, rfl, HR3.out, HB3.out⟩
set_option maxHeartbeats 1000000 in
theorem named_map (q : ByteArray) (A : Option Addr) (c : Nat) (gs : List NRec) (L : List UInt8) (ns : List (List UInt8)) (F : List Value → List Value) (R : Value → World → Prop) (w : World) (ht : TextOk q) (hp : Pow10 w) (hg : NamesOk w A gs)
    (hf : ∀ us, us.length = gs.length → (∀ i, i < gs.length → oneForm (us.getD i .nilIface)) → Found 1 q L ns (pairs gs us) (F us)) (hv : ValsSay gs F R w) :
    Calls Tryd.prog 19 #[.string q, .slice A gs.length c] w (NoOk L R w) := by
  have HF := Lib.hid hf
  have HV := Lib.hid hv
  clear hf hv
  go_enter Tryd.func19, Tryd.ntmps19
  go_wp2_with fail
  refine (namedOf_any 1 (by unfold KindOk; omega) q A c gs L ns F R w ht hp hg HF.out HV.out).mono ?_
  rintro e w3 ⟨x, rfl, hr, hb⟩
  have HB3 := Lib.hid hb
  have HR3 := Lib.hid hr
  clear hr hb
  go_wp2_with fail
  go_ret3
  exact ⟨x, rfl, HR3.out, HB3.out⟩
end Go.Proofs.YtpjadgdimkdblaaDoor
