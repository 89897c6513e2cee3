/- bindMap, bindNamedMapper and BindNamed walked, over a map that has all names. Every world. -/
import Derived.Test.YtpjadgdimkdblaaDoorBm
namespace Go.Proofs.YtpjadgdimkdblaaDoor
open Go.RowKit Go.Maps
set_option linter.unusedVariables false

theorem ta_mm (v : Value) (w : World) : (Instr.typeAssert (.iface 72 v) 20 72 true).run Tryd.prog w = .ok (.tuple #[v, .bool true]) w := by kernel_rfl
/-- A text's names, and what a map says of them. -/
structure Found (k : Int) (q : ByteArray) (L : List UInt8) (ns : List (List UInt8)) (l : List (ByteArray × Value)) (us : List Value) : Prop where
  compiled : cn (mkK k) q.data.toList none [] [] = some (L, ns)
  len : us.length = ns.length
  many : ns.length ≤ 100000
  short : ∀ i, i < ns.length → (ns.getD i []).length ≤ maxLen
  look : ∀ i, i < ns.length → lookN l ⟨(ns.getD i []).toArray⟩ = some (us.getD i .nilIface)
  form : ∀ i, i < ns.length → oneForm (us.getD i .nilIface)
def BindOk (L : List UInt8) (us : List Value) (w : World) (e : Ending) (w' : World) : Prop :=
  ∃ v, e = .returned (.tuple #[.string ⟨L.toArray⟩, v, .nilIface]) ∧ w'.ownsRow w.heap.size 20 1 v us.length us ∧ Below w.heap.size w w'
set_option maxHeartbeats 1000000 in
theorem bindMap_any (k : Int) (hk : KindOk k) (q : ByteArray) (L : List UInt8) (ns : List (List UInt8)) (l : List (ByteArray × Value)) (us : List Value) (b m : Nat) (w : World) (ht : TextOk q) (hp : Pow10 w) (hf : Found k q L ns l us) (hmap : w.ownsMap Tryd.prog 9 RV b m (mapD l)) :
    Calls Tryd.prog 54 #[.int .i64 k, .string q, .map (some b)] w (BindOk L us w) := by
  have hcv := Lib.run_convert_string_bytes (P := Tryd.prog) w 9 59 5 q (u := .string) Tryd.underlying9 Tryd.underlying59 Tryd.underlying5
  have HB := Lib.hid (Lib.bytesWorld_below w 5 q)
  have HC := Lib.hid (fun j hj => Lib.bytesWorld_cell w 5 q j hj)
  have HS := Lib.hid (Lib.bytesWorld_size w 5 q)
  have HF := Lib.hid hf
  have HM := Lib.hid (hmap.kept (grown_none HB.out) (by simp))
  clear hf hmap
  generalize Lib.bytesWorld w 5 q = W1 at hcv HB HC HS HM
  go_enter Tryd.func54, Tryd.ntmps54
  go_wp2_with fail
  refine (cn_any k hk w.heap.size q.size _ q W1 rfl (by rw [HS.out]; omega) HC.out ht.size ht.colons ht.ascii (pow10_below hp HB.out)).mono ?_
  rintro e w2 h
  unfold CnOk at h
  rw [HF.out.compiled] at h
  obtain ⟨sv, rfl, ho, hb⟩ := h
  have HB2 := Lib.hid (HB.out.trans (hb.mono HB.out.size))
  have HO2 := Lib.hid (ownsRow_down ho HB.out.size)
  have HM2 := Lib.hid (HM.out.kept (grown_none hb) (by simp))
  clear hb ho
  go_wp2_with fail
  refine (bm_row w.heap.size sv b m (ns.map fun x => ⟨x.toArray⟩) l us w2 (by simpa using HF.out.len) (by simpa using HF.out.many) (by simpa [List.map_map, Function.comp_def] using HO2.out) (fun i hi => ?_) HM2.out (fun i hi => ?_) (fun i hi => HF.out.form i (by simpa using hi))).mono ?_
  · have h := HF.out.short i (by simpa using hi)
    have e : (ns.map fun x => (⟨x.toArray⟩ : ByteArray)).getD i ByteArray.empty = ⟨(ns.getD i []).toArray⟩ := by
      rw [List.getD_eq_getElem?_getD, List.getD_eq_getElem?_getD, List.getElem?_map]
      cases ns[i]? <;> rfl
    rw [e]
    exact h
  · have h := HF.out.look i (by simpa using hi)
    have e : (ns.map fun x => (⟨x.toArray⟩ : ByteArray)).getD i ByteArray.empty = ⟨(ns.getD i []).toArray⟩ := by
      rw [List.getD_eq_getElem?_getD, List.getD_eq_getElem?_getD, List.getElem?_map]
      cases ns[i]? <;> rfl
    rw [e]
    exact h
  · rintro e w3 ⟨v, rfl, ho, hb⟩
    have HB3 := Lib.hid (HB2.out.trans (hb.mono HB2.out.size))
    have HO3 := Lib.hid (ownsRow_down ho HB2.out.size)
    clear ho hb
    go_wp2_with fail
    go_ret3
    exact ⟨v, rfl, HO3.out, HB3.out⟩
set_option maxHeartbeats 1000000 in
theorem bindMapper_map (k : Int) (hk : KindOk k) (q : ByteArray) (L : List UInt8) (ns : List (List UInt8)) (l : List (ByteArray × Value)) (us : List Value) (b m : Nat) (w : World) (ht : TextOk q) (hp : Pow10 w) (hf : Found k q L ns l us) (hmap : w.ownsMap Tryd.prog 9 RV b m (mapD l)) :
    Calls Tryd.prog 45 #[.int .i64 k, .string q, .iface 72 (.map (some b))] w (BindOk L us w) := by
  have hta := ta_mm
  have HF := Lib.hid hf
  have HM := Lib.hid hmap
  clear hf hmap
  go_enter Tryd.func45, Tryd.ntmps45
  go_wp2_with fail
  refine (bindMap_any k hk q L ns l us b m w ht hp HF.out HM.out).mono ?_
  rintro e w3 ⟨v, rfl, ho, hb⟩
  have HB3 := Lib.hid hb
  have HO3 := Lib.hid ho
  clear ho hb
  go_wp2_with fail
  go_ret3
  exact ⟨v, rfl, HO3.out, HB3.out⟩
set_option maxHeartbeats 1000000 in
theorem bindNamed_map (k : Int) (hk : KindOk k) (q : ByteArray) (L : List UInt8) (ns : List (List UInt8)) (l : List (ByteArray × Value)) (us : List Value) (b m : Nat) (w : World) (ht : TextOk q) (hp : Pow10 w) (hf : Found k q L ns l us) (hmap : w.ownsMap Tryd.prog 9 RV b m (mapD l)) :
    Calls Tryd.prog 38 #[.int .i64 k, .string q, .iface 72 (.map (some b))] w (BindOk L us w) := by
  have HF := Lib.hid hf
  have HM := Lib.hid hmap
  clear hf hmap
  go_enter Tryd.func38, Tryd.ntmps38
  go_wp2_with fail
  refine (bindMapper_map k hk q L ns l us b m w ht hp HF.out HM.out).mono ?_
  rintro e w3 ⟨v, rfl, ho, hb⟩
  have HB3 := Lib.hid hb
  have HO3 := Lib.hid ho
  clear ho hb
  go_wp2_with fail
  go_ret3
  exact ⟨v, rfl, HO3.out, HB3.out⟩
end Go.Proofs.YtpjadgdimkdblaaDoor
