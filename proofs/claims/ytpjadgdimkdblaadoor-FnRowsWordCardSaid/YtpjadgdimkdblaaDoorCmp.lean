/- sqlx.Compile and impl.Compiled walked, for every kind of placeholders. -/
import Derived.Test.YtpjadgdimkdblaaDoorCn0
import Derived.Test.YtpjadgdimkdblaaDoorCn1
import Derived.Test.YtpjadgdimkdblaaDoorCn2
import Derived.Test.YtpjadgdimkdblaaDoorCn3
import Derived.Test.YtpjadgdimkdblaaDoorCn4
import Derived.Lib.ConvBytes
import Derived.Lib.AtoiErrMem
import Derived.OwnWalk
namespace Go.Proofs.YtpjadgdimkdblaaDoor
open Go.RowKit
set_option linter.unusedVariables false

def KindOk (k : Int) : Prop := k = 0 ∨ k = 1 ∨ k = 2 ∨ k = 3 ∨ k = 4
theorem cn_any (k : Int) (hk : KindOk k) (b n c : Nat) (q : ByteArray) (w : World) (hn : q.size = n) (hb : b < w.heap.size) (hcell : ∀ i, i < n → w.cell? ⟨b, i, none⟩ = some (.int .u8 ((q.data.toList.getD i 0).toNat : Int))) (hq : n ≤ 100000) (h58 : cnt58 q.data.toList ≤ 98) (hasc : asc q) (hp : Pow10 w) :
    Calls Tryd.prog 43 #[.slice (some ⟨b, 0, none⟩) n c, .int .i64 k] w (CnOk k q w) := by
  rcases hk with rfl | rfl | rfl | rfl | rfl
  · exact cn_0 b n c q w hn hb hcell hq h58 hasc hp
  · exact cn_1 b n c q w hn hb hcell hq h58 hasc hp
  · exact cn_2 b n c q w hn hb hcell hq h58 hasc hp
  · exact cn_3 b n c q w hn hb hcell hq h58 hasc hp
  · exact cn_4 b n c q w hn hb hcell hq h58 hasc hp
/-- A text that is looked at. -/
structure TextOk (q : ByteArray) : Prop where
  size : q.size ≤ 100000
  colons : cnt58 q.data.toList ≤ 98
  ascii : asc q
theorem ownsRow_down {w : World} {B B' : Nat} {e : TypeId} {size : Nat} {v : Value} {n : Nat} {xs : List Value} (h : w.ownsRow B e size v n xs) (hB : B' ≤ B) : w.ownsRow B' e size v n xs := by
  obtain ⟨h1, h2⟩ := h
  refine ⟨h1, ?_⟩
  rcases h2 with h2 | ⟨g, cap, cur, hv, hg, r⟩
  · exact .inl h2
  · exact .inr ⟨g, cap, cur, hv, by omega, r⟩
set_option maxHeartbeats 1000000 in
theorem compile_any (k : Int) (hk : KindOk k) (q : ByteArray) (w : World) (ht : TextOk q) (hp : Pow10 w) :
    Calls Tryd.prog 35 #[.string q, .int .i64 k] w (CnOk k q w) := by
  have hcv := Lib.run_convert_string_bytes (P := Tryd.prog) w 9 59 5 q (u := .string) Tryd.underlying9 Tryd.underlying59 Tryd.underlying5
  have HB := Lib.hid (Lib.bytesWorld_below w 5 q)
  have HC := Lib.hid (fun j hj => Lib.bytesWorld_cell w 5 q j hj)
  have HS := Lib.hid (Lib.bytesWorld_size w 5 q)
  generalize Lib.bytesWorld w 5 q = W1 at hcv HB HC HS
  go_enter Tryd.func35, Tryd.ntmps35
  go_wp2_with fail
  refine (cn_any k hk w.heap.size q.size _ q W1 rfl (by rw [HS.out]; omega) HC.out ht.size ht.colons ht.ascii (pow10_below hp HB.out)).mono ?_
  rintro e w2 h
  unfold CnOk at h
  cases hcn : cn (mkK k) q.data.toList none [] [] with
  | none =>
    rw [hcn] at h
    obtain ⟨sv, t, x, rfl, hb⟩ := h
    have HB2 := Lib.hid (HB.out.trans (hb.mono HB.out.size))
    have HCN := Lib.hid hcn
    clear hb hcn
    go_wp2_with fail
    go_ret3
    exact cnOk_none HCN.out HB2.out
  | some p =>
    obtain ⟨L, ns⟩ := p
    rw [hcn] at h
    obtain ⟨sv, rfl, ho, hb⟩ := h
    have HB2 := Lib.hid (HB.out.trans (hb.mono HB.out.size))
    have HO2 := Lib.hid (ownsRow_down ho HB.out.size)
    have HCN := Lib.hid hcn
    clear hb hcn ho
    go_wp2_with fail
    go_ret3
    exact cnOk_some HCN.out HO2.out HB2.out
/-- What impl.Compiled answers. -/
def CpOk (k : Int) (q : ByteArray) (w : World) (e : Ending) (w' : World) : Prop :=
  match cn (mkK k) q.data.toList none [] [] with
  | some (L, ns) => ∃ sv, e = .returned (.tuple #[.string ⟨L.toArray⟩, sv, .bool true]) ∧ w'.ownsRow w.heap.size 9 1 sv ns.length (ns.map fun x => Value.string ⟨x.toArray⟩) ∧ Below w.heap.size w w'
  | none => e = .returned (.tuple #[.string ⟨#[]⟩, .slice none 0 0, .bool false]) ∧ Below w.heap.size w w'
theorem cpOk_some {k : Int} {q : ByteArray} {w w' : World} {e : Ending} {L : List UInt8} {ns : List (List UInt8)} (h : cn (mkK k) q.data.toList none [] [] = some (L, ns)) (hc : CpOk k q w e w') : ∃ sv, e = .returned (.tuple #[.string ⟨L.toArray⟩, sv, .bool true]) ∧ w'.ownsRow w.heap.size 9 1 sv ns.length (ns.map fun x => Value.string ⟨x.toArray⟩) ∧ Below w.heap.size w w' := by
  unfold CpOk at hc
  rw [h] at hc
  exact hc
theorem cpOk_none {k : Int} {q : ByteArray} {w w' : World} {e : Ending} (h : cn (mkK k) q.data.toList none [] [] = none) (hc : CpOk k q w e w') : e = .returned (.tuple #[.string ⟨#[]⟩, .slice none 0 0, .bool false]) ∧ Below w.heap.size w w' := by
  unfold CpOk at hc
  rw [h] at hc
  exact hc
set_option maxHeartbeats 1000000 in
theorem compiled_any (k : Int) (hk : KindOk k) (q : ByteArray) (w : World) (ht : TextOk q) (hp : Pow10 w) :
    Calls Tryd.prog 16 #[.int .i64 k, .string q] w (CpOk k q w) := by
  go_enter Tryd.func16, Tryd.ntmps16
  go_wp2_with fail
  refine (compile_any k hk q w ht hp).mono ?_
  rintro e w2 h
  unfold CnOk at h
  cases hcn : cn (mkK k) q.data.toList none [] [] with
  | none =>
    rw [hcn] at h
    obtain ⟨sv, t, x, rfl, hb⟩ := h
    have HB2 := Lib.hid hb
    have HCN := Lib.hid hcn
    clear hb hcn
    go_wp2_with fail
    go_ret3
    unfold CpOk
    rw [HCN.out]
    exact ⟨rfl, HB2.out⟩
  | some p =>
    obtain ⟨L, ns⟩ := p
    rw [hcn] at h
    obtain ⟨sv, rfl, ho, hb⟩ := h
    have HB2 := Lib.hid hb
    have HO2 := Lib.hid ho
    have HCN := Lib.hid hcn
    clear hb hcn ho
    go_wp2_with fail
    go_ret3
    unfold CpOk
    rw [HCN.out]
    exact ⟨sv, rfl, HO2.out, HB2.out⟩
end Go.Proofs.YtpjadgdimkdblaaDoor
