/- impl.Debug walked, at texts with as many question marks as arguments that are no lists. -/
import Derived.Test.YtdjgknfmehkigaaDoorDbg
namespace Go.Proofs.YtdjgknfmehkigaaDoor
open Go.RowKit
set_option linter.unusedVariables false

theorem expr_any (q : ByteArray) (A : Option Addr) (n c : Nat) (w : World) :
    Calls Tryd.prog 33 #[.string q, .slice A n c] w fun e w' => e = .returned (.iface 90 (.agg #[.string q, .slice A n c])) ∧ w = w' := by
  go_enter Tryd.func33, Tryd.ntmps33
  go_wp2_with fail
  go_ret
  exact ⟨rfl, rfl⟩
set_option maxHeartbeats 1000000 in
theorem debug_any (q : ByteArray) (A : Option Addr) (n c : Nat) (xs : List VRec) (out : List UInt8) (w : World) (hn : xs.length = n) (hm : n ≤ 1000) (hx : ListAt w A xs) (hq : q.size ≤ 100000) (ho : out.length ≤ 1000000) (hd : Dbg q.data.toList (xs.map shownB) out) (hpl : Plain xs) (hp : Pow10 w) :
    Calls Tryd.prog 24 #[.string q, .slice A n c] w fun e w' => e = .returned (.string ⟨out.toArray⟩) ∧ Below w.heap.size w w' := by
  subst hn
  have HX := Lib.hid hx
  have HD := Lib.hid hd
  have HPL := Lib.hid hpl
  have HP := Lib.hid hp
  clear hx hd hpl hp
  go_enter Tryd.func24, Tryd.ntmps24
  go_wp2_with fail
  refine (goList_flat A c 0 xs w (by omega) HX.out (fun i hi => (HPL.out i hi).1)).mono ?_
  rintro e w1 ⟨v, rfl, hown, hb⟩
  obtain ⟨A1, c1, rfl, ha⟩ := argsAt_own hown
  have HA := Lib.hid ha
  have HB := Lib.hid hb
  clear hown ha hb
  go_wp2_with fail
  refine (expr_any q _ _ _ w1).mono ?_
  rintro e w' ⟨rfl, rfl⟩
  go_wp2_with fail
  refine (debugSql_any q A1 xs.length c1 xs out w1 rfl hm HA.out hq ho HD.out HPL.out (pow10_below HP.out HB.out)).mono ?_
  rintro e w2 ⟨rfl, hb2⟩
  have HB2 := Lib.hid (HB.out.trans (hb2.mono HB.out.size))
  clear hb2
  go_wp2_with fail
  go_ret
  exact ⟨rfl, HB2.out⟩
end Go.Proofs.YtdjgknfmehkigaaDoor
