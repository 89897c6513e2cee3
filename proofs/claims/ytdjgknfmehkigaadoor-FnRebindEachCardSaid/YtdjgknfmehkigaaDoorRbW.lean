/- FnRebindEach walked: it answers true whatever the number and the texts are, and only makes new memory. -/
import Derived.Test.YtdjgknfmehkigaaDoorRbW0
import Derived.Test.YtdjgknfmehkigaaDoorRbW1
import Derived.Test.YtdjgknfmehkigaaDoorRbW2
namespace Go.Proofs.YtdjgknfmehkigaaDoor
open Go.RowKit

theorem rebEach_any (kd : Int) (A : Option Addr) (n c : Nat) (ss : List ByteArray) (w : World) (hkd : (Lit.int .u8 kd).wf = true) (hn : ss.length = n) (hm : n ≤ maxLen) (hx : StrsAt w A ss) (hz : ∀ i, i < n → (ss.getD i ByteArray.empty).size ≤ maxLen) :
    Calls Tryd.prog 3 #[.int .u8 kd, .slice A n c] w fun e w' => e = .returned (.bool true) ∧ Below w.heap.size w w' := by
  have hbd := Go.bounds_u8 hkd
  have hk3 : kd % 3 = 0 ∨ kd % 3 = 1 ∨ kd % 3 = 2 := by omega
  rcases hk3 with hk | hk | hk
  · exact rebEach_0 kd hk A n c ss w hkd hn hm hx hz
  · exact rebEach_1 kd hk A n c ss w hkd hn hm hx hz
  · exact rebEach_2 kd hk A n c ss w hkd hn hm hx hz
end Go.Proofs.YtdjgknfmehkigaaDoor
