/- The shelf's contract of (*strings.Builder).WriteString laid at this program: its numbers; no walk. -/
import Derived.Shelf.Strings.BuilderK
import Derived.Test.YtdjgknfmehkigaaProg
namespace Go.Proofs
open Go.Shelf
def Try.wsRen : Go.Shelf.Ren := ⟨fun | 166 => 30 | 240 => 37 | 276 => 42 | n => n, fun | 9 => 9 | 3 => 3 | 4 => 4 | 20 => 20 | 0 => 0 | 5 => 5 | 72 => 62 | 76 => 65 | 70 => 59 | 37 => 60 | 75 => 45 | 164 => 85 | 80 => 68 | n => n, fun | n => n⟩
theorem Try.wsLays : Go.Proofs.Lays.n166 Try.prog Try.wsRen := {
  mixed := by kernel_rfl
  f166 := Try.func30.trans (congrArg some (by kernel_rfl))
  f240 := Try.func37.trans (congrArg some (by kernel_rfl))
  f276 := Try.func42.trans (congrArg some (by kernel_rfl))
  t0 := Try.underlying0
  a0 := Try.isAgg0
  z0 := Try.sizeOf0
  v0 := Try.zeroValue0
  t3 := Try.underlying3
  a3 := Try.isAgg3
  z3 := Try.sizeOf3
  v3 := Try.zeroValue3
  t4 := Try.underlying4
  a4 := Try.isAgg4
  z4 := Try.sizeOf4
  v4 := Try.zeroValue4
  t9 := Try.underlying9
  a9 := Try.isAgg9
  z9 := Try.sizeOf9
  v9 := Try.zeroValue9
  t20 := Try.underlying20
  a20 := Try.isAgg20
  z20 := Try.sizeOf20
  v20 := Try.zeroValue20
  t37 := Try.underlying60
  a37 := Try.isAgg60
  z37 := Try.sizeOf60
  v37 := Try.zeroValue60
  t70 := Try.underlying59
  a70 := Try.isAgg59
  z70 := Try.sizeOf59
  v70 := Try.zeroValue59
  t72 := Try.underlying62
  a72 := Try.isAgg62
  z72 := Try.sizeOf62
  v72 := Try.zeroValue62
  t75 := Try.underlying45
  a75 := Try.isAgg45
  z75 := Try.sizeOf45
  v75 := Try.zeroValue45
  t164 := Try.underlying85
  a164 := Try.isAgg85
  z164 := Try.sizeOf85
  v164 := Try.zeroValue85 }
theorem Try.wsExtra : Builder.Extra Try.prog Try.wsRen := {
  sizeBuilder := by kernel_rfl
  liesBuilder := by kernel_rfl
  t5 := Try.underlying5
  a5 := Try.isAgg5
  z5 := Try.sizeOf5
  v5 := Try.zeroValue5
  infoByte := by kernel_rfl
  cellsByte := by kernel_rfl
  sizeByte := by kernel_rfl
  neB5 := by decide }
open Go.RowKit in
theorem Try.writeString (B b : Nat) (bs : List Value) (s : ByteArray) (w : World) (h : Lib.IsBuilderF 62 5 B b bs w) (hlen : bs.length + s.size ≤ 140737488355328) (hBw : B ≤ w.heap.size) :
    Calls Try.prog 30 #[.pointer (some ⟨b, 0, none⟩), .string s] w fun e w' => e = .returned (.tuple #[.int .i64 s.size, .nilIface]) ∧ (Lib.BuilderAtF 62 5 B b (.pointer (some ⟨b, 0, none⟩)) (bs ++ Lib.strCells s) w' ∧ Below B w w' ∧ Lib.OthersKept 5 (some b) w w') := Any.Builder_WriteString_k Try.wsLays Try.wsExtra B b bs s w h hlen hBw
end Go.Proofs
