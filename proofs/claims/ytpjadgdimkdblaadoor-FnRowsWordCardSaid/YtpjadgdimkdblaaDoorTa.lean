/- What a type assertion with two results answers, type by type: closed facts of the program. -/
import Derived.Test.YtpjadgdimkdblaaDoorProg
import Derived.WalkKit
namespace Go.Proofs.YtpjadgdimkdblaaDoor
open Go.RowKit
set_option linter.unusedVariables false

theorem ta_ii (v : Value) (w : World) : (Instr.typeAssert (.iface 2 v) 20 2 true).run Tryd.prog w = .ok (.tuple #[v, .bool true]) w := by kernel_rfl
theorem ta_is (v : Value) (w : World) : (Instr.typeAssert (.iface 2 v) 20 9 true).run Tryd.prog w = .ok (.tuple #[.string ByteArray.empty, .bool false]) w := by kernel_rfl
theorem ta_ib (v : Value) (w : World) : (Instr.typeAssert (.iface 2 v) 20 4 true).run Tryd.prog w = .ok (.tuple #[.bool false, .bool false]) w := by kernel_rfl
theorem ta_il (v : Value) (w : World) : (Instr.typeAssert (.iface 2 v) 20 71 true).run Tryd.prog w = .ok (.tuple #[.slice none 0 0, .bool false]) w := by kernel_rfl
theorem ta_si (v : Value) (w : World) : (Instr.typeAssert (.iface 9 v) 20 2 true).run Tryd.prog w = .ok (.tuple #[.int .i64 0, .bool false]) w := by kernel_rfl
theorem ta_ss (v : Value) (w : World) : (Instr.typeAssert (.iface 9 v) 20 9 true).run Tryd.prog w = .ok (.tuple #[v, .bool true]) w := by kernel_rfl
theorem ta_sb (v : Value) (w : World) : (Instr.typeAssert (.iface 9 v) 20 4 true).run Tryd.prog w = .ok (.tuple #[.bool false, .bool false]) w := by kernel_rfl
theorem ta_sl (v : Value) (w : World) : (Instr.typeAssert (.iface 9 v) 20 71 true).run Tryd.prog w = .ok (.tuple #[.slice none 0 0, .bool false]) w := by kernel_rfl
theorem ta_bi (v : Value) (w : World) : (Instr.typeAssert (.iface 4 v) 20 2 true).run Tryd.prog w = .ok (.tuple #[.int .i64 0, .bool false]) w := by kernel_rfl
theorem ta_bs (v : Value) (w : World) : (Instr.typeAssert (.iface 4 v) 20 9 true).run Tryd.prog w = .ok (.tuple #[.string ByteArray.empty, .bool false]) w := by kernel_rfl
theorem ta_bb (v : Value) (w : World) : (Instr.typeAssert (.iface 4 v) 20 4 true).run Tryd.prog w = .ok (.tuple #[v, .bool true]) w := by kernel_rfl
theorem ta_bl (v : Value) (w : World) : (Instr.typeAssert (.iface 4 v) 20 71 true).run Tryd.prog w = .ok (.tuple #[.slice none 0 0, .bool false]) w := by kernel_rfl
theorem ta_li (v : Value) (w : World) : (Instr.typeAssert (.iface 71 v) 20 2 true).run Tryd.prog w = .ok (.tuple #[.int .i64 0, .bool false]) w := by kernel_rfl
theorem ta_ls (v : Value) (w : World) : (Instr.typeAssert (.iface 71 v) 20 9 true).run Tryd.prog w = .ok (.tuple #[.string ByteArray.empty, .bool false]) w := by kernel_rfl
theorem ta_lb (v : Value) (w : World) : (Instr.typeAssert (.iface 71 v) 20 4 true).run Tryd.prog w = .ok (.tuple #[.bool false, .bool false]) w := by kernel_rfl
theorem ta_ll (v : Value) (w : World) : (Instr.typeAssert (.iface 71 v) 20 71 true).run Tryd.prog w = .ok (.tuple #[v, .bool true]) w := by kernel_rfl
theorem ta_ni (w : World) : (Instr.typeAssert .nilIface 20 2 true).run Tryd.prog w = .ok (.tuple #[.int .i64 0, .bool false]) w := by kernel_rfl
theorem ta_ns (w : World) : (Instr.typeAssert .nilIface 20 9 true).run Tryd.prog w = .ok (.tuple #[.string ByteArray.empty, .bool false]) w := by kernel_rfl
theorem ta_nb (w : World) : (Instr.typeAssert .nilIface 20 4 true).run Tryd.prog w = .ok (.tuple #[.bool false, .bool false]) w := by kernel_rfl
theorem ta_nl (w : World) : (Instr.typeAssert .nilIface 20 71 true).run Tryd.prog w = .ok (.tuple #[.slice none 0 0, .bool false]) w := by kernel_rfl
end Go.Proofs.YtpjadgdimkdblaaDoor
