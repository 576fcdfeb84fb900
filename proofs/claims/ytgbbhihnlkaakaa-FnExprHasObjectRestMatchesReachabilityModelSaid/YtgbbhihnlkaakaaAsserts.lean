/- What a type assertion (with comma-ok) to each pointer type of this seat's program gives: laws of the walk. No conditions. -/
import Derived.Test.YtgbbhihnlkaakaaRows
import Derived.Test.YtgbbhihnlkaakaaLib
namespace Go.Proofs.Ytgbbhihnlkaakaa
open Go.Mine

theorem asY44 (xT : TypeId) (v : Value) (w : World) : (Instr.typeAssert (.iface 44 v) xT 44 true).run Try.prog w = .ok (.tuple #[v, .bool true]) w := run_assert_yes xT v w Try.underlying44
theorem asN44 (xT T : TypeId) (v : Value) (w : World) (h : T ≠ 44) : (Instr.typeAssert (.iface T v) xT 44 true).run Try.prog w = .ok (.tuple #[.pointer none, .bool false]) w := run_assert_no xT T v w Try.underlying44 (by kernel_rfl) h
theorem asZ44 (xT : TypeId) (w : World) : (Instr.typeAssert .nilIface xT 44 true).run Try.prog w = .ok (.tuple #[.pointer none, .bool false]) w := run_assert_nil xT w Try.underlying44 (by kernel_rfl)
attribute [go_sem] asY44 asN44 asZ44
theorem asY47 (xT : TypeId) (v : Value) (w : World) : (Instr.typeAssert (.iface 47 v) xT 47 true).run Try.prog w = .ok (.tuple #[v, .bool true]) w := run_assert_yes xT v w Try.underlying47
theorem asN47 (xT T : TypeId) (v : Value) (w : World) (h : T ≠ 47) : (Instr.typeAssert (.iface T v) xT 47 true).run Try.prog w = .ok (.tuple #[.pointer none, .bool false]) w := run_assert_no xT T v w Try.underlying47 (by kernel_rfl) h
theorem asZ47 (xT : TypeId) (w : World) : (Instr.typeAssert .nilIface xT 47 true).run Try.prog w = .ok (.tuple #[.pointer none, .bool false]) w := run_assert_nil xT w Try.underlying47 (by kernel_rfl)
attribute [go_sem] asY47 asN47 asZ47
theorem asY51 (xT : TypeId) (v : Value) (w : World) : (Instr.typeAssert (.iface 51 v) xT 51 true).run Try.prog w = .ok (.tuple #[v, .bool true]) w := run_assert_yes xT v w Try.underlying51
theorem asN51 (xT T : TypeId) (v : Value) (w : World) (h : T ≠ 51) : (Instr.typeAssert (.iface T v) xT 51 true).run Try.prog w = .ok (.tuple #[.pointer none, .bool false]) w := run_assert_no xT T v w Try.underlying51 (by kernel_rfl) h
theorem asZ51 (xT : TypeId) (w : World) : (Instr.typeAssert .nilIface xT 51 true).run Try.prog w = .ok (.tuple #[.pointer none, .bool false]) w := run_assert_nil xT w Try.underlying51 (by kernel_rfl)
attribute [go_sem] asY51 asN51 asZ51
theorem asY55 (xT : TypeId) (v : Value) (w : World) : (Instr.typeAssert (.iface 55 v) xT 55 true).run Try.prog w = .ok (.tuple #[v, .bool true]) w := run_assert_yes xT v w Try.underlying55
theorem asN55 (xT T : TypeId) (v : Value) (w : World) (h : T ≠ 55) : (Instr.typeAssert (.iface T v) xT 55 true).run Try.prog w = .ok (.tuple #[.pointer none, .bool false]) w := run_assert_no xT T v w Try.underlying55 (by kernel_rfl) h
theorem asZ55 (xT : TypeId) (w : World) : (Instr.typeAssert .nilIface xT 55 true).run Try.prog w = .ok (.tuple #[.pointer none, .bool false]) w := run_assert_nil xT w Try.underlying55 (by kernel_rfl)
attribute [go_sem] asY55 asN55 asZ55
theorem asY60 (xT : TypeId) (v : Value) (w : World) : (Instr.typeAssert (.iface 60 v) xT 60 true).run Try.prog w = .ok (.tuple #[v, .bool true]) w := run_assert_yes xT v w Try.underlying60
theorem asN60 (xT T : TypeId) (v : Value) (w : World) (h : T ≠ 60) : (Instr.typeAssert (.iface T v) xT 60 true).run Try.prog w = .ok (.tuple #[.pointer none, .bool false]) w := run_assert_no xT T v w Try.underlying60 (by kernel_rfl) h
theorem asZ60 (xT : TypeId) (w : World) : (Instr.typeAssert .nilIface xT 60 true).run Try.prog w = .ok (.tuple #[.pointer none, .bool false]) w := run_assert_nil xT w Try.underlying60 (by kernel_rfl)
attribute [go_sem] asY60 asN60 asZ60
end Go.Proofs.Ytgbbhihnlkaakaa
