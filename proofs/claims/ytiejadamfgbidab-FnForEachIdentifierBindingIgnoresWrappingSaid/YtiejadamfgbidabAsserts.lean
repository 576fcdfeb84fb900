/- What a type assertion (with comma-ok) to each pointer type of this seat's program gives: laws of the walk. No conditions. -/
import Derived.Test.YtiejadamfgbidabRows
import Derived.Test.YtiejadamfgbidabLib
namespace Go.Proofs.Ytiejadamfgbidab
open Go.Mine

theorem asY46 (xT : TypeId) (v : Value) (w : World) : (Instr.typeAssert (.iface 46 v) xT 46 true).run Try.prog w = .ok (.tuple #[v, .bool true]) w := run_assert_yes xT v w Try.underlying46
theorem asN46 (xT T : TypeId) (v : Value) (w : World) (h : T ≠ 46) : (Instr.typeAssert (.iface T v) xT 46 true).run Try.prog w = .ok (.tuple #[.pointer none, .bool false]) w := run_assert_no xT T v w Try.underlying46 (by kernel_rfl) h
theorem asZ46 (xT : TypeId) (w : World) : (Instr.typeAssert .nilIface xT 46 true).run Try.prog w = .ok (.tuple #[.pointer none, .bool false]) w := run_assert_nil xT w Try.underlying46 (by kernel_rfl)
attribute [go_sem] asY46 asN46 asZ46
theorem asY50 (xT : TypeId) (v : Value) (w : World) : (Instr.typeAssert (.iface 50 v) xT 50 true).run Try.prog w = .ok (.tuple #[v, .bool true]) w := run_assert_yes xT v w Try.underlying50
theorem asN50 (xT T : TypeId) (v : Value) (w : World) (h : T ≠ 50) : (Instr.typeAssert (.iface T v) xT 50 true).run Try.prog w = .ok (.tuple #[.pointer none, .bool false]) w := run_assert_no xT T v w Try.underlying50 (by kernel_rfl) h
theorem asZ50 (xT : TypeId) (w : World) : (Instr.typeAssert .nilIface xT 50 true).run Try.prog w = .ok (.tuple #[.pointer none, .bool false]) w := run_assert_nil xT w Try.underlying50 (by kernel_rfl)
attribute [go_sem] asY50 asN50 asZ50
theorem asY68 (xT : TypeId) (v : Value) (w : World) : (Instr.typeAssert (.iface 68 v) xT 68 true).run Try.prog w = .ok (.tuple #[v, .bool true]) w := run_assert_yes xT v w Try.underlying68
theorem asN68 (xT T : TypeId) (v : Value) (w : World) (h : T ≠ 68) : (Instr.typeAssert (.iface T v) xT 68 true).run Try.prog w = .ok (.tuple #[.pointer none, .bool false]) w := run_assert_no xT T v w Try.underlying68 (by kernel_rfl) h
theorem asZ68 (xT : TypeId) (w : World) : (Instr.typeAssert .nilIface xT 68 true).run Try.prog w = .ok (.tuple #[.pointer none, .bool false]) w := run_assert_nil xT w Try.underlying68 (by kernel_rfl)
attribute [go_sem] asY68 asN68 asZ68
theorem asY69 (xT : TypeId) (v : Value) (w : World) : (Instr.typeAssert (.iface 69 v) xT 69 true).run Try.prog w = .ok (.tuple #[v, .bool true]) w := run_assert_yes xT v w Try.underlying69
theorem asN69 (xT T : TypeId) (v : Value) (w : World) (h : T ≠ 69) : (Instr.typeAssert (.iface T v) xT 69 true).run Try.prog w = .ok (.tuple #[.pointer none, .bool false]) w := run_assert_no xT T v w Try.underlying69 (by kernel_rfl) h
theorem asZ69 (xT : TypeId) (w : World) : (Instr.typeAssert .nilIface xT 69 true).run Try.prog w = .ok (.tuple #[.pointer none, .bool false]) w := run_assert_nil xT w Try.underlying69 (by kernel_rfl)
attribute [go_sem] asY69 asN69 asZ69
theorem asY77 (xT : TypeId) (v : Value) (w : World) : (Instr.typeAssert (.iface 77 v) xT 77 true).run Try.prog w = .ok (.tuple #[v, .bool true]) w := run_assert_yes xT v w Try.underlying77
theorem asN77 (xT T : TypeId) (v : Value) (w : World) (h : T ≠ 77) : (Instr.typeAssert (.iface T v) xT 77 true).run Try.prog w = .ok (.tuple #[.pointer none, .bool false]) w := run_assert_no xT T v w Try.underlying77 (by kernel_rfl) h
theorem asZ77 (xT : TypeId) (w : World) : (Instr.typeAssert .nilIface xT 77 true).run Try.prog w = .ok (.tuple #[.pointer none, .bool false]) w := run_assert_nil xT w Try.underlying77 (by kernel_rfl)
attribute [go_sem] asY77 asN77 asZ77
theorem asY92 (xT : TypeId) (v : Value) (w : World) : (Instr.typeAssert (.iface 92 v) xT 92 true).run Try.prog w = .ok (.tuple #[v, .bool true]) w := run_assert_yes xT v w Try.underlying92
theorem asN92 (xT T : TypeId) (v : Value) (w : World) (h : T ≠ 92) : (Instr.typeAssert (.iface T v) xT 92 true).run Try.prog w = .ok (.tuple #[.pointer none, .bool false]) w := run_assert_no xT T v w Try.underlying92 (by kernel_rfl) h
theorem asZ92 (xT : TypeId) (w : World) : (Instr.typeAssert .nilIface xT 92 true).run Try.prog w = .ok (.tuple #[.pointer none, .bool false]) w := run_assert_nil xT w Try.underlying92 (by kernel_rfl)
attribute [go_sem] asY92 asN92 asZ92
theorem asY95 (xT : TypeId) (v : Value) (w : World) : (Instr.typeAssert (.iface 95 v) xT 95 true).run Try.prog w = .ok (.tuple #[v, .bool true]) w := run_assert_yes xT v w Try.underlying95
theorem asN95 (xT T : TypeId) (v : Value) (w : World) (h : T ≠ 95) : (Instr.typeAssert (.iface T v) xT 95 true).run Try.prog w = .ok (.tuple #[.pointer none, .bool false]) w := run_assert_no xT T v w Try.underlying95 (by kernel_rfl) h
theorem asZ95 (xT : TypeId) (w : World) : (Instr.typeAssert .nilIface xT 95 true).run Try.prog w = .ok (.tuple #[.pointer none, .bool false]) w := run_assert_nil xT w Try.underlying95 (by kernel_rfl)
attribute [go_sem] asY95 asN95 asZ95
theorem asY110 (xT : TypeId) (v : Value) (w : World) : (Instr.typeAssert (.iface 110 v) xT 110 true).run Try.prog w = .ok (.tuple #[v, .bool true]) w := run_assert_yes xT v w Try.underlying110
theorem asN110 (xT T : TypeId) (v : Value) (w : World) (h : T ≠ 110) : (Instr.typeAssert (.iface T v) xT 110 true).run Try.prog w = .ok (.tuple #[.pointer none, .bool false]) w := run_assert_no xT T v w Try.underlying110 (by kernel_rfl) h
theorem asZ110 (xT : TypeId) (w : World) : (Instr.typeAssert .nilIface xT 110 true).run Try.prog w = .ok (.tuple #[.pointer none, .bool false]) w := run_assert_nil xT w Try.underlying110 (by kernel_rfl)
attribute [go_sem] asY110 asN110 asZ110
end Go.Proofs.Ytiejadamfgbidab
