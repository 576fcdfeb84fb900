/- What a type assertion (with comma-ok) to each pointer type of this seat's program gives: laws of the walk. No conditions. -/
import Derived.Test.YtanaidcjiinpaaaRRRows
import Derived.Test.YtanaidcjiinpaaaRRLib
namespace Go.Proofs.YtanaidcjiinpaaaRR
open Go.Mine

theorem asY42 (xT : TypeId) (v : Value) (w : World) : (Instr.typeAssert (.iface 42 v) xT 42 true).run Try.prog w = .ok (.tuple #[v, .bool true]) w := run_assert_yes xT v w Try.underlying42
theorem asN42 (xT T : TypeId) (v : Value) (w : World) (h : T ≠ 42) : (Instr.typeAssert (.iface T v) xT 42 true).run Try.prog w = .ok (.tuple #[.pointer none, .bool false]) w := run_assert_no xT T v w Try.underlying42 (by kernel_rfl) h
theorem asZ42 (xT : TypeId) (w : World) : (Instr.typeAssert .nilIface xT 42 true).run Try.prog w = .ok (.tuple #[.pointer none, .bool false]) w := run_assert_nil xT w Try.underlying42 (by kernel_rfl)
attribute [go_sem] asY42 asN42 asZ42
theorem asY43 (xT : TypeId) (v : Value) (w : World) : (Instr.typeAssert (.iface 43 v) xT 43 true).run Try.prog w = .ok (.tuple #[v, .bool true]) w := run_assert_yes xT v w Try.underlying43
theorem asN43 (xT T : TypeId) (v : Value) (w : World) (h : T ≠ 43) : (Instr.typeAssert (.iface T v) xT 43 true).run Try.prog w = .ok (.tuple #[.pointer none, .bool false]) w := run_assert_no xT T v w Try.underlying43 (by kernel_rfl) h
theorem asZ43 (xT : TypeId) (w : World) : (Instr.typeAssert .nilIface xT 43 true).run Try.prog w = .ok (.tuple #[.pointer none, .bool false]) w := run_assert_nil xT w Try.underlying43 (by kernel_rfl)
attribute [go_sem] asY43 asN43 asZ43
theorem asY44 (xT : TypeId) (v : Value) (w : World) : (Instr.typeAssert (.iface 44 v) xT 44 true).run Try.prog w = .ok (.tuple #[v, .bool true]) w := run_assert_yes xT v w Try.underlying44
theorem asN44 (xT T : TypeId) (v : Value) (w : World) (h : T ≠ 44) : (Instr.typeAssert (.iface T v) xT 44 true).run Try.prog w = .ok (.tuple #[.pointer none, .bool false]) w := run_assert_no xT T v w Try.underlying44 (by kernel_rfl) h
theorem asZ44 (xT : TypeId) (w : World) : (Instr.typeAssert .nilIface xT 44 true).run Try.prog w = .ok (.tuple #[.pointer none, .bool false]) w := run_assert_nil xT w Try.underlying44 (by kernel_rfl)
attribute [go_sem] asY44 asN44 asZ44
theorem asY47 (xT : TypeId) (v : Value) (w : World) : (Instr.typeAssert (.iface 47 v) xT 47 true).run Try.prog w = .ok (.tuple #[v, .bool true]) w := run_assert_yes xT v w Try.underlying47
theorem asN47 (xT T : TypeId) (v : Value) (w : World) (h : T ≠ 47) : (Instr.typeAssert (.iface T v) xT 47 true).run Try.prog w = .ok (.tuple #[.pointer none, .bool false]) w := run_assert_no xT T v w Try.underlying47 (by kernel_rfl) h
theorem asZ47 (xT : TypeId) (w : World) : (Instr.typeAssert .nilIface xT 47 true).run Try.prog w = .ok (.tuple #[.pointer none, .bool false]) w := run_assert_nil xT w Try.underlying47 (by kernel_rfl)
attribute [go_sem] asY47 asN47 asZ47
theorem asY55 (xT : TypeId) (v : Value) (w : World) : (Instr.typeAssert (.iface 55 v) xT 55 true).run Try.prog w = .ok (.tuple #[v, .bool true]) w := run_assert_yes xT v w Try.underlying55
theorem asN55 (xT T : TypeId) (v : Value) (w : World) (h : T ≠ 55) : (Instr.typeAssert (.iface T v) xT 55 true).run Try.prog w = .ok (.tuple #[.pointer none, .bool false]) w := run_assert_no xT T v w Try.underlying55 (by kernel_rfl) h
theorem asZ55 (xT : TypeId) (w : World) : (Instr.typeAssert .nilIface xT 55 true).run Try.prog w = .ok (.tuple #[.pointer none, .bool false]) w := run_assert_nil xT w Try.underlying55 (by kernel_rfl)
attribute [go_sem] asY55 asN55 asZ55
theorem asY68 (xT : TypeId) (v : Value) (w : World) : (Instr.typeAssert (.iface 68 v) xT 68 true).run Try.prog w = .ok (.tuple #[v, .bool true]) w := run_assert_yes xT v w Try.underlying68
theorem asN68 (xT T : TypeId) (v : Value) (w : World) (h : T ≠ 68) : (Instr.typeAssert (.iface T v) xT 68 true).run Try.prog w = .ok (.tuple #[.pointer none, .bool false]) w := run_assert_no xT T v w Try.underlying68 (by kernel_rfl) h
theorem asZ68 (xT : TypeId) (w : World) : (Instr.typeAssert .nilIface xT 68 true).run Try.prog w = .ok (.tuple #[.pointer none, .bool false]) w := run_assert_nil xT w Try.underlying68 (by kernel_rfl)
attribute [go_sem] asY68 asN68 asZ68
theorem asY77 (xT : TypeId) (v : Value) (w : World) : (Instr.typeAssert (.iface 77 v) xT 77 true).run Try.prog w = .ok (.tuple #[v, .bool true]) w := run_assert_yes xT v w Try.underlying77
theorem asN77 (xT T : TypeId) (v : Value) (w : World) (h : T ≠ 77) : (Instr.typeAssert (.iface T v) xT 77 true).run Try.prog w = .ok (.tuple #[.pointer none, .bool false]) w := run_assert_no xT T v w Try.underlying77 (by kernel_rfl) h
theorem asZ77 (xT : TypeId) (w : World) : (Instr.typeAssert .nilIface xT 77 true).run Try.prog w = .ok (.tuple #[.pointer none, .bool false]) w := run_assert_nil xT w Try.underlying77 (by kernel_rfl)
attribute [go_sem] asY77 asN77 asZ77
theorem asY81 (xT : TypeId) (v : Value) (w : World) : (Instr.typeAssert (.iface 81 v) xT 81 true).run Try.prog w = .ok (.tuple #[v, .bool true]) w := run_assert_yes xT v w Try.underlying81
theorem asN81 (xT T : TypeId) (v : Value) (w : World) (h : T ≠ 81) : (Instr.typeAssert (.iface T v) xT 81 true).run Try.prog w = .ok (.tuple #[.pointer none, .bool false]) w := run_assert_no xT T v w Try.underlying81 (by kernel_rfl) h
theorem asZ81 (xT : TypeId) (w : World) : (Instr.typeAssert .nilIface xT 81 true).run Try.prog w = .ok (.tuple #[.pointer none, .bool false]) w := run_assert_nil xT w Try.underlying81 (by kernel_rfl)
attribute [go_sem] asY81 asN81 asZ81
theorem asY86 (xT : TypeId) (v : Value) (w : World) : (Instr.typeAssert (.iface 86 v) xT 86 true).run Try.prog w = .ok (.tuple #[v, .bool true]) w := run_assert_yes xT v w Try.underlying86
theorem asN86 (xT T : TypeId) (v : Value) (w : World) (h : T ≠ 86) : (Instr.typeAssert (.iface T v) xT 86 true).run Try.prog w = .ok (.tuple #[.pointer none, .bool false]) w := run_assert_no xT T v w Try.underlying86 (by kernel_rfl) h
theorem asZ86 (xT : TypeId) (w : World) : (Instr.typeAssert .nilIface xT 86 true).run Try.prog w = .ok (.tuple #[.pointer none, .bool false]) w := run_assert_nil xT w Try.underlying86 (by kernel_rfl)
attribute [go_sem] asY86 asN86 asZ86
theorem asY92 (xT : TypeId) (v : Value) (w : World) : (Instr.typeAssert (.iface 92 v) xT 92 true).run Try.prog w = .ok (.tuple #[v, .bool true]) w := run_assert_yes xT v w Try.underlying92
theorem asN92 (xT T : TypeId) (v : Value) (w : World) (h : T ≠ 92) : (Instr.typeAssert (.iface T v) xT 92 true).run Try.prog w = .ok (.tuple #[.pointer none, .bool false]) w := run_assert_no xT T v w Try.underlying92 (by kernel_rfl) h
theorem asZ92 (xT : TypeId) (w : World) : (Instr.typeAssert .nilIface xT 92 true).run Try.prog w = .ok (.tuple #[.pointer none, .bool false]) w := run_assert_nil xT w Try.underlying92 (by kernel_rfl)
attribute [go_sem] asY92 asN92 asZ92
theorem asY103 (xT : TypeId) (v : Value) (w : World) : (Instr.typeAssert (.iface 103 v) xT 103 true).run Try.prog w = .ok (.tuple #[v, .bool true]) w := run_assert_yes xT v w Try.underlying103
theorem asN103 (xT T : TypeId) (v : Value) (w : World) (h : T ≠ 103) : (Instr.typeAssert (.iface T v) xT 103 true).run Try.prog w = .ok (.tuple #[.pointer none, .bool false]) w := run_assert_no xT T v w Try.underlying103 (by kernel_rfl) h
theorem asZ103 (xT : TypeId) (w : World) : (Instr.typeAssert .nilIface xT 103 true).run Try.prog w = .ok (.tuple #[.pointer none, .bool false]) w := run_assert_nil xT w Try.underlying103 (by kernel_rfl)
attribute [go_sem] asY103 asN103 asZ103
theorem asY104 (xT : TypeId) (v : Value) (w : World) : (Instr.typeAssert (.iface 104 v) xT 104 true).run Try.prog w = .ok (.tuple #[v, .bool true]) w := run_assert_yes xT v w Try.underlying104
theorem asN104 (xT T : TypeId) (v : Value) (w : World) (h : T ≠ 104) : (Instr.typeAssert (.iface T v) xT 104 true).run Try.prog w = .ok (.tuple #[.pointer none, .bool false]) w := run_assert_no xT T v w Try.underlying104 (by kernel_rfl) h
theorem asZ104 (xT : TypeId) (w : World) : (Instr.typeAssert .nilIface xT 104 true).run Try.prog w = .ok (.tuple #[.pointer none, .bool false]) w := run_assert_nil xT w Try.underlying104 (by kernel_rfl)
attribute [go_sem] asY104 asN104 asZ104
theorem asY106 (xT : TypeId) (v : Value) (w : World) : (Instr.typeAssert (.iface 106 v) xT 106 true).run Try.prog w = .ok (.tuple #[v, .bool true]) w := run_assert_yes xT v w Try.underlying106
theorem asN106 (xT T : TypeId) (v : Value) (w : World) (h : T ≠ 106) : (Instr.typeAssert (.iface T v) xT 106 true).run Try.prog w = .ok (.tuple #[.pointer none, .bool false]) w := run_assert_no xT T v w Try.underlying106 (by kernel_rfl) h
theorem asZ106 (xT : TypeId) (w : World) : (Instr.typeAssert .nilIface xT 106 true).run Try.prog w = .ok (.tuple #[.pointer none, .bool false]) w := run_assert_nil xT w Try.underlying106 (by kernel_rfl)
attribute [go_sem] asY106 asN106 asZ106
theorem asY109 (xT : TypeId) (v : Value) (w : World) : (Instr.typeAssert (.iface 109 v) xT 109 true).run Try.prog w = .ok (.tuple #[v, .bool true]) w := run_assert_yes xT v w Try.underlying109
theorem asN109 (xT T : TypeId) (v : Value) (w : World) (h : T ≠ 109) : (Instr.typeAssert (.iface T v) xT 109 true).run Try.prog w = .ok (.tuple #[.pointer none, .bool false]) w := run_assert_no xT T v w Try.underlying109 (by kernel_rfl) h
theorem asZ109 (xT : TypeId) (w : World) : (Instr.typeAssert .nilIface xT 109 true).run Try.prog w = .ok (.tuple #[.pointer none, .bool false]) w := run_assert_nil xT w Try.underlying109 (by kernel_rfl)
attribute [go_sem] asY109 asN109 asZ109
theorem asY114 (xT : TypeId) (v : Value) (w : World) : (Instr.typeAssert (.iface 114 v) xT 114 true).run Try.prog w = .ok (.tuple #[v, .bool true]) w := run_assert_yes xT v w Try.underlying114
theorem asN114 (xT T : TypeId) (v : Value) (w : World) (h : T ≠ 114) : (Instr.typeAssert (.iface T v) xT 114 true).run Try.prog w = .ok (.tuple #[.pointer none, .bool false]) w := run_assert_no xT T v w Try.underlying114 (by kernel_rfl) h
theorem asZ114 (xT : TypeId) (w : World) : (Instr.typeAssert .nilIface xT 114 true).run Try.prog w = .ok (.tuple #[.pointer none, .bool false]) w := run_assert_nil xT w Try.underlying114 (by kernel_rfl)
attribute [go_sem] asY114 asN114 asZ114
end Go.Proofs.YtanaidcjiinpaaaRR
