/- What a type assertion (with comma-ok) to each pointer type of this seat's program gives: laws of the walk. No conditions. -/
import Derived.Test.YtpgkbpgfiblboaaRRows
import Derived.Test.YtpgkbpgfiblboaaRLib
namespace Go.Proofs.YtpgkbpgfiblboaaR
open Go.Mine

theorem asY48 (xT : TypeId) (v : Value) (w : World) : (Instr.typeAssert (.iface 48 v) xT 48 true).run Try.prog w = .ok (.tuple #[v, .bool true]) w := run_assert_yes xT v w Try.underlying48
theorem asN48 (xT T : TypeId) (v : Value) (w : World) (h : T ≠ 48) : (Instr.typeAssert (.iface T v) xT 48 true).run Try.prog w = .ok (.tuple #[.pointer none, .bool false]) w := run_assert_no xT T v w Try.underlying48 (by kernel_rfl) h
theorem asZ48 (xT : TypeId) (w : World) : (Instr.typeAssert .nilIface xT 48 true).run Try.prog w = .ok (.tuple #[.pointer none, .bool false]) w := run_assert_nil xT w Try.underlying48 (by kernel_rfl)
attribute [go_sem] asY48 asN48 asZ48
theorem asY52 (xT : TypeId) (v : Value) (w : World) : (Instr.typeAssert (.iface 52 v) xT 52 true).run Try.prog w = .ok (.tuple #[v, .bool true]) w := run_assert_yes xT v w Try.underlying52
theorem asN52 (xT T : TypeId) (v : Value) (w : World) (h : T ≠ 52) : (Instr.typeAssert (.iface T v) xT 52 true).run Try.prog w = .ok (.tuple #[.pointer none, .bool false]) w := run_assert_no xT T v w Try.underlying52 (by kernel_rfl) h
theorem asZ52 (xT : TypeId) (w : World) : (Instr.typeAssert .nilIface xT 52 true).run Try.prog w = .ok (.tuple #[.pointer none, .bool false]) w := run_assert_nil xT w Try.underlying52 (by kernel_rfl)
attribute [go_sem] asY52 asN52 asZ52
theorem asY55 (xT : TypeId) (v : Value) (w : World) : (Instr.typeAssert (.iface 55 v) xT 55 true).run Try.prog w = .ok (.tuple #[v, .bool true]) w := run_assert_yes xT v w Try.underlying55
theorem asN55 (xT T : TypeId) (v : Value) (w : World) (h : T ≠ 55) : (Instr.typeAssert (.iface T v) xT 55 true).run Try.prog w = .ok (.tuple #[.pointer none, .bool false]) w := run_assert_no xT T v w Try.underlying55 (by kernel_rfl) h
theorem asZ55 (xT : TypeId) (w : World) : (Instr.typeAssert .nilIface xT 55 true).run Try.prog w = .ok (.tuple #[.pointer none, .bool false]) w := run_assert_nil xT w Try.underlying55 (by kernel_rfl)
attribute [go_sem] asY55 asN55 asZ55
theorem asY58 (xT : TypeId) (v : Value) (w : World) : (Instr.typeAssert (.iface 58 v) xT 58 true).run Try.prog w = .ok (.tuple #[v, .bool true]) w := run_assert_yes xT v w Try.underlying58
theorem asN58 (xT T : TypeId) (v : Value) (w : World) (h : T ≠ 58) : (Instr.typeAssert (.iface T v) xT 58 true).run Try.prog w = .ok (.tuple #[.pointer none, .bool false]) w := run_assert_no xT T v w Try.underlying58 (by kernel_rfl) h
theorem asZ58 (xT : TypeId) (w : World) : (Instr.typeAssert .nilIface xT 58 true).run Try.prog w = .ok (.tuple #[.pointer none, .bool false]) w := run_assert_nil xT w Try.underlying58 (by kernel_rfl)
attribute [go_sem] asY58 asN58 asZ58
theorem asY62 (xT : TypeId) (v : Value) (w : World) : (Instr.typeAssert (.iface 62 v) xT 62 true).run Try.prog w = .ok (.tuple #[v, .bool true]) w := run_assert_yes xT v w Try.underlying62
theorem asN62 (xT T : TypeId) (v : Value) (w : World) (h : T ≠ 62) : (Instr.typeAssert (.iface T v) xT 62 true).run Try.prog w = .ok (.tuple #[.pointer none, .bool false]) w := run_assert_no xT T v w Try.underlying62 (by kernel_rfl) h
theorem asZ62 (xT : TypeId) (w : World) : (Instr.typeAssert .nilIface xT 62 true).run Try.prog w = .ok (.tuple #[.pointer none, .bool false]) w := run_assert_nil xT w Try.underlying62 (by kernel_rfl)
attribute [go_sem] asY62 asN62 asZ62
theorem asY71 (xT : TypeId) (v : Value) (w : World) : (Instr.typeAssert (.iface 71 v) xT 71 true).run Try.prog w = .ok (.tuple #[v, .bool true]) w := run_assert_yes xT v w Try.underlying71
theorem asN71 (xT T : TypeId) (v : Value) (w : World) (h : T ≠ 71) : (Instr.typeAssert (.iface T v) xT 71 true).run Try.prog w = .ok (.tuple #[.pointer none, .bool false]) w := run_assert_no xT T v w Try.underlying71 (by kernel_rfl) h
theorem asZ71 (xT : TypeId) (w : World) : (Instr.typeAssert .nilIface xT 71 true).run Try.prog w = .ok (.tuple #[.pointer none, .bool false]) w := run_assert_nil xT w Try.underlying71 (by kernel_rfl)
attribute [go_sem] asY71 asN71 asZ71
theorem asY75 (xT : TypeId) (v : Value) (w : World) : (Instr.typeAssert (.iface 75 v) xT 75 true).run Try.prog w = .ok (.tuple #[v, .bool true]) w := run_assert_yes xT v w Try.underlying75
theorem asN75 (xT T : TypeId) (v : Value) (w : World) (h : T ≠ 75) : (Instr.typeAssert (.iface T v) xT 75 true).run Try.prog w = .ok (.tuple #[.pointer none, .bool false]) w := run_assert_no xT T v w Try.underlying75 (by kernel_rfl) h
theorem asZ75 (xT : TypeId) (w : World) : (Instr.typeAssert .nilIface xT 75 true).run Try.prog w = .ok (.tuple #[.pointer none, .bool false]) w := run_assert_nil xT w Try.underlying75 (by kernel_rfl)
attribute [go_sem] asY75 asN75 asZ75
theorem asY78 (xT : TypeId) (v : Value) (w : World) : (Instr.typeAssert (.iface 78 v) xT 78 true).run Try.prog w = .ok (.tuple #[v, .bool true]) w := run_assert_yes xT v w Try.underlying78
theorem asN78 (xT T : TypeId) (v : Value) (w : World) (h : T ≠ 78) : (Instr.typeAssert (.iface T v) xT 78 true).run Try.prog w = .ok (.tuple #[.pointer none, .bool false]) w := run_assert_no xT T v w Try.underlying78 (by kernel_rfl) h
theorem asZ78 (xT : TypeId) (w : World) : (Instr.typeAssert .nilIface xT 78 true).run Try.prog w = .ok (.tuple #[.pointer none, .bool false]) w := run_assert_nil xT w Try.underlying78 (by kernel_rfl)
attribute [go_sem] asY78 asN78 asZ78
theorem asY80 (xT : TypeId) (v : Value) (w : World) : (Instr.typeAssert (.iface 80 v) xT 80 true).run Try.prog w = .ok (.tuple #[v, .bool true]) w := run_assert_yes xT v w Try.underlying80
theorem asN80 (xT T : TypeId) (v : Value) (w : World) (h : T ≠ 80) : (Instr.typeAssert (.iface T v) xT 80 true).run Try.prog w = .ok (.tuple #[.pointer none, .bool false]) w := run_assert_no xT T v w Try.underlying80 (by kernel_rfl) h
theorem asZ80 (xT : TypeId) (w : World) : (Instr.typeAssert .nilIface xT 80 true).run Try.prog w = .ok (.tuple #[.pointer none, .bool false]) w := run_assert_nil xT w Try.underlying80 (by kernel_rfl)
attribute [go_sem] asY80 asN80 asZ80
theorem asY82 (xT : TypeId) (v : Value) (w : World) : (Instr.typeAssert (.iface 82 v) xT 82 true).run Try.prog w = .ok (.tuple #[v, .bool true]) w := run_assert_yes xT v w Try.underlying82
theorem asN82 (xT T : TypeId) (v : Value) (w : World) (h : T ≠ 82) : (Instr.typeAssert (.iface T v) xT 82 true).run Try.prog w = .ok (.tuple #[.pointer none, .bool false]) w := run_assert_no xT T v w Try.underlying82 (by kernel_rfl) h
theorem asZ82 (xT : TypeId) (w : World) : (Instr.typeAssert .nilIface xT 82 true).run Try.prog w = .ok (.tuple #[.pointer none, .bool false]) w := run_assert_nil xT w Try.underlying82 (by kernel_rfl)
attribute [go_sem] asY82 asN82 asZ82
theorem asY86 (xT : TypeId) (v : Value) (w : World) : (Instr.typeAssert (.iface 86 v) xT 86 true).run Try.prog w = .ok (.tuple #[v, .bool true]) w := run_assert_yes xT v w Try.underlying86
theorem asN86 (xT T : TypeId) (v : Value) (w : World) (h : T ≠ 86) : (Instr.typeAssert (.iface T v) xT 86 true).run Try.prog w = .ok (.tuple #[.pointer none, .bool false]) w := run_assert_no xT T v w Try.underlying86 (by kernel_rfl) h
theorem asZ86 (xT : TypeId) (w : World) : (Instr.typeAssert .nilIface xT 86 true).run Try.prog w = .ok (.tuple #[.pointer none, .bool false]) w := run_assert_nil xT w Try.underlying86 (by kernel_rfl)
attribute [go_sem] asY86 asN86 asZ86
theorem asY90 (xT : TypeId) (v : Value) (w : World) : (Instr.typeAssert (.iface 90 v) xT 90 true).run Try.prog w = .ok (.tuple #[v, .bool true]) w := run_assert_yes xT v w Try.underlying90
theorem asN90 (xT T : TypeId) (v : Value) (w : World) (h : T ≠ 90) : (Instr.typeAssert (.iface T v) xT 90 true).run Try.prog w = .ok (.tuple #[.pointer none, .bool false]) w := run_assert_no xT T v w Try.underlying90 (by kernel_rfl) h
theorem asZ90 (xT : TypeId) (w : World) : (Instr.typeAssert .nilIface xT 90 true).run Try.prog w = .ok (.tuple #[.pointer none, .bool false]) w := run_assert_nil xT w Try.underlying90 (by kernel_rfl)
attribute [go_sem] asY90 asN90 asZ90
theorem asY93 (xT : TypeId) (v : Value) (w : World) : (Instr.typeAssert (.iface 93 v) xT 93 true).run Try.prog w = .ok (.tuple #[v, .bool true]) w := run_assert_yes xT v w Try.underlying93
theorem asN93 (xT T : TypeId) (v : Value) (w : World) (h : T ≠ 93) : (Instr.typeAssert (.iface T v) xT 93 true).run Try.prog w = .ok (.tuple #[.pointer none, .bool false]) w := run_assert_no xT T v w Try.underlying93 (by kernel_rfl) h
theorem asZ93 (xT : TypeId) (w : World) : (Instr.typeAssert .nilIface xT 93 true).run Try.prog w = .ok (.tuple #[.pointer none, .bool false]) w := run_assert_nil xT w Try.underlying93 (by kernel_rfl)
attribute [go_sem] asY93 asN93 asZ93
theorem asY97 (xT : TypeId) (v : Value) (w : World) : (Instr.typeAssert (.iface 97 v) xT 97 true).run Try.prog w = .ok (.tuple #[v, .bool true]) w := run_assert_yes xT v w Try.underlying97
theorem asN97 (xT T : TypeId) (v : Value) (w : World) (h : T ≠ 97) : (Instr.typeAssert (.iface T v) xT 97 true).run Try.prog w = .ok (.tuple #[.pointer none, .bool false]) w := run_assert_no xT T v w Try.underlying97 (by kernel_rfl) h
theorem asZ97 (xT : TypeId) (w : World) : (Instr.typeAssert .nilIface xT 97 true).run Try.prog w = .ok (.tuple #[.pointer none, .bool false]) w := run_assert_nil xT w Try.underlying97 (by kernel_rfl)
attribute [go_sem] asY97 asN97 asZ97
theorem asY101 (xT : TypeId) (v : Value) (w : World) : (Instr.typeAssert (.iface 101 v) xT 101 true).run Try.prog w = .ok (.tuple #[v, .bool true]) w := run_assert_yes xT v w Try.underlying101
theorem asN101 (xT T : TypeId) (v : Value) (w : World) (h : T ≠ 101) : (Instr.typeAssert (.iface T v) xT 101 true).run Try.prog w = .ok (.tuple #[.pointer none, .bool false]) w := run_assert_no xT T v w Try.underlying101 (by kernel_rfl) h
theorem asZ101 (xT : TypeId) (w : World) : (Instr.typeAssert .nilIface xT 101 true).run Try.prog w = .ok (.tuple #[.pointer none, .bool false]) w := run_assert_nil xT w Try.underlying101 (by kernel_rfl)
attribute [go_sem] asY101 asN101 asZ101
theorem asY104 (xT : TypeId) (v : Value) (w : World) : (Instr.typeAssert (.iface 104 v) xT 104 true).run Try.prog w = .ok (.tuple #[v, .bool true]) w := run_assert_yes xT v w Try.underlying104
theorem asN104 (xT T : TypeId) (v : Value) (w : World) (h : T ≠ 104) : (Instr.typeAssert (.iface T v) xT 104 true).run Try.prog w = .ok (.tuple #[.pointer none, .bool false]) w := run_assert_no xT T v w Try.underlying104 (by kernel_rfl) h
theorem asZ104 (xT : TypeId) (w : World) : (Instr.typeAssert .nilIface xT 104 true).run Try.prog w = .ok (.tuple #[.pointer none, .bool false]) w := run_assert_nil xT w Try.underlying104 (by kernel_rfl)
attribute [go_sem] asY104 asN104 asZ104
theorem asY119 (xT : TypeId) (v : Value) (w : World) : (Instr.typeAssert (.iface 119 v) xT 119 true).run Try.prog w = .ok (.tuple #[v, .bool true]) w := run_assert_yes xT v w Try.underlying119
theorem asN119 (xT T : TypeId) (v : Value) (w : World) (h : T ≠ 119) : (Instr.typeAssert (.iface T v) xT 119 true).run Try.prog w = .ok (.tuple #[.pointer none, .bool false]) w := run_assert_no xT T v w Try.underlying119 (by kernel_rfl) h
theorem asZ119 (xT : TypeId) (w : World) : (Instr.typeAssert .nilIface xT 119 true).run Try.prog w = .ok (.tuple #[.pointer none, .bool false]) w := run_assert_nil xT w Try.underlying119 (by kernel_rfl)
attribute [go_sem] asY119 asN119 asZ119
theorem asY122 (xT : TypeId) (v : Value) (w : World) : (Instr.typeAssert (.iface 122 v) xT 122 true).run Try.prog w = .ok (.tuple #[v, .bool true]) w := run_assert_yes xT v w Try.underlying122
theorem asN122 (xT T : TypeId) (v : Value) (w : World) (h : T ≠ 122) : (Instr.typeAssert (.iface T v) xT 122 true).run Try.prog w = .ok (.tuple #[.pointer none, .bool false]) w := run_assert_no xT T v w Try.underlying122 (by kernel_rfl) h
theorem asZ122 (xT : TypeId) (w : World) : (Instr.typeAssert .nilIface xT 122 true).run Try.prog w = .ok (.tuple #[.pointer none, .bool false]) w := run_assert_nil xT w Try.underlying122 (by kernel_rfl)
attribute [go_sem] asY122 asN122 asZ122
theorem asY124 (xT : TypeId) (v : Value) (w : World) : (Instr.typeAssert (.iface 124 v) xT 124 true).run Try.prog w = .ok (.tuple #[v, .bool true]) w := run_assert_yes xT v w Try.underlying124
theorem asN124 (xT T : TypeId) (v : Value) (w : World) (h : T ≠ 124) : (Instr.typeAssert (.iface T v) xT 124 true).run Try.prog w = .ok (.tuple #[.pointer none, .bool false]) w := run_assert_no xT T v w Try.underlying124 (by kernel_rfl) h
theorem asZ124 (xT : TypeId) (w : World) : (Instr.typeAssert .nilIface xT 124 true).run Try.prog w = .ok (.tuple #[.pointer none, .bool false]) w := run_assert_nil xT w Try.underlying124 (by kernel_rfl)
attribute [go_sem] asY124 asN124 asZ124
theorem asY131 (xT : TypeId) (v : Value) (w : World) : (Instr.typeAssert (.iface 131 v) xT 131 true).run Try.prog w = .ok (.tuple #[v, .bool true]) w := run_assert_yes xT v w Try.underlying131
theorem asN131 (xT T : TypeId) (v : Value) (w : World) (h : T ≠ 131) : (Instr.typeAssert (.iface T v) xT 131 true).run Try.prog w = .ok (.tuple #[.pointer none, .bool false]) w := run_assert_no xT T v w Try.underlying131 (by kernel_rfl) h
theorem asZ131 (xT : TypeId) (w : World) : (Instr.typeAssert .nilIface xT 131 true).run Try.prog w = .ok (.tuple #[.pointer none, .bool false]) w := run_assert_nil xT w Try.underlying131 (by kernel_rfl)
attribute [go_sem] asY131 asN131 asZ131
theorem asY134 (xT : TypeId) (v : Value) (w : World) : (Instr.typeAssert (.iface 134 v) xT 134 true).run Try.prog w = .ok (.tuple #[v, .bool true]) w := run_assert_yes xT v w Try.underlying134
theorem asN134 (xT T : TypeId) (v : Value) (w : World) (h : T ≠ 134) : (Instr.typeAssert (.iface T v) xT 134 true).run Try.prog w = .ok (.tuple #[.pointer none, .bool false]) w := run_assert_no xT T v w Try.underlying134 (by kernel_rfl) h
theorem asZ134 (xT : TypeId) (w : World) : (Instr.typeAssert .nilIface xT 134 true).run Try.prog w = .ok (.tuple #[.pointer none, .bool false]) w := run_assert_nil xT w Try.underlying134 (by kernel_rfl)
attribute [go_sem] asY134 asN134 asZ134
theorem asY138 (xT : TypeId) (v : Value) (w : World) : (Instr.typeAssert (.iface 138 v) xT 138 true).run Try.prog w = .ok (.tuple #[v, .bool true]) w := run_assert_yes xT v w Try.underlying138
theorem asN138 (xT T : TypeId) (v : Value) (w : World) (h : T ≠ 138) : (Instr.typeAssert (.iface T v) xT 138 true).run Try.prog w = .ok (.tuple #[.pointer none, .bool false]) w := run_assert_no xT T v w Try.underlying138 (by kernel_rfl) h
theorem asZ138 (xT : TypeId) (w : World) : (Instr.typeAssert .nilIface xT 138 true).run Try.prog w = .ok (.tuple #[.pointer none, .bool false]) w := run_assert_nil xT w Try.underlying138 (by kernel_rfl)
attribute [go_sem] asY138 asN138 asZ138
end Go.Proofs.YtpgkbpgfiblboaaR
