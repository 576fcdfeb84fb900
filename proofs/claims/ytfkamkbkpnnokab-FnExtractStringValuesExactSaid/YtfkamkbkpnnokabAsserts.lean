/- What a type assertion (with comma-ok) to each pointer type of this seat's program gives: laws of the walk. No conditions. -/
import Derived.Test.YtfkamkbkpnnokabRows
import Derived.Test.YtfkamkbkpnnokabLib
namespace Go.Proofs.Ytfkamkbkpnnokab
open Go.Mine

theorem asY62 (xT : TypeId) (v : Value) (w : World) : (Instr.typeAssert (.iface 62 v) xT 62 true).run Try.prog w = .ok (.tuple #[v, .bool true]) w := run_assert_yes xT v w Try.underlying62
theorem asN62 (xT T : TypeId) (v : Value) (w : World) (h : T ≠ 62) : (Instr.typeAssert (.iface T v) xT 62 true).run Try.prog w = .ok (.tuple #[.pointer none, .bool false]) w := run_assert_no xT T v w Try.underlying62 (by kernel_rfl) h
theorem asZ62 (xT : TypeId) (w : World) : (Instr.typeAssert .nilIface xT 62 true).run Try.prog w = .ok (.tuple #[.pointer none, .bool false]) w := run_assert_nil xT w Try.underlying62 (by kernel_rfl)
attribute [go_sem] asY62 asN62 asZ62
theorem asY65 (xT : TypeId) (v : Value) (w : World) : (Instr.typeAssert (.iface 65 v) xT 65 true).run Try.prog w = .ok (.tuple #[v, .bool true]) w := run_assert_yes xT v w Try.underlying65
theorem asN65 (xT T : TypeId) (v : Value) (w : World) (h : T ≠ 65) : (Instr.typeAssert (.iface T v) xT 65 true).run Try.prog w = .ok (.tuple #[.pointer none, .bool false]) w := run_assert_no xT T v w Try.underlying65 (by kernel_rfl) h
theorem asZ65 (xT : TypeId) (w : World) : (Instr.typeAssert .nilIface xT 65 true).run Try.prog w = .ok (.tuple #[.pointer none, .bool false]) w := run_assert_nil xT w Try.underlying65 (by kernel_rfl)
attribute [go_sem] asY65 asN65 asZ65
theorem asY73 (xT : TypeId) (v : Value) (w : World) : (Instr.typeAssert (.iface 73 v) xT 73 true).run Try.prog w = .ok (.tuple #[v, .bool true]) w := run_assert_yes xT v w Try.underlying73
theorem asN73 (xT T : TypeId) (v : Value) (w : World) (h : T ≠ 73) : (Instr.typeAssert (.iface T v) xT 73 true).run Try.prog w = .ok (.tuple #[.pointer none, .bool false]) w := run_assert_no xT T v w Try.underlying73 (by kernel_rfl) h
theorem asZ73 (xT : TypeId) (w : World) : (Instr.typeAssert .nilIface xT 73 true).run Try.prog w = .ok (.tuple #[.pointer none, .bool false]) w := run_assert_nil xT w Try.underlying73 (by kernel_rfl)
attribute [go_sem] asY73 asN73 asZ73
theorem asY76 (xT : TypeId) (v : Value) (w : World) : (Instr.typeAssert (.iface 76 v) xT 76 true).run Try.prog w = .ok (.tuple #[v, .bool true]) w := run_assert_yes xT v w Try.underlying76
theorem asN76 (xT T : TypeId) (v : Value) (w : World) (h : T ≠ 76) : (Instr.typeAssert (.iface T v) xT 76 true).run Try.prog w = .ok (.tuple #[.pointer none, .bool false]) w := run_assert_no xT T v w Try.underlying76 (by kernel_rfl) h
theorem asZ76 (xT : TypeId) (w : World) : (Instr.typeAssert .nilIface xT 76 true).run Try.prog w = .ok (.tuple #[.pointer none, .bool false]) w := run_assert_nil xT w Try.underlying76 (by kernel_rfl)
attribute [go_sem] asY76 asN76 asZ76
theorem asY78 (xT : TypeId) (v : Value) (w : World) : (Instr.typeAssert (.iface 78 v) xT 78 true).run Try.prog w = .ok (.tuple #[v, .bool true]) w := run_assert_yes xT v w Try.underlying78
theorem asN78 (xT T : TypeId) (v : Value) (w : World) (h : T ≠ 78) : (Instr.typeAssert (.iface T v) xT 78 true).run Try.prog w = .ok (.tuple #[.pointer none, .bool false]) w := run_assert_no xT T v w Try.underlying78 (by kernel_rfl) h
theorem asZ78 (xT : TypeId) (w : World) : (Instr.typeAssert .nilIface xT 78 true).run Try.prog w = .ok (.tuple #[.pointer none, .bool false]) w := run_assert_nil xT w Try.underlying78 (by kernel_rfl)
attribute [go_sem] asY78 asN78 asZ78
theorem asY81 (xT : TypeId) (v : Value) (w : World) : (Instr.typeAssert (.iface 81 v) xT 81 true).run Try.prog w = .ok (.tuple #[v, .bool true]) w := run_assert_yes xT v w Try.underlying81
theorem asN81 (xT T : TypeId) (v : Value) (w : World) (h : T ≠ 81) : (Instr.typeAssert (.iface T v) xT 81 true).run Try.prog w = .ok (.tuple #[.pointer none, .bool false]) w := run_assert_no xT T v w Try.underlying81 (by kernel_rfl) h
theorem asZ81 (xT : TypeId) (w : World) : (Instr.typeAssert .nilIface xT 81 true).run Try.prog w = .ok (.tuple #[.pointer none, .bool false]) w := run_assert_nil xT w Try.underlying81 (by kernel_rfl)
attribute [go_sem] asY81 asN81 asZ81
theorem asY84 (xT : TypeId) (v : Value) (w : World) : (Instr.typeAssert (.iface 84 v) xT 84 true).run Try.prog w = .ok (.tuple #[v, .bool true]) w := run_assert_yes xT v w Try.underlying84
theorem asN84 (xT T : TypeId) (v : Value) (w : World) (h : T ≠ 84) : (Instr.typeAssert (.iface T v) xT 84 true).run Try.prog w = .ok (.tuple #[.pointer none, .bool false]) w := run_assert_no xT T v w Try.underlying84 (by kernel_rfl) h
theorem asZ84 (xT : TypeId) (w : World) : (Instr.typeAssert .nilIface xT 84 true).run Try.prog w = .ok (.tuple #[.pointer none, .bool false]) w := run_assert_nil xT w Try.underlying84 (by kernel_rfl)
attribute [go_sem] asY84 asN84 asZ84
theorem asY88 (xT : TypeId) (v : Value) (w : World) : (Instr.typeAssert (.iface 88 v) xT 88 true).run Try.prog w = .ok (.tuple #[v, .bool true]) w := run_assert_yes xT v w Try.underlying88
theorem asN88 (xT T : TypeId) (v : Value) (w : World) (h : T ≠ 88) : (Instr.typeAssert (.iface T v) xT 88 true).run Try.prog w = .ok (.tuple #[.pointer none, .bool false]) w := run_assert_no xT T v w Try.underlying88 (by kernel_rfl) h
theorem asZ88 (xT : TypeId) (w : World) : (Instr.typeAssert .nilIface xT 88 true).run Try.prog w = .ok (.tuple #[.pointer none, .bool false]) w := run_assert_nil xT w Try.underlying88 (by kernel_rfl)
attribute [go_sem] asY88 asN88 asZ88
theorem asY91 (xT : TypeId) (v : Value) (w : World) : (Instr.typeAssert (.iface 91 v) xT 91 true).run Try.prog w = .ok (.tuple #[v, .bool true]) w := run_assert_yes xT v w Try.underlying91
theorem asN91 (xT T : TypeId) (v : Value) (w : World) (h : T ≠ 91) : (Instr.typeAssert (.iface T v) xT 91 true).run Try.prog w = .ok (.tuple #[.pointer none, .bool false]) w := run_assert_no xT T v w Try.underlying91 (by kernel_rfl) h
theorem asZ91 (xT : TypeId) (w : World) : (Instr.typeAssert .nilIface xT 91 true).run Try.prog w = .ok (.tuple #[.pointer none, .bool false]) w := run_assert_nil xT w Try.underlying91 (by kernel_rfl)
attribute [go_sem] asY91 asN91 asZ91
theorem asY97 (xT : TypeId) (v : Value) (w : World) : (Instr.typeAssert (.iface 97 v) xT 97 true).run Try.prog w = .ok (.tuple #[v, .bool true]) w := run_assert_yes xT v w Try.underlying97
theorem asN97 (xT T : TypeId) (v : Value) (w : World) (h : T ≠ 97) : (Instr.typeAssert (.iface T v) xT 97 true).run Try.prog w = .ok (.tuple #[.pointer none, .bool false]) w := run_assert_no xT T v w Try.underlying97 (by kernel_rfl) h
theorem asZ97 (xT : TypeId) (w : World) : (Instr.typeAssert .nilIface xT 97 true).run Try.prog w = .ok (.tuple #[.pointer none, .bool false]) w := run_assert_nil xT w Try.underlying97 (by kernel_rfl)
attribute [go_sem] asY97 asN97 asZ97
theorem asY101 (xT : TypeId) (v : Value) (w : World) : (Instr.typeAssert (.iface 101 v) xT 101 true).run Try.prog w = .ok (.tuple #[v, .bool true]) w := run_assert_yes xT v w Try.underlying101
theorem asN101 (xT T : TypeId) (v : Value) (w : World) (h : T ≠ 101) : (Instr.typeAssert (.iface T v) xT 101 true).run Try.prog w = .ok (.tuple #[.pointer none, .bool false]) w := run_assert_no xT T v w Try.underlying101 (by kernel_rfl) h
theorem asZ101 (xT : TypeId) (w : World) : (Instr.typeAssert .nilIface xT 101 true).run Try.prog w = .ok (.tuple #[.pointer none, .bool false]) w := run_assert_nil xT w Try.underlying101 (by kernel_rfl)
attribute [go_sem] asY101 asN101 asZ101
theorem asY104 (xT : TypeId) (v : Value) (w : World) : (Instr.typeAssert (.iface 104 v) xT 104 true).run Try.prog w = .ok (.tuple #[v, .bool true]) w := run_assert_yes xT v w Try.underlying104
theorem asN104 (xT T : TypeId) (v : Value) (w : World) (h : T ≠ 104) : (Instr.typeAssert (.iface T v) xT 104 true).run Try.prog w = .ok (.tuple #[.pointer none, .bool false]) w := run_assert_no xT T v w Try.underlying104 (by kernel_rfl) h
theorem asZ104 (xT : TypeId) (w : World) : (Instr.typeAssert .nilIface xT 104 true).run Try.prog w = .ok (.tuple #[.pointer none, .bool false]) w := run_assert_nil xT w Try.underlying104 (by kernel_rfl)
attribute [go_sem] asY104 asN104 asZ104
theorem asY108 (xT : TypeId) (v : Value) (w : World) : (Instr.typeAssert (.iface 108 v) xT 108 true).run Try.prog w = .ok (.tuple #[v, .bool true]) w := run_assert_yes xT v w Try.underlying108
theorem asN108 (xT T : TypeId) (v : Value) (w : World) (h : T ≠ 108) : (Instr.typeAssert (.iface T v) xT 108 true).run Try.prog w = .ok (.tuple #[.pointer none, .bool false]) w := run_assert_no xT T v w Try.underlying108 (by kernel_rfl) h
theorem asZ108 (xT : TypeId) (w : World) : (Instr.typeAssert .nilIface xT 108 true).run Try.prog w = .ok (.tuple #[.pointer none, .bool false]) w := run_assert_nil xT w Try.underlying108 (by kernel_rfl)
attribute [go_sem] asY108 asN108 asZ108
theorem asY112 (xT : TypeId) (v : Value) (w : World) : (Instr.typeAssert (.iface 112 v) xT 112 true).run Try.prog w = .ok (.tuple #[v, .bool true]) w := run_assert_yes xT v w Try.underlying112
theorem asN112 (xT T : TypeId) (v : Value) (w : World) (h : T ≠ 112) : (Instr.typeAssert (.iface T v) xT 112 true).run Try.prog w = .ok (.tuple #[.pointer none, .bool false]) w := run_assert_no xT T v w Try.underlying112 (by kernel_rfl) h
theorem asZ112 (xT : TypeId) (w : World) : (Instr.typeAssert .nilIface xT 112 true).run Try.prog w = .ok (.tuple #[.pointer none, .bool false]) w := run_assert_nil xT w Try.underlying112 (by kernel_rfl)
attribute [go_sem] asY112 asN112 asZ112
theorem asY115 (xT : TypeId) (v : Value) (w : World) : (Instr.typeAssert (.iface 115 v) xT 115 true).run Try.prog w = .ok (.tuple #[v, .bool true]) w := run_assert_yes xT v w Try.underlying115
theorem asN115 (xT T : TypeId) (v : Value) (w : World) (h : T ≠ 115) : (Instr.typeAssert (.iface T v) xT 115 true).run Try.prog w = .ok (.tuple #[.pointer none, .bool false]) w := run_assert_no xT T v w Try.underlying115 (by kernel_rfl) h
theorem asZ115 (xT : TypeId) (w : World) : (Instr.typeAssert .nilIface xT 115 true).run Try.prog w = .ok (.tuple #[.pointer none, .bool false]) w := run_assert_nil xT w Try.underlying115 (by kernel_rfl)
attribute [go_sem] asY115 asN115 asZ115
theorem asY124 (xT : TypeId) (v : Value) (w : World) : (Instr.typeAssert (.iface 124 v) xT 124 true).run Try.prog w = .ok (.tuple #[v, .bool true]) w := run_assert_yes xT v w Try.underlying124
theorem asN124 (xT T : TypeId) (v : Value) (w : World) (h : T ≠ 124) : (Instr.typeAssert (.iface T v) xT 124 true).run Try.prog w = .ok (.tuple #[.pointer none, .bool false]) w := run_assert_no xT T v w Try.underlying124 (by kernel_rfl) h
theorem asZ124 (xT : TypeId) (w : World) : (Instr.typeAssert .nilIface xT 124 true).run Try.prog w = .ok (.tuple #[.pointer none, .bool false]) w := run_assert_nil xT w Try.underlying124 (by kernel_rfl)
attribute [go_sem] asY124 asN124 asZ124
theorem asY134 (xT : TypeId) (v : Value) (w : World) : (Instr.typeAssert (.iface 134 v) xT 134 true).run Try.prog w = .ok (.tuple #[v, .bool true]) w := run_assert_yes xT v w Try.underlying134
theorem asN134 (xT T : TypeId) (v : Value) (w : World) (h : T ≠ 134) : (Instr.typeAssert (.iface T v) xT 134 true).run Try.prog w = .ok (.tuple #[.pointer none, .bool false]) w := run_assert_no xT T v w Try.underlying134 (by kernel_rfl) h
theorem asZ134 (xT : TypeId) (w : World) : (Instr.typeAssert .nilIface xT 134 true).run Try.prog w = .ok (.tuple #[.pointer none, .bool false]) w := run_assert_nil xT w Try.underlying134 (by kernel_rfl)
attribute [go_sem] asY134 asN134 asZ134
theorem asY137 (xT : TypeId) (v : Value) (w : World) : (Instr.typeAssert (.iface 137 v) xT 137 true).run Try.prog w = .ok (.tuple #[v, .bool true]) w := run_assert_yes xT v w Try.underlying137
theorem asN137 (xT T : TypeId) (v : Value) (w : World) (h : T ≠ 137) : (Instr.typeAssert (.iface T v) xT 137 true).run Try.prog w = .ok (.tuple #[.pointer none, .bool false]) w := run_assert_no xT T v w Try.underlying137 (by kernel_rfl) h
theorem asZ137 (xT : TypeId) (w : World) : (Instr.typeAssert .nilIface xT 137 true).run Try.prog w = .ok (.tuple #[.pointer none, .bool false]) w := run_assert_nil xT w Try.underlying137 (by kernel_rfl)
attribute [go_sem] asY137 asN137 asZ137
theorem asY141 (xT : TypeId) (v : Value) (w : World) : (Instr.typeAssert (.iface 141 v) xT 141 true).run Try.prog w = .ok (.tuple #[v, .bool true]) w := run_assert_yes xT v w Try.underlying141
theorem asN141 (xT T : TypeId) (v : Value) (w : World) (h : T ≠ 141) : (Instr.typeAssert (.iface T v) xT 141 true).run Try.prog w = .ok (.tuple #[.pointer none, .bool false]) w := run_assert_no xT T v w Try.underlying141 (by kernel_rfl) h
theorem asZ141 (xT : TypeId) (w : World) : (Instr.typeAssert .nilIface xT 141 true).run Try.prog w = .ok (.tuple #[.pointer none, .bool false]) w := run_assert_nil xT w Try.underlying141 (by kernel_rfl)
attribute [go_sem] asY141 asN141 asZ141
theorem asY147 (xT : TypeId) (v : Value) (w : World) : (Instr.typeAssert (.iface 147 v) xT 147 true).run Try.prog w = .ok (.tuple #[v, .bool true]) w := run_assert_yes xT v w Try.underlying147
theorem asN147 (xT T : TypeId) (v : Value) (w : World) (h : T ≠ 147) : (Instr.typeAssert (.iface T v) xT 147 true).run Try.prog w = .ok (.tuple #[.pointer none, .bool false]) w := run_assert_no xT T v w Try.underlying147 (by kernel_rfl) h
theorem asZ147 (xT : TypeId) (w : World) : (Instr.typeAssert .nilIface xT 147 true).run Try.prog w = .ok (.tuple #[.pointer none, .bool false]) w := run_assert_nil xT w Try.underlying147 (by kernel_rfl)
attribute [go_sem] asY147 asN147 asZ147
theorem asY150 (xT : TypeId) (v : Value) (w : World) : (Instr.typeAssert (.iface 150 v) xT 150 true).run Try.prog w = .ok (.tuple #[v, .bool true]) w := run_assert_yes xT v w Try.underlying150
theorem asN150 (xT T : TypeId) (v : Value) (w : World) (h : T ≠ 150) : (Instr.typeAssert (.iface T v) xT 150 true).run Try.prog w = .ok (.tuple #[.pointer none, .bool false]) w := run_assert_no xT T v w Try.underlying150 (by kernel_rfl) h
theorem asZ150 (xT : TypeId) (w : World) : (Instr.typeAssert .nilIface xT 150 true).run Try.prog w = .ok (.tuple #[.pointer none, .bool false]) w := run_assert_nil xT w Try.underlying150 (by kernel_rfl)
attribute [go_sem] asY150 asN150 asZ150
theorem asY153 (xT : TypeId) (v : Value) (w : World) : (Instr.typeAssert (.iface 153 v) xT 153 true).run Try.prog w = .ok (.tuple #[v, .bool true]) w := run_assert_yes xT v w Try.underlying153
theorem asN153 (xT T : TypeId) (v : Value) (w : World) (h : T ≠ 153) : (Instr.typeAssert (.iface T v) xT 153 true).run Try.prog w = .ok (.tuple #[.pointer none, .bool false]) w := run_assert_no xT T v w Try.underlying153 (by kernel_rfl) h
theorem asZ153 (xT : TypeId) (w : World) : (Instr.typeAssert .nilIface xT 153 true).run Try.prog w = .ok (.tuple #[.pointer none, .bool false]) w := run_assert_nil xT w Try.underlying153 (by kernel_rfl)
attribute [go_sem] asY153 asN153 asZ153
theorem asY155 (xT : TypeId) (v : Value) (w : World) : (Instr.typeAssert (.iface 155 v) xT 155 true).run Try.prog w = .ok (.tuple #[v, .bool true]) w := run_assert_yes xT v w Try.underlying155
theorem asN155 (xT T : TypeId) (v : Value) (w : World) (h : T ≠ 155) : (Instr.typeAssert (.iface T v) xT 155 true).run Try.prog w = .ok (.tuple #[.pointer none, .bool false]) w := run_assert_no xT T v w Try.underlying155 (by kernel_rfl) h
theorem asZ155 (xT : TypeId) (w : World) : (Instr.typeAssert .nilIface xT 155 true).run Try.prog w = .ok (.tuple #[.pointer none, .bool false]) w := run_assert_nil xT w Try.underlying155 (by kernel_rfl)
attribute [go_sem] asY155 asN155 asZ155
theorem asY185 (xT : TypeId) (v : Value) (w : World) : (Instr.typeAssert (.iface 185 v) xT 185 true).run Try.prog w = .ok (.tuple #[v, .bool true]) w := run_assert_yes xT v w Try.underlying185
theorem asN185 (xT T : TypeId) (v : Value) (w : World) (h : T ≠ 185) : (Instr.typeAssert (.iface T v) xT 185 true).run Try.prog w = .ok (.tuple #[.pointer none, .bool false]) w := run_assert_no xT T v w Try.underlying185 (by kernel_rfl) h
theorem asZ185 (xT : TypeId) (w : World) : (Instr.typeAssert .nilIface xT 185 true).run Try.prog w = .ok (.tuple #[.pointer none, .bool false]) w := run_assert_nil xT w Try.underlying185 (by kernel_rfl)
attribute [go_sem] asY185 asN185 asZ185
end Go.Proofs.Ytfkamkbkpnnokab
