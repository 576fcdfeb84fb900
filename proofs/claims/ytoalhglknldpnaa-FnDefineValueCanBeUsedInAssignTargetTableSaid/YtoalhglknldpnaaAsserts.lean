/- What a type assertion (with comma-ok) to each pointer type of this seat's program gives: laws of the walk. No conditions. -/
import Derived.Test.YtoalhglknldpnaaRows
import Derived.Test.YtoalhglknldpnaaLib
namespace Go.Proofs.Ytoalhglknldpnaa
open Go.Mine

theorem asY105 (xT : TypeId) (v : Value) (w : World) : (Instr.typeAssert (.iface 105 v) xT 105 true).run Try.prog w = .ok (.tuple #[v, .bool true]) w := run_assert_yes xT v w Try.underlying105
theorem asN105 (xT T : TypeId) (v : Value) (w : World) (h : T ≠ 105) : (Instr.typeAssert (.iface T v) xT 105 true).run Try.prog w = .ok (.tuple #[.pointer none, .bool false]) w := run_assert_no xT T v w Try.underlying105 (by kernel_rfl) h
theorem asZ105 (xT : TypeId) (w : World) : (Instr.typeAssert .nilIface xT 105 true).run Try.prog w = .ok (.tuple #[.pointer none, .bool false]) w := run_assert_nil xT w Try.underlying105 (by kernel_rfl)
attribute [go_sem] asY105 asN105 asZ105
theorem asY112 (xT : TypeId) (v : Value) (w : World) : (Instr.typeAssert (.iface 112 v) xT 112 true).run Try.prog w = .ok (.tuple #[v, .bool true]) w := run_assert_yes xT v w Try.underlying112
theorem asN112 (xT T : TypeId) (v : Value) (w : World) (h : T ≠ 112) : (Instr.typeAssert (.iface T v) xT 112 true).run Try.prog w = .ok (.tuple #[.pointer none, .bool false]) w := run_assert_no xT T v w Try.underlying112 (by kernel_rfl) h
theorem asZ112 (xT : TypeId) (w : World) : (Instr.typeAssert .nilIface xT 112 true).run Try.prog w = .ok (.tuple #[.pointer none, .bool false]) w := run_assert_nil xT w Try.underlying112 (by kernel_rfl)
attribute [go_sem] asY112 asN112 asZ112
theorem asY161 (xT : TypeId) (v : Value) (w : World) : (Instr.typeAssert (.iface 161 v) xT 161 true).run Try.prog w = .ok (.tuple #[v, .bool true]) w := run_assert_yes xT v w Try.underlying161
theorem asN161 (xT T : TypeId) (v : Value) (w : World) (h : T ≠ 161) : (Instr.typeAssert (.iface T v) xT 161 true).run Try.prog w = .ok (.tuple #[.pointer none, .bool false]) w := run_assert_no xT T v w Try.underlying161 (by kernel_rfl) h
theorem asZ161 (xT : TypeId) (w : World) : (Instr.typeAssert .nilIface xT 161 true).run Try.prog w = .ok (.tuple #[.pointer none, .bool false]) w := run_assert_nil xT w Try.underlying161 (by kernel_rfl)
attribute [go_sem] asY161 asN161 asZ161
theorem asY165 (xT : TypeId) (v : Value) (w : World) : (Instr.typeAssert (.iface 165 v) xT 165 true).run Try.prog w = .ok (.tuple #[v, .bool true]) w := run_assert_yes xT v w Try.underlying165
theorem asN165 (xT T : TypeId) (v : Value) (w : World) (h : T ≠ 165) : (Instr.typeAssert (.iface T v) xT 165 true).run Try.prog w = .ok (.tuple #[.pointer none, .bool false]) w := run_assert_no xT T v w Try.underlying165 (by kernel_rfl) h
theorem asZ165 (xT : TypeId) (w : World) : (Instr.typeAssert .nilIface xT 165 true).run Try.prog w = .ok (.tuple #[.pointer none, .bool false]) w := run_assert_nil xT w Try.underlying165 (by kernel_rfl)
attribute [go_sem] asY165 asN165 asZ165
theorem asY168 (xT : TypeId) (v : Value) (w : World) : (Instr.typeAssert (.iface 168 v) xT 168 true).run Try.prog w = .ok (.tuple #[v, .bool true]) w := run_assert_yes xT v w Try.underlying168
theorem asN168 (xT T : TypeId) (v : Value) (w : World) (h : T ≠ 168) : (Instr.typeAssert (.iface T v) xT 168 true).run Try.prog w = .ok (.tuple #[.pointer none, .bool false]) w := run_assert_no xT T v w Try.underlying168 (by kernel_rfl) h
theorem asZ168 (xT : TypeId) (w : World) : (Instr.typeAssert .nilIface xT 168 true).run Try.prog w = .ok (.tuple #[.pointer none, .bool false]) w := run_assert_nil xT w Try.underlying168 (by kernel_rfl)
attribute [go_sem] asY168 asN168 asZ168
theorem asY172 (xT : TypeId) (v : Value) (w : World) : (Instr.typeAssert (.iface 172 v) xT 172 true).run Try.prog w = .ok (.tuple #[v, .bool true]) w := run_assert_yes xT v w Try.underlying172
theorem asN172 (xT T : TypeId) (v : Value) (w : World) (h : T ≠ 172) : (Instr.typeAssert (.iface T v) xT 172 true).run Try.prog w = .ok (.tuple #[.pointer none, .bool false]) w := run_assert_no xT T v w Try.underlying172 (by kernel_rfl) h
theorem asZ172 (xT : TypeId) (w : World) : (Instr.typeAssert .nilIface xT 172 true).run Try.prog w = .ok (.tuple #[.pointer none, .bool false]) w := run_assert_nil xT w Try.underlying172 (by kernel_rfl)
attribute [go_sem] asY172 asN172 asZ172
theorem asY173 (xT : TypeId) (v : Value) (w : World) : (Instr.typeAssert (.iface 173 v) xT 173 true).run Try.prog w = .ok (.tuple #[v, .bool true]) w := run_assert_yes xT v w Try.underlying173
theorem asN173 (xT T : TypeId) (v : Value) (w : World) (h : T ≠ 173) : (Instr.typeAssert (.iface T v) xT 173 true).run Try.prog w = .ok (.tuple #[.pointer none, .bool false]) w := run_assert_no xT T v w Try.underlying173 (by kernel_rfl) h
theorem asZ173 (xT : TypeId) (w : World) : (Instr.typeAssert .nilIface xT 173 true).run Try.prog w = .ok (.tuple #[.pointer none, .bool false]) w := run_assert_nil xT w Try.underlying173 (by kernel_rfl)
attribute [go_sem] asY173 asN173 asZ173
theorem asY257 (xT : TypeId) (v : Value) (w : World) : (Instr.typeAssert (.iface 257 v) xT 257 true).run Try.prog w = .ok (.tuple #[v, .bool true]) w := run_assert_yes xT v w Try.underlying257
theorem asN257 (xT T : TypeId) (v : Value) (w : World) (h : T ≠ 257) : (Instr.typeAssert (.iface T v) xT 257 true).run Try.prog w = .ok (.tuple #[.pointer none, .bool false]) w := run_assert_no xT T v w Try.underlying257 (by kernel_rfl) h
theorem asZ257 (xT : TypeId) (w : World) : (Instr.typeAssert .nilIface xT 257 true).run Try.prog w = .ok (.tuple #[.pointer none, .bool false]) w := run_assert_nil xT w Try.underlying257 (by kernel_rfl)
attribute [go_sem] asY257 asN257 asZ257
theorem asY293 (xT : TypeId) (v : Value) (w : World) : (Instr.typeAssert (.iface 293 v) xT 293 true).run Try.prog w = .ok (.tuple #[v, .bool true]) w := run_assert_yes xT v w Try.underlying293
theorem asN293 (xT T : TypeId) (v : Value) (w : World) (h : T ≠ 293) : (Instr.typeAssert (.iface T v) xT 293 true).run Try.prog w = .ok (.tuple #[.pointer none, .bool false]) w := run_assert_no xT T v w Try.underlying293 (by kernel_rfl) h
theorem asZ293 (xT : TypeId) (w : World) : (Instr.typeAssert .nilIface xT 293 true).run Try.prog w = .ok (.tuple #[.pointer none, .bool false]) w := run_assert_nil xT w Try.underlying293 (by kernel_rfl)
attribute [go_sem] asY293 asN293 asZ293
theorem asY400 (xT : TypeId) (v : Value) (w : World) : (Instr.typeAssert (.iface 400 v) xT 400 true).run Try.prog w = .ok (.tuple #[v, .bool true]) w := run_assert_yes xT v w Try.underlying400
theorem asN400 (xT T : TypeId) (v : Value) (w : World) (h : T ≠ 400) : (Instr.typeAssert (.iface T v) xT 400 true).run Try.prog w = .ok (.tuple #[.pointer none, .bool false]) w := run_assert_no xT T v w Try.underlying400 (by kernel_rfl) h
theorem asZ400 (xT : TypeId) (w : World) : (Instr.typeAssert .nilIface xT 400 true).run Try.prog w = .ok (.tuple #[.pointer none, .bool false]) w := run_assert_nil xT w Try.underlying400 (by kernel_rfl)
attribute [go_sem] asY400 asN400 asZ400
end Go.Proofs.Ytoalhglknldpnaa
