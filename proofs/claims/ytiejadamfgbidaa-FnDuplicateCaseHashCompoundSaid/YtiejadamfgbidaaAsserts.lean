/- What a type assertion (with comma-ok) to each pointer type of this seat's program gives: laws of the walk. No conditions. -/
import Derived.Test.YtiejadamfgbidaaRows
import Derived.Test.YtiejadamfgbidaaLib
namespace Go.Proofs.Ytiejadamfgbidaa
open Go.Mine

theorem asY32 (xT : TypeId) (v : Value) (w : World) : (Instr.typeAssert (.iface 32 v) xT 32 true).run Try.prog w = .ok (.tuple #[v, .bool true]) w := run_assert_yes xT v w Try.underlying32
theorem asN32 (xT T : TypeId) (v : Value) (w : World) (h : T ≠ 32) : (Instr.typeAssert (.iface T v) xT 32 true).run Try.prog w = .ok (.tuple #[.pointer none, .bool false]) w := run_assert_no xT T v w Try.underlying32 (by kernel_rfl) h
theorem asZ32 (xT : TypeId) (w : World) : (Instr.typeAssert .nilIface xT 32 true).run Try.prog w = .ok (.tuple #[.pointer none, .bool false]) w := run_assert_nil xT w Try.underlying32 (by kernel_rfl)
attribute [go_sem] asY32 asN32 asZ32
theorem asY33 (xT : TypeId) (v : Value) (w : World) : (Instr.typeAssert (.iface 33 v) xT 33 true).run Try.prog w = .ok (.tuple #[v, .bool true]) w := run_assert_yes xT v w Try.underlying33
theorem asN33 (xT T : TypeId) (v : Value) (w : World) (h : T ≠ 33) : (Instr.typeAssert (.iface T v) xT 33 true).run Try.prog w = .ok (.tuple #[.pointer none, .bool false]) w := run_assert_no xT T v w Try.underlying33 (by kernel_rfl) h
theorem asZ33 (xT : TypeId) (w : World) : (Instr.typeAssert .nilIface xT 33 true).run Try.prog w = .ok (.tuple #[.pointer none, .bool false]) w := run_assert_nil xT w Try.underlying33 (by kernel_rfl)
attribute [go_sem] asY33 asN33 asZ33
theorem asY34 (xT : TypeId) (v : Value) (w : World) : (Instr.typeAssert (.iface 34 v) xT 34 true).run Try.prog w = .ok (.tuple #[v, .bool true]) w := run_assert_yes xT v w Try.underlying34
theorem asN34 (xT T : TypeId) (v : Value) (w : World) (h : T ≠ 34) : (Instr.typeAssert (.iface T v) xT 34 true).run Try.prog w = .ok (.tuple #[.pointer none, .bool false]) w := run_assert_no xT T v w Try.underlying34 (by kernel_rfl) h
theorem asZ34 (xT : TypeId) (w : World) : (Instr.typeAssert .nilIface xT 34 true).run Try.prog w = .ok (.tuple #[.pointer none, .bool false]) w := run_assert_nil xT w Try.underlying34 (by kernel_rfl)
attribute [go_sem] asY34 asN34 asZ34
theorem asY37 (xT : TypeId) (v : Value) (w : World) : (Instr.typeAssert (.iface 37 v) xT 37 true).run Try.prog w = .ok (.tuple #[v, .bool true]) w := run_assert_yes xT v w Try.underlying37
theorem asN37 (xT T : TypeId) (v : Value) (w : World) (h : T ≠ 37) : (Instr.typeAssert (.iface T v) xT 37 true).run Try.prog w = .ok (.tuple #[.pointer none, .bool false]) w := run_assert_no xT T v w Try.underlying37 (by kernel_rfl) h
theorem asZ37 (xT : TypeId) (w : World) : (Instr.typeAssert .nilIface xT 37 true).run Try.prog w = .ok (.tuple #[.pointer none, .bool false]) w := run_assert_nil xT w Try.underlying37 (by kernel_rfl)
attribute [go_sem] asY37 asN37 asZ37
theorem asY41 (xT : TypeId) (v : Value) (w : World) : (Instr.typeAssert (.iface 41 v) xT 41 true).run Try.prog w = .ok (.tuple #[v, .bool true]) w := run_assert_yes xT v w Try.underlying41
theorem asN41 (xT T : TypeId) (v : Value) (w : World) (h : T ≠ 41) : (Instr.typeAssert (.iface T v) xT 41 true).run Try.prog w = .ok (.tuple #[.pointer none, .bool false]) w := run_assert_no xT T v w Try.underlying41 (by kernel_rfl) h
theorem asZ41 (xT : TypeId) (w : World) : (Instr.typeAssert .nilIface xT 41 true).run Try.prog w = .ok (.tuple #[.pointer none, .bool false]) w := run_assert_nil xT w Try.underlying41 (by kernel_rfl)
attribute [go_sem] asY41 asN41 asZ41
theorem asY48 (xT : TypeId) (v : Value) (w : World) : (Instr.typeAssert (.iface 48 v) xT 48 true).run Try.prog w = .ok (.tuple #[v, .bool true]) w := run_assert_yes xT v w Try.underlying48
theorem asN48 (xT T : TypeId) (v : Value) (w : World) (h : T ≠ 48) : (Instr.typeAssert (.iface T v) xT 48 true).run Try.prog w = .ok (.tuple #[.pointer none, .bool false]) w := run_assert_no xT T v w Try.underlying48 (by kernel_rfl) h
theorem asZ48 (xT : TypeId) (w : World) : (Instr.typeAssert .nilIface xT 48 true).run Try.prog w = .ok (.tuple #[.pointer none, .bool false]) w := run_assert_nil xT w Try.underlying48 (by kernel_rfl)
attribute [go_sem] asY48 asN48 asZ48
theorem asY63 (xT : TypeId) (v : Value) (w : World) : (Instr.typeAssert (.iface 63 v) xT 63 true).run Try.prog w = .ok (.tuple #[v, .bool true]) w := run_assert_yes xT v w Try.underlying63
theorem asN63 (xT T : TypeId) (v : Value) (w : World) (h : T ≠ 63) : (Instr.typeAssert (.iface T v) xT 63 true).run Try.prog w = .ok (.tuple #[.pointer none, .bool false]) w := run_assert_no xT T v w Try.underlying63 (by kernel_rfl) h
theorem asZ63 (xT : TypeId) (w : World) : (Instr.typeAssert .nilIface xT 63 true).run Try.prog w = .ok (.tuple #[.pointer none, .bool false]) w := run_assert_nil xT w Try.underlying63 (by kernel_rfl)
attribute [go_sem] asY63 asN63 asZ63
theorem asY93 (xT : TypeId) (v : Value) (w : World) : (Instr.typeAssert (.iface 93 v) xT 93 true).run Try.prog w = .ok (.tuple #[v, .bool true]) w := run_assert_yes xT v w Try.underlying93
theorem asN93 (xT T : TypeId) (v : Value) (w : World) (h : T ≠ 93) : (Instr.typeAssert (.iface T v) xT 93 true).run Try.prog w = .ok (.tuple #[.pointer none, .bool false]) w := run_assert_no xT T v w Try.underlying93 (by kernel_rfl) h
theorem asZ93 (xT : TypeId) (w : World) : (Instr.typeAssert .nilIface xT 93 true).run Try.prog w = .ok (.tuple #[.pointer none, .bool false]) w := run_assert_nil xT w Try.underlying93 (by kernel_rfl)
attribute [go_sem] asY93 asN93 asZ93
theorem asY96 (xT : TypeId) (v : Value) (w : World) : (Instr.typeAssert (.iface 96 v) xT 96 true).run Try.prog w = .ok (.tuple #[v, .bool true]) w := run_assert_yes xT v w Try.underlying96
theorem asN96 (xT T : TypeId) (v : Value) (w : World) (h : T ≠ 96) : (Instr.typeAssert (.iface T v) xT 96 true).run Try.prog w = .ok (.tuple #[.pointer none, .bool false]) w := run_assert_no xT T v w Try.underlying96 (by kernel_rfl) h
theorem asZ96 (xT : TypeId) (w : World) : (Instr.typeAssert .nilIface xT 96 true).run Try.prog w = .ok (.tuple #[.pointer none, .bool false]) w := run_assert_nil xT w Try.underlying96 (by kernel_rfl)
attribute [go_sem] asY96 asN96 asZ96
theorem asY98 (xT : TypeId) (v : Value) (w : World) : (Instr.typeAssert (.iface 98 v) xT 98 true).run Try.prog w = .ok (.tuple #[v, .bool true]) w := run_assert_yes xT v w Try.underlying98
theorem asN98 (xT T : TypeId) (v : Value) (w : World) (h : T ≠ 98) : (Instr.typeAssert (.iface T v) xT 98 true).run Try.prog w = .ok (.tuple #[.pointer none, .bool false]) w := run_assert_no xT T v w Try.underlying98 (by kernel_rfl) h
theorem asZ98 (xT : TypeId) (w : World) : (Instr.typeAssert .nilIface xT 98 true).run Try.prog w = .ok (.tuple #[.pointer none, .bool false]) w := run_assert_nil xT w Try.underlying98 (by kernel_rfl)
attribute [go_sem] asY98 asN98 asZ98
theorem asY101 (xT : TypeId) (v : Value) (w : World) : (Instr.typeAssert (.iface 101 v) xT 101 true).run Try.prog w = .ok (.tuple #[v, .bool true]) w := run_assert_yes xT v w Try.underlying101
theorem asN101 (xT T : TypeId) (v : Value) (w : World) (h : T ≠ 101) : (Instr.typeAssert (.iface T v) xT 101 true).run Try.prog w = .ok (.tuple #[.pointer none, .bool false]) w := run_assert_no xT T v w Try.underlying101 (by kernel_rfl) h
theorem asZ101 (xT : TypeId) (w : World) : (Instr.typeAssert .nilIface xT 101 true).run Try.prog w = .ok (.tuple #[.pointer none, .bool false]) w := run_assert_nil xT w Try.underlying101 (by kernel_rfl)
attribute [go_sem] asY101 asN101 asZ101
theorem asY106 (xT : TypeId) (v : Value) (w : World) : (Instr.typeAssert (.iface 106 v) xT 106 true).run Try.prog w = .ok (.tuple #[v, .bool true]) w := run_assert_yes xT v w Try.underlying106
theorem asN106 (xT T : TypeId) (v : Value) (w : World) (h : T ≠ 106) : (Instr.typeAssert (.iface T v) xT 106 true).run Try.prog w = .ok (.tuple #[.pointer none, .bool false]) w := run_assert_no xT T v w Try.underlying106 (by kernel_rfl) h
theorem asZ106 (xT : TypeId) (w : World) : (Instr.typeAssert .nilIface xT 106 true).run Try.prog w = .ok (.tuple #[.pointer none, .bool false]) w := run_assert_nil xT w Try.underlying106 (by kernel_rfl)
attribute [go_sem] asY106 asN106 asZ106
theorem asY118 (xT : TypeId) (v : Value) (w : World) : (Instr.typeAssert (.iface 118 v) xT 118 true).run Try.prog w = .ok (.tuple #[v, .bool true]) w := run_assert_yes xT v w Try.underlying118
theorem asN118 (xT T : TypeId) (v : Value) (w : World) (h : T ≠ 118) : (Instr.typeAssert (.iface T v) xT 118 true).run Try.prog w = .ok (.tuple #[.pointer none, .bool false]) w := run_assert_no xT T v w Try.underlying118 (by kernel_rfl) h
theorem asZ118 (xT : TypeId) (w : World) : (Instr.typeAssert .nilIface xT 118 true).run Try.prog w = .ok (.tuple #[.pointer none, .bool false]) w := run_assert_nil xT w Try.underlying118 (by kernel_rfl)
attribute [go_sem] asY118 asN118 asZ118
theorem asY121 (xT : TypeId) (v : Value) (w : World) : (Instr.typeAssert (.iface 121 v) xT 121 true).run Try.prog w = .ok (.tuple #[v, .bool true]) w := run_assert_yes xT v w Try.underlying121
theorem asN121 (xT T : TypeId) (v : Value) (w : World) (h : T ≠ 121) : (Instr.typeAssert (.iface T v) xT 121 true).run Try.prog w = .ok (.tuple #[.pointer none, .bool false]) w := run_assert_no xT T v w Try.underlying121 (by kernel_rfl) h
theorem asZ121 (xT : TypeId) (w : World) : (Instr.typeAssert .nilIface xT 121 true).run Try.prog w = .ok (.tuple #[.pointer none, .bool false]) w := run_assert_nil xT w Try.underlying121 (by kernel_rfl)
attribute [go_sem] asY121 asN121 asZ121
theorem asY126 (xT : TypeId) (v : Value) (w : World) : (Instr.typeAssert (.iface 126 v) xT 126 true).run Try.prog w = .ok (.tuple #[v, .bool true]) w := run_assert_yes xT v w Try.underlying126
theorem asN126 (xT T : TypeId) (v : Value) (w : World) (h : T ≠ 126) : (Instr.typeAssert (.iface T v) xT 126 true).run Try.prog w = .ok (.tuple #[.pointer none, .bool false]) w := run_assert_no xT T v w Try.underlying126 (by kernel_rfl) h
theorem asZ126 (xT : TypeId) (w : World) : (Instr.typeAssert .nilIface xT 126 true).run Try.prog w = .ok (.tuple #[.pointer none, .bool false]) w := run_assert_nil xT w Try.underlying126 (by kernel_rfl)
attribute [go_sem] asY126 asN126 asZ126
theorem asY130 (xT : TypeId) (v : Value) (w : World) : (Instr.typeAssert (.iface 130 v) xT 130 true).run Try.prog w = .ok (.tuple #[v, .bool true]) w := run_assert_yes xT v w Try.underlying130
theorem asN130 (xT T : TypeId) (v : Value) (w : World) (h : T ≠ 130) : (Instr.typeAssert (.iface T v) xT 130 true).run Try.prog w = .ok (.tuple #[.pointer none, .bool false]) w := run_assert_no xT T v w Try.underlying130 (by kernel_rfl) h
theorem asZ130 (xT : TypeId) (w : World) : (Instr.typeAssert .nilIface xT 130 true).run Try.prog w = .ok (.tuple #[.pointer none, .bool false]) w := run_assert_nil xT w Try.underlying130 (by kernel_rfl)
attribute [go_sem] asY130 asN130 asZ130
theorem asY135 (xT : TypeId) (v : Value) (w : World) : (Instr.typeAssert (.iface 135 v) xT 135 true).run Try.prog w = .ok (.tuple #[v, .bool true]) w := run_assert_yes xT v w Try.underlying135
theorem asN135 (xT T : TypeId) (v : Value) (w : World) (h : T ≠ 135) : (Instr.typeAssert (.iface T v) xT 135 true).run Try.prog w = .ok (.tuple #[.pointer none, .bool false]) w := run_assert_no xT T v w Try.underlying135 (by kernel_rfl) h
theorem asZ135 (xT : TypeId) (w : World) : (Instr.typeAssert .nilIface xT 135 true).run Try.prog w = .ok (.tuple #[.pointer none, .bool false]) w := run_assert_nil xT w Try.underlying135 (by kernel_rfl)
attribute [go_sem] asY135 asN135 asZ135
theorem asY139 (xT : TypeId) (v : Value) (w : World) : (Instr.typeAssert (.iface 139 v) xT 139 true).run Try.prog w = .ok (.tuple #[v, .bool true]) w := run_assert_yes xT v w Try.underlying139
theorem asN139 (xT T : TypeId) (v : Value) (w : World) (h : T ≠ 139) : (Instr.typeAssert (.iface T v) xT 139 true).run Try.prog w = .ok (.tuple #[.pointer none, .bool false]) w := run_assert_no xT T v w Try.underlying139 (by kernel_rfl) h
theorem asZ139 (xT : TypeId) (w : World) : (Instr.typeAssert .nilIface xT 139 true).run Try.prog w = .ok (.tuple #[.pointer none, .bool false]) w := run_assert_nil xT w Try.underlying139 (by kernel_rfl)
attribute [go_sem] asY139 asN139 asZ139
theorem asY143 (xT : TypeId) (v : Value) (w : World) : (Instr.typeAssert (.iface 143 v) xT 143 true).run Try.prog w = .ok (.tuple #[v, .bool true]) w := run_assert_yes xT v w Try.underlying143
theorem asN143 (xT T : TypeId) (v : Value) (w : World) (h : T ≠ 143) : (Instr.typeAssert (.iface T v) xT 143 true).run Try.prog w = .ok (.tuple #[.pointer none, .bool false]) w := run_assert_no xT T v w Try.underlying143 (by kernel_rfl) h
theorem asZ143 (xT : TypeId) (w : World) : (Instr.typeAssert .nilIface xT 143 true).run Try.prog w = .ok (.tuple #[.pointer none, .bool false]) w := run_assert_nil xT w Try.underlying143 (by kernel_rfl)
attribute [go_sem] asY143 asN143 asZ143
theorem asY147 (xT : TypeId) (v : Value) (w : World) : (Instr.typeAssert (.iface 147 v) xT 147 true).run Try.prog w = .ok (.tuple #[v, .bool true]) w := run_assert_yes xT v w Try.underlying147
theorem asN147 (xT T : TypeId) (v : Value) (w : World) (h : T ≠ 147) : (Instr.typeAssert (.iface T v) xT 147 true).run Try.prog w = .ok (.tuple #[.pointer none, .bool false]) w := run_assert_no xT T v w Try.underlying147 (by kernel_rfl) h
theorem asZ147 (xT : TypeId) (w : World) : (Instr.typeAssert .nilIface xT 147 true).run Try.prog w = .ok (.tuple #[.pointer none, .bool false]) w := run_assert_nil xT w Try.underlying147 (by kernel_rfl)
attribute [go_sem] asY147 asN147 asZ147
theorem asY151 (xT : TypeId) (v : Value) (w : World) : (Instr.typeAssert (.iface 151 v) xT 151 true).run Try.prog w = .ok (.tuple #[v, .bool true]) w := run_assert_yes xT v w Try.underlying151
theorem asN151 (xT T : TypeId) (v : Value) (w : World) (h : T ≠ 151) : (Instr.typeAssert (.iface T v) xT 151 true).run Try.prog w = .ok (.tuple #[.pointer none, .bool false]) w := run_assert_no xT T v w Try.underlying151 (by kernel_rfl) h
theorem asZ151 (xT : TypeId) (w : World) : (Instr.typeAssert .nilIface xT 151 true).run Try.prog w = .ok (.tuple #[.pointer none, .bool false]) w := run_assert_nil xT w Try.underlying151 (by kernel_rfl)
attribute [go_sem] asY151 asN151 asZ151
theorem asY161 (xT : TypeId) (v : Value) (w : World) : (Instr.typeAssert (.iface 161 v) xT 161 true).run Try.prog w = .ok (.tuple #[v, .bool true]) w := run_assert_yes xT v w Try.underlying161
theorem asN161 (xT T : TypeId) (v : Value) (w : World) (h : T ≠ 161) : (Instr.typeAssert (.iface T v) xT 161 true).run Try.prog w = .ok (.tuple #[.pointer none, .bool false]) w := run_assert_no xT T v w Try.underlying161 (by kernel_rfl) h
theorem asZ161 (xT : TypeId) (w : World) : (Instr.typeAssert .nilIface xT 161 true).run Try.prog w = .ok (.tuple #[.pointer none, .bool false]) w := run_assert_nil xT w Try.underlying161 (by kernel_rfl)
attribute [go_sem] asY161 asN161 asZ161
theorem asY165 (xT : TypeId) (v : Value) (w : World) : (Instr.typeAssert (.iface 165 v) xT 165 true).run Try.prog w = .ok (.tuple #[v, .bool true]) w := run_assert_yes xT v w Try.underlying165
theorem asN165 (xT T : TypeId) (v : Value) (w : World) (h : T ≠ 165) : (Instr.typeAssert (.iface T v) xT 165 true).run Try.prog w = .ok (.tuple #[.pointer none, .bool false]) w := run_assert_no xT T v w Try.underlying165 (by kernel_rfl) h
theorem asZ165 (xT : TypeId) (w : World) : (Instr.typeAssert .nilIface xT 165 true).run Try.prog w = .ok (.tuple #[.pointer none, .bool false]) w := run_assert_nil xT w Try.underlying165 (by kernel_rfl)
attribute [go_sem] asY165 asN165 asZ165
theorem asY168 (xT : TypeId) (v : Value) (w : World) : (Instr.typeAssert (.iface 168 v) xT 168 true).run Try.prog w = .ok (.tuple #[v, .bool true]) w := run_assert_yes xT v w Try.underlying168
theorem asN168 (xT T : TypeId) (v : Value) (w : World) (h : T ≠ 168) : (Instr.typeAssert (.iface T v) xT 168 true).run Try.prog w = .ok (.tuple #[.pointer none, .bool false]) w := run_assert_no xT T v w Try.underlying168 (by kernel_rfl) h
theorem asZ168 (xT : TypeId) (w : World) : (Instr.typeAssert .nilIface xT 168 true).run Try.prog w = .ok (.tuple #[.pointer none, .bool false]) w := run_assert_nil xT w Try.underlying168 (by kernel_rfl)
attribute [go_sem] asY168 asN168 asZ168
theorem asY217 (xT : TypeId) (v : Value) (w : World) : (Instr.typeAssert (.iface 217 v) xT 217 true).run Try.prog w = .ok (.tuple #[v, .bool true]) w := run_assert_yes xT v w Try.underlying217
theorem asN217 (xT T : TypeId) (v : Value) (w : World) (h : T ≠ 217) : (Instr.typeAssert (.iface T v) xT 217 true).run Try.prog w = .ok (.tuple #[.pointer none, .bool false]) w := run_assert_no xT T v w Try.underlying217 (by kernel_rfl) h
theorem asZ217 (xT : TypeId) (w : World) : (Instr.typeAssert .nilIface xT 217 true).run Try.prog w = .ok (.tuple #[.pointer none, .bool false]) w := run_assert_nil xT w Try.underlying217 (by kernel_rfl)
attribute [go_sem] asY217 asN217 asZ217
end Go.Proofs.Ytiejadamfgbidaa
