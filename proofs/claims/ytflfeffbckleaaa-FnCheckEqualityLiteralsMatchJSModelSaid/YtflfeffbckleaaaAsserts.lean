/- What a type assertion (with comma-ok) to each pointer type of this seat's program gives: laws of the walk. No conditions. -/
import Derived.Test.YtflfeffbckleaaaRows
import Derived.Test.YtflfeffbckleaaaLib
namespace Go.Proofs.Ytflfeffbckleaaa
open Go.Mine

theorem asY70 (xT : TypeId) (v : Value) (w : World) : (Instr.typeAssert (.iface 70 v) xT 70 true).run Try.prog w = .ok (.tuple #[v, .bool true]) w := run_assert_yes xT v w Try.underlying70
theorem asN70 (xT T : TypeId) (v : Value) (w : World) (h : T ≠ 70) : (Instr.typeAssert (.iface T v) xT 70 true).run Try.prog w = .ok (.tuple #[.pointer none, .bool false]) w := run_assert_no xT T v w Try.underlying70 (by kernel_rfl) h
theorem asZ70 (xT : TypeId) (w : World) : (Instr.typeAssert .nilIface xT 70 true).run Try.prog w = .ok (.tuple #[.pointer none, .bool false]) w := run_assert_nil xT w Try.underlying70 (by kernel_rfl)
attribute [go_sem] asY70 asN70 asZ70
theorem asY74 (xT : TypeId) (v : Value) (w : World) : (Instr.typeAssert (.iface 74 v) xT 74 true).run Try.prog w = .ok (.tuple #[v, .bool true]) w := run_assert_yes xT v w Try.underlying74
theorem asN74 (xT T : TypeId) (v : Value) (w : World) (h : T ≠ 74) : (Instr.typeAssert (.iface T v) xT 74 true).run Try.prog w = .ok (.tuple #[.pointer none, .bool false]) w := run_assert_no xT T v w Try.underlying74 (by kernel_rfl) h
theorem asZ74 (xT : TypeId) (w : World) : (Instr.typeAssert .nilIface xT 74 true).run Try.prog w = .ok (.tuple #[.pointer none, .bool false]) w := run_assert_nil xT w Try.underlying74 (by kernel_rfl)
attribute [go_sem] asY74 asN74 asZ74
theorem asY75 (xT : TypeId) (v : Value) (w : World) : (Instr.typeAssert (.iface 75 v) xT 75 true).run Try.prog w = .ok (.tuple #[v, .bool true]) w := run_assert_yes xT v w Try.underlying75
theorem asN75 (xT T : TypeId) (v : Value) (w : World) (h : T ≠ 75) : (Instr.typeAssert (.iface T v) xT 75 true).run Try.prog w = .ok (.tuple #[.pointer none, .bool false]) w := run_assert_no xT T v w Try.underlying75 (by kernel_rfl) h
theorem asZ75 (xT : TypeId) (w : World) : (Instr.typeAssert .nilIface xT 75 true).run Try.prog w = .ok (.tuple #[.pointer none, .bool false]) w := run_assert_nil xT w Try.underlying75 (by kernel_rfl)
attribute [go_sem] asY75 asN75 asZ75
theorem asY77 (xT : TypeId) (v : Value) (w : World) : (Instr.typeAssert (.iface 77 v) xT 77 true).run Try.prog w = .ok (.tuple #[v, .bool true]) w := run_assert_yes xT v w Try.underlying77
theorem asN77 (xT T : TypeId) (v : Value) (w : World) (h : T ≠ 77) : (Instr.typeAssert (.iface T v) xT 77 true).run Try.prog w = .ok (.tuple #[.pointer none, .bool false]) w := run_assert_no xT T v w Try.underlying77 (by kernel_rfl) h
theorem asZ77 (xT : TypeId) (w : World) : (Instr.typeAssert .nilIface xT 77 true).run Try.prog w = .ok (.tuple #[.pointer none, .bool false]) w := run_assert_nil xT w Try.underlying77 (by kernel_rfl)
attribute [go_sem] asY77 asN77 asZ77
theorem asY80 (xT : TypeId) (v : Value) (w : World) : (Instr.typeAssert (.iface 80 v) xT 80 true).run Try.prog w = .ok (.tuple #[v, .bool true]) w := run_assert_yes xT v w Try.underlying80
theorem asN80 (xT T : TypeId) (v : Value) (w : World) (h : T ≠ 80) : (Instr.typeAssert (.iface T v) xT 80 true).run Try.prog w = .ok (.tuple #[.pointer none, .bool false]) w := run_assert_no xT T v w Try.underlying80 (by kernel_rfl) h
theorem asZ80 (xT : TypeId) (w : World) : (Instr.typeAssert .nilIface xT 80 true).run Try.prog w = .ok (.tuple #[.pointer none, .bool false]) w := run_assert_nil xT w Try.underlying80 (by kernel_rfl)
attribute [go_sem] asY80 asN80 asZ80
theorem asY83 (xT : TypeId) (v : Value) (w : World) : (Instr.typeAssert (.iface 83 v) xT 83 true).run Try.prog w = .ok (.tuple #[v, .bool true]) w := run_assert_yes xT v w Try.underlying83
theorem asN83 (xT T : TypeId) (v : Value) (w : World) (h : T ≠ 83) : (Instr.typeAssert (.iface T v) xT 83 true).run Try.prog w = .ok (.tuple #[.pointer none, .bool false]) w := run_assert_no xT T v w Try.underlying83 (by kernel_rfl) h
theorem asZ83 (xT : TypeId) (w : World) : (Instr.typeAssert .nilIface xT 83 true).run Try.prog w = .ok (.tuple #[.pointer none, .bool false]) w := run_assert_nil xT w Try.underlying83 (by kernel_rfl)
attribute [go_sem] asY83 asN83 asZ83
theorem asY87 (xT : TypeId) (v : Value) (w : World) : (Instr.typeAssert (.iface 87 v) xT 87 true).run Try.prog w = .ok (.tuple #[v, .bool true]) w := run_assert_yes xT v w Try.underlying87
theorem asN87 (xT T : TypeId) (v : Value) (w : World) (h : T ≠ 87) : (Instr.typeAssert (.iface T v) xT 87 true).run Try.prog w = .ok (.tuple #[.pointer none, .bool false]) w := run_assert_no xT T v w Try.underlying87 (by kernel_rfl) h
theorem asZ87 (xT : TypeId) (w : World) : (Instr.typeAssert .nilIface xT 87 true).run Try.prog w = .ok (.tuple #[.pointer none, .bool false]) w := run_assert_nil xT w Try.underlying87 (by kernel_rfl)
attribute [go_sem] asY87 asN87 asZ87
theorem asY157 (xT : TypeId) (v : Value) (w : World) : (Instr.typeAssert (.iface 157 v) xT 157 true).run Try.prog w = .ok (.tuple #[v, .bool true]) w := run_assert_yes xT v w Try.underlying157
theorem asN157 (xT T : TypeId) (v : Value) (w : World) (h : T ≠ 157) : (Instr.typeAssert (.iface T v) xT 157 true).run Try.prog w = .ok (.tuple #[.pointer none, .bool false]) w := run_assert_no xT T v w Try.underlying157 (by kernel_rfl) h
theorem asZ157 (xT : TypeId) (w : World) : (Instr.typeAssert .nilIface xT 157 true).run Try.prog w = .ok (.tuple #[.pointer none, .bool false]) w := run_assert_nil xT w Try.underlying157 (by kernel_rfl)
attribute [go_sem] asY157 asN157 asZ157
theorem asY164 (xT : TypeId) (v : Value) (w : World) : (Instr.typeAssert (.iface 164 v) xT 164 true).run Try.prog w = .ok (.tuple #[v, .bool true]) w := run_assert_yes xT v w Try.underlying164
theorem asN164 (xT T : TypeId) (v : Value) (w : World) (h : T ≠ 164) : (Instr.typeAssert (.iface T v) xT 164 true).run Try.prog w = .ok (.tuple #[.pointer none, .bool false]) w := run_assert_no xT T v w Try.underlying164 (by kernel_rfl) h
theorem asZ164 (xT : TypeId) (w : World) : (Instr.typeAssert .nilIface xT 164 true).run Try.prog w = .ok (.tuple #[.pointer none, .bool false]) w := run_assert_nil xT w Try.underlying164 (by kernel_rfl)
attribute [go_sem] asY164 asN164 asZ164
theorem asY211 (xT : TypeId) (v : Value) (w : World) : (Instr.typeAssert (.iface 211 v) xT 211 true).run Try.prog w = .ok (.tuple #[v, .bool true]) w := run_assert_yes xT v w Try.underlying211
theorem asN211 (xT T : TypeId) (v : Value) (w : World) (h : T ≠ 211) : (Instr.typeAssert (.iface T v) xT 211 true).run Try.prog w = .ok (.tuple #[.pointer none, .bool false]) w := run_assert_no xT T v w Try.underlying211 (by kernel_rfl) h
theorem asZ211 (xT : TypeId) (w : World) : (Instr.typeAssert .nilIface xT 211 true).run Try.prog w = .ok (.tuple #[.pointer none, .bool false]) w := run_assert_nil xT w Try.underlying211 (by kernel_rfl)
attribute [go_sem] asY211 asN211 asZ211
theorem asY215 (xT : TypeId) (v : Value) (w : World) : (Instr.typeAssert (.iface 215 v) xT 215 true).run Try.prog w = .ok (.tuple #[v, .bool true]) w := run_assert_yes xT v w Try.underlying215
theorem asN215 (xT T : TypeId) (v : Value) (w : World) (h : T ≠ 215) : (Instr.typeAssert (.iface T v) xT 215 true).run Try.prog w = .ok (.tuple #[.pointer none, .bool false]) w := run_assert_no xT T v w Try.underlying215 (by kernel_rfl) h
theorem asZ215 (xT : TypeId) (w : World) : (Instr.typeAssert .nilIface xT 215 true).run Try.prog w = .ok (.tuple #[.pointer none, .bool false]) w := run_assert_nil xT w Try.underlying215 (by kernel_rfl)
attribute [go_sem] asY215 asN215 asZ215
theorem asY219 (xT : TypeId) (v : Value) (w : World) : (Instr.typeAssert (.iface 219 v) xT 219 true).run Try.prog w = .ok (.tuple #[v, .bool true]) w := run_assert_yes xT v w Try.underlying219
theorem asN219 (xT T : TypeId) (v : Value) (w : World) (h : T ≠ 219) : (Instr.typeAssert (.iface T v) xT 219 true).run Try.prog w = .ok (.tuple #[.pointer none, .bool false]) w := run_assert_no xT T v w Try.underlying219 (by kernel_rfl) h
theorem asZ219 (xT : TypeId) (w : World) : (Instr.typeAssert .nilIface xT 219 true).run Try.prog w = .ok (.tuple #[.pointer none, .bool false]) w := run_assert_nil xT w Try.underlying219 (by kernel_rfl)
attribute [go_sem] asY219 asN219 asZ219
theorem asY226 (xT : TypeId) (v : Value) (w : World) : (Instr.typeAssert (.iface 226 v) xT 226 true).run Try.prog w = .ok (.tuple #[v, .bool true]) w := run_assert_yes xT v w Try.underlying226
theorem asN226 (xT T : TypeId) (v : Value) (w : World) (h : T ≠ 226) : (Instr.typeAssert (.iface T v) xT 226 true).run Try.prog w = .ok (.tuple #[.pointer none, .bool false]) w := run_assert_no xT T v w Try.underlying226 (by kernel_rfl) h
theorem asZ226 (xT : TypeId) (w : World) : (Instr.typeAssert .nilIface xT 226 true).run Try.prog w = .ok (.tuple #[.pointer none, .bool false]) w := run_assert_nil xT w Try.underlying226 (by kernel_rfl)
attribute [go_sem] asY226 asN226 asZ226
theorem asY229 (xT : TypeId) (v : Value) (w : World) : (Instr.typeAssert (.iface 229 v) xT 229 true).run Try.prog w = .ok (.tuple #[v, .bool true]) w := run_assert_yes xT v w Try.underlying229
theorem asN229 (xT T : TypeId) (v : Value) (w : World) (h : T ≠ 229) : (Instr.typeAssert (.iface T v) xT 229 true).run Try.prog w = .ok (.tuple #[.pointer none, .bool false]) w := run_assert_no xT T v w Try.underlying229 (by kernel_rfl) h
theorem asZ229 (xT : TypeId) (w : World) : (Instr.typeAssert .nilIface xT 229 true).run Try.prog w = .ok (.tuple #[.pointer none, .bool false]) w := run_assert_nil xT w Try.underlying229 (by kernel_rfl)
attribute [go_sem] asY229 asN229 asZ229
theorem asY231 (xT : TypeId) (v : Value) (w : World) : (Instr.typeAssert (.iface 231 v) xT 231 true).run Try.prog w = .ok (.tuple #[v, .bool true]) w := run_assert_yes xT v w Try.underlying231
theorem asN231 (xT T : TypeId) (v : Value) (w : World) (h : T ≠ 231) : (Instr.typeAssert (.iface T v) xT 231 true).run Try.prog w = .ok (.tuple #[.pointer none, .bool false]) w := run_assert_no xT T v w Try.underlying231 (by kernel_rfl) h
theorem asZ231 (xT : TypeId) (w : World) : (Instr.typeAssert .nilIface xT 231 true).run Try.prog w = .ok (.tuple #[.pointer none, .bool false]) w := run_assert_nil xT w Try.underlying231 (by kernel_rfl)
attribute [go_sem] asY231 asN231 asZ231
theorem asY235 (xT : TypeId) (v : Value) (w : World) : (Instr.typeAssert (.iface 235 v) xT 235 true).run Try.prog w = .ok (.tuple #[v, .bool true]) w := run_assert_yes xT v w Try.underlying235
theorem asN235 (xT T : TypeId) (v : Value) (w : World) (h : T ≠ 235) : (Instr.typeAssert (.iface T v) xT 235 true).run Try.prog w = .ok (.tuple #[.pointer none, .bool false]) w := run_assert_no xT T v w Try.underlying235 (by kernel_rfl) h
theorem asZ235 (xT : TypeId) (w : World) : (Instr.typeAssert .nilIface xT 235 true).run Try.prog w = .ok (.tuple #[.pointer none, .bool false]) w := run_assert_nil xT w Try.underlying235 (by kernel_rfl)
attribute [go_sem] asY235 asN235 asZ235
theorem asY238 (xT : TypeId) (v : Value) (w : World) : (Instr.typeAssert (.iface 238 v) xT 238 true).run Try.prog w = .ok (.tuple #[v, .bool true]) w := run_assert_yes xT v w Try.underlying238
theorem asN238 (xT T : TypeId) (v : Value) (w : World) (h : T ≠ 238) : (Instr.typeAssert (.iface T v) xT 238 true).run Try.prog w = .ok (.tuple #[.pointer none, .bool false]) w := run_assert_no xT T v w Try.underlying238 (by kernel_rfl) h
theorem asZ238 (xT : TypeId) (w : World) : (Instr.typeAssert .nilIface xT 238 true).run Try.prog w = .ok (.tuple #[.pointer none, .bool false]) w := run_assert_nil xT w Try.underlying238 (by kernel_rfl)
attribute [go_sem] asY238 asN238 asZ238
theorem asY241 (xT : TypeId) (v : Value) (w : World) : (Instr.typeAssert (.iface 241 v) xT 241 true).run Try.prog w = .ok (.tuple #[v, .bool true]) w := run_assert_yes xT v w Try.underlying241
theorem asN241 (xT T : TypeId) (v : Value) (w : World) (h : T ≠ 241) : (Instr.typeAssert (.iface T v) xT 241 true).run Try.prog w = .ok (.tuple #[.pointer none, .bool false]) w := run_assert_no xT T v w Try.underlying241 (by kernel_rfl) h
theorem asZ241 (xT : TypeId) (w : World) : (Instr.typeAssert .nilIface xT 241 true).run Try.prog w = .ok (.tuple #[.pointer none, .bool false]) w := run_assert_nil xT w Try.underlying241 (by kernel_rfl)
attribute [go_sem] asY241 asN241 asZ241
theorem asY243 (xT : TypeId) (v : Value) (w : World) : (Instr.typeAssert (.iface 243 v) xT 243 true).run Try.prog w = .ok (.tuple #[v, .bool true]) w := run_assert_yes xT v w Try.underlying243
theorem asN243 (xT T : TypeId) (v : Value) (w : World) (h : T ≠ 243) : (Instr.typeAssert (.iface T v) xT 243 true).run Try.prog w = .ok (.tuple #[.pointer none, .bool false]) w := run_assert_no xT T v w Try.underlying243 (by kernel_rfl) h
theorem asZ243 (xT : TypeId) (w : World) : (Instr.typeAssert .nilIface xT 243 true).run Try.prog w = .ok (.tuple #[.pointer none, .bool false]) w := run_assert_nil xT w Try.underlying243 (by kernel_rfl)
attribute [go_sem] asY243 asN243 asZ243
theorem asY249 (xT : TypeId) (v : Value) (w : World) : (Instr.typeAssert (.iface 249 v) xT 249 true).run Try.prog w = .ok (.tuple #[v, .bool true]) w := run_assert_yes xT v w Try.underlying249
theorem asN249 (xT T : TypeId) (v : Value) (w : World) (h : T ≠ 249) : (Instr.typeAssert (.iface T v) xT 249 true).run Try.prog w = .ok (.tuple #[.pointer none, .bool false]) w := run_assert_no xT T v w Try.underlying249 (by kernel_rfl) h
theorem asZ249 (xT : TypeId) (w : World) : (Instr.typeAssert .nilIface xT 249 true).run Try.prog w = .ok (.tuple #[.pointer none, .bool false]) w := run_assert_nil xT w Try.underlying249 (by kernel_rfl)
attribute [go_sem] asY249 asN249 asZ249
theorem asY289 (xT : TypeId) (v : Value) (w : World) : (Instr.typeAssert (.iface 289 v) xT 289 true).run Try.prog w = .ok (.tuple #[v, .bool true]) w := run_assert_yes xT v w Try.underlying289
theorem asN289 (xT T : TypeId) (v : Value) (w : World) (h : T ≠ 289) : (Instr.typeAssert (.iface T v) xT 289 true).run Try.prog w = .ok (.tuple #[.pointer none, .bool false]) w := run_assert_no xT T v w Try.underlying289 (by kernel_rfl) h
theorem asZ289 (xT : TypeId) (w : World) : (Instr.typeAssert .nilIface xT 289 true).run Try.prog w = .ok (.tuple #[.pointer none, .bool false]) w := run_assert_nil xT w Try.underlying289 (by kernel_rfl)
attribute [go_sem] asY289 asN289 asZ289
theorem asY293 (xT : TypeId) (v : Value) (w : World) : (Instr.typeAssert (.iface 293 v) xT 293 true).run Try.prog w = .ok (.tuple #[v, .bool true]) w := run_assert_yes xT v w Try.underlying293
theorem asN293 (xT T : TypeId) (v : Value) (w : World) (h : T ≠ 293) : (Instr.typeAssert (.iface T v) xT 293 true).run Try.prog w = .ok (.tuple #[.pointer none, .bool false]) w := run_assert_no xT T v w Try.underlying293 (by kernel_rfl) h
theorem asZ293 (xT : TypeId) (w : World) : (Instr.typeAssert .nilIface xT 293 true).run Try.prog w = .ok (.tuple #[.pointer none, .bool false]) w := run_assert_nil xT w Try.underlying293 (by kernel_rfl)
attribute [go_sem] asY293 asN293 asZ293
theorem asY298 (xT : TypeId) (v : Value) (w : World) : (Instr.typeAssert (.iface 298 v) xT 298 true).run Try.prog w = .ok (.tuple #[v, .bool true]) w := run_assert_yes xT v w Try.underlying298
theorem asN298 (xT T : TypeId) (v : Value) (w : World) (h : T ≠ 298) : (Instr.typeAssert (.iface T v) xT 298 true).run Try.prog w = .ok (.tuple #[.pointer none, .bool false]) w := run_assert_no xT T v w Try.underlying298 (by kernel_rfl) h
theorem asZ298 (xT : TypeId) (w : World) : (Instr.typeAssert .nilIface xT 298 true).run Try.prog w = .ok (.tuple #[.pointer none, .bool false]) w := run_assert_nil xT w Try.underlying298 (by kernel_rfl)
attribute [go_sem] asY298 asN298 asZ298
theorem asY302 (xT : TypeId) (v : Value) (w : World) : (Instr.typeAssert (.iface 302 v) xT 302 true).run Try.prog w = .ok (.tuple #[v, .bool true]) w := run_assert_yes xT v w Try.underlying302
theorem asN302 (xT T : TypeId) (v : Value) (w : World) (h : T ≠ 302) : (Instr.typeAssert (.iface T v) xT 302 true).run Try.prog w = .ok (.tuple #[.pointer none, .bool false]) w := run_assert_no xT T v w Try.underlying302 (by kernel_rfl) h
theorem asZ302 (xT : TypeId) (w : World) : (Instr.typeAssert .nilIface xT 302 true).run Try.prog w = .ok (.tuple #[.pointer none, .bool false]) w := run_assert_nil xT w Try.underlying302 (by kernel_rfl)
attribute [go_sem] asY302 asN302 asZ302
theorem asY364 (xT : TypeId) (v : Value) (w : World) : (Instr.typeAssert (.iface 364 v) xT 364 true).run Try.prog w = .ok (.tuple #[v, .bool true]) w := run_assert_yes xT v w Try.underlying364
theorem asN364 (xT T : TypeId) (v : Value) (w : World) (h : T ≠ 364) : (Instr.typeAssert (.iface T v) xT 364 true).run Try.prog w = .ok (.tuple #[.pointer none, .bool false]) w := run_assert_no xT T v w Try.underlying364 (by kernel_rfl) h
theorem asZ364 (xT : TypeId) (w : World) : (Instr.typeAssert .nilIface xT 364 true).run Try.prog w = .ok (.tuple #[.pointer none, .bool false]) w := run_assert_nil xT w Try.underlying364 (by kernel_rfl)
attribute [go_sem] asY364 asN364 asZ364
theorem asY500 (xT : TypeId) (v : Value) (w : World) : (Instr.typeAssert (.iface 500 v) xT 500 true).run Try.prog w = .ok (.tuple #[v, .bool true]) w := run_assert_yes xT v w Try.underlying500
theorem asN500 (xT T : TypeId) (v : Value) (w : World) (h : T ≠ 500) : (Instr.typeAssert (.iface T v) xT 500 true).run Try.prog w = .ok (.tuple #[.pointer none, .bool false]) w := run_assert_no xT T v w Try.underlying500 (by kernel_rfl) h
theorem asZ500 (xT : TypeId) (w : World) : (Instr.typeAssert .nilIface xT 500 true).run Try.prog w = .ok (.tuple #[.pointer none, .bool false]) w := run_assert_nil xT w Try.underlying500 (by kernel_rfl)
attribute [go_sem] asY500 asN500 asZ500
end Go.Proofs.Ytflfeffbckleaaa
