/- The contracts of 'storeNameInRef', 'NewDeferLog' and the parser's making. No conditions beyond the hypotheses. -/
import Derived.Test.YtoalhglknldpnaaLib
import Derived.Test.YtoalhglknldpnaaRows
import Derived.Test.YtoalhglknldpnaaAsserts
import Derived.Deep.RegionLaw
import Derived.Deep.RegionWith
import Derived.Deep.AppendLies
namespace Go.Proofs.Ytoalhglknldpnaa.df
open Go.ChangeShapes Go.WideShapes Go.ChangeAt Go.RowKit Go.Mine
set_option linter.unusedVariables false
set_option linter.unusedSimpArgs false
set_option maxRecDepth 100000

@[go_sem] theorem run_store_func (P : Program) (w : World) (a : Addr) (m : Mode) (f : Fn) (x c : Array Value) : (store a (.func f x c) m).run P w = stored P w a (.func f x c) m := run_store P w a _ m rfl
theorem c23 (w : World) : Calls Try.prog 23 #[.agg #[.int .u32 0]] w fun e w' => e = .returned (.bool false) ∧ w' = w.alloc (.cells #[.int .u32 0] 51) := by
  go_enter Try.func23, Try.ntmps23
  go_wp2
  go_ret
  exact ⟨rfl, rfl⟩
/-- What 'NewDeferLog' hands back: four closures over boxes that begin at n. -/
abbrev logV (n : Nat) : Value := .agg #[.func (.func 16) #[] #[.pointer (some ⟨n, 0, none⟩), .pointer (some ⟨n + 1 + 1 + 1, 0, none⟩), .pointer (some ⟨n + 1 + 1 + 1 + 1, 0, none⟩), .pointer (some ⟨n + 1 + 1, 0, none⟩)],
  .func (.func 19) #[] #[.pointer (some ⟨n + 1 + 1 + 1, 0, none⟩), .pointer (some ⟨n + 1 + 1 + 1 + 1, 0, none⟩)], .func (.func 20) #[] #[.pointer (some ⟨n + 1 + 1 + 1, 0, none⟩), .pointer (some ⟨n + 1 + 1, 0, none⟩)],
  .func (.func 21) #[] #[.pointer (some ⟨n + 1 + 1 + 1, 0, none⟩), .pointer (some ⟨n + 1 + 1, 0, none⟩)], .int .i8 3, .map none]
set_option maxHeartbeats 2000000 in
theorem c12 (w : World) : Calls Try.prog 12 #[.int .u8 0, .map none] w fun e w' => e = .returned (logV w.heap.size) ∧ Below w.heap.size w w' := by
  go_enter Try.func12, Try.ntmps12
  go_wp2
  refine bodyPost_ret (v := logV w.heap.size) (by simp [results, Try.results12, go_sem]; try rfl) rfl ⟨rfl, ?_⟩
  (repeat (first | with_reducible exact Below.refl _ _ | with_reducible refine Below.drew ?_ | with_reducible refine Below.alloc ?_ (by simp <;> omega) _ | with_reducible refine Below.setCell ?_ (by simp <;> omega) _))
theorem wp_buildTo {P : Program} {o : Oper} {a : Act} {w : World} {K : Act → World → Prop} {Q : Exit → Act → World → Prop} (t : TypeId) (parts : Array (Nat × Operand)) (ho : o.op = .build t parts) (cells : Array Value)
    (hf : P.built t (parts.map fun (i, x) => (i, a.eval x)).toList = some cells) (h : K (a.put o.dst (.agg cells)) w) : o.wp P a w K Q :=
  wp_build t parts ho (by rw [hf]; rfl) (by rw [hf]; exact h)
noncomputable def lexC : Array Value := (Try.prog.built 80 [(32, .int .u8 0)]).getD #[]
theorem lexB : Try.prog.built 80 [(32, .int .u8 0)] = some lexC := by
  have h : (Try.prog.built 80 [(32, .int .u8 0)]).isSome = true := by kernel_rfl
  obtain ⟨c, hc⟩ := Option.isSome_iff_exists.1 h
  unfold lexC
  rw [hc]
  rfl
noncomputable def parC (n : Nat) : Array Value := (Try.prog.built 160 [(1, logV n), (68, .agg lexC), (99, .bool false)]).getD #[]
theorem parB (n : Nat) : Try.prog.built 160 [(1, logV n), (68, .agg lexC), (99, .bool false)] = some (parC n) := by
  have h : (Try.prog.built 160 [(1, logV n), (68, .agg lexC), (99, .bool false)]).isSome = true := by kernel_rfl
  obtain ⟨c, hc⟩ := Option.isSome_iff_exists.1 h
  unfold parC
  rw [hc]
  rfl
theorem par103 (n : Nat) : (parC n)[103]? = some (.slice none 0 0) := by kernel_rfl
/-- What is known of the parser: its field 'allocatedNames' holds a row of its own. -/
structure PS (lo p : Nat) (a : Option Addr) (n c : Nat) (w : World) : Prop where
  own : ∃ xs, w.ownsRow lo 9 1 (.slice a n c) n xs
  blk : ∃ C, Blk w p C 160 ∧ C[103]? = some (.slice a n c)
  ge : lo ≤ p
set_option maxHeartbeats 2000000 in
theorem c5 (w : World) : Calls Try.prog 5 #[.bool false, .int .u8 0] w fun e w' => ∃ p, e = .returned (.pointer (some ⟨p, 0, none⟩)) ∧ PS w.heap.size p none 0 0 w' ∧ Below w.heap.size w w' := by
  go_enter Try.func5, Try.ntmps5
  go_wp2_with (first | (go_at_call 12; refine (c12 _).mono ?_; rintro e w1 ⟨rfl, hb⟩))
  have HB := Lib.hid hb
  clear hb
  refine wp_buildTo 80 _ rfl lexC (by kernel_rfl) ?_
  go_wp2_with fail
  refine wp_buildTo 160 _ rfl (parC w.heap.size) (by kernel_rfl) ?_
  have h103 := Lib.hid (par103 w.heap.size)
  generalize parC w.heap.size = C at *
  go_wp2_with fail
  go_ret
  exact ⟨_, rfl, ⟨⟨[], World.ownsRow_nil _ _ _ _⟩, ⟨C, Blk.new _ _ _, h103.out⟩, HB.out.size⟩, HB.out.alloc HB.out.size _⟩
end Go.Proofs.Ytoalhglknldpnaa.df
