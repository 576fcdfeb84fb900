/- The contracts of the parser's making, of its readers and of 'CommentTextWithoutIndent' at a text that is no block comment. No conditions beyond the hypotheses. -/
import Derived.Test.YtpahhgeliaeniaaDoorRows
import Derived.Test.YtpahhgeliaeniaaDoorLib
import Derived.Outline
import Derived.Deep.QuietTactic
import Derived.BigQuiet
namespace Go.Proofs.YtpahhgeliaeniaaDoor.sav
open Go.ChangeShapes Go.WideShapes Go.ChangeAt Go.RowKit Go.Mine
set_option linter.unusedVariables false
set_option linter.unusedSimpArgs false
set_option maxRecDepth 100000

theorem wp_buildTo {P : Program} {o : Oper} {a : Act} {w : World} {K : Act → World → Prop} {Q : Exit → Act → World → Prop} (t : TypeId) (parts : Array (Nat × Operand)) (ho : o.op = .build t parts) (cells : Array Value)
    (hf : P.built t (parts.map fun (i, x) => (i, a.eval x)).toList = some cells) (h : K (a.put o.dst (.agg cells)) w) : o.wp P a w K Q :=
  wp_build t parts ho (by rw [hf]; rfl) (by rw [hf]; exact h)
/-- The parser's cells that are read: the source's text, the map, the lexer's comments, its start. -/
structure Par (p : Nat) (c : ByteArray) (mv : Option Nat) (a : Option Addr) (n k : Nat) (w : World) : Prop where
  blk : ∃ C, Blk w p C 160 ∧ C[60]? = some (.string c) ∧ C[113]? = some (.map mv) ∧ C[202]? = some (.slice a n k) ∧ C[254]? = some (.int .i64 0)
theorem Par.below {p n k : Nat} {c : ByteArray} {mv : Option Nat} {a : Option Addr} {w w' : World} (h : Par p c mv a n k w) (hb : Below w.heap.size w w') : Par p c mv a n k w' := by
  obtain ⟨C, h1, h2⟩ := h.blk
  exact ⟨C, h1.below hb, h2⟩
theorem Par.same {p n k : Nat} {c : ByteArray} {mv : Option Nat} {a : Option Addr} {w w' : World} {X : Nat → Prop} (h : Par p c mv a n k w) (hb : Same X w w') (hp : ¬ X p) : Par p c mv a n k w' := by
  obtain ⟨C, h1, h2⟩ := h.blk
  exact ⟨C, h1.same hb hp, h2⟩
theorem Par.lt {p n k : Nat} {c : ByteArray} {mv : Option Nat} {a : Option Addr} {w : World} (h : Par p c mv a n k w) : p < w.heap.size := by
  obtain ⟨C, h1, h2⟩ := h.blk
  exact h1.lt
theorem Par.text {p n k : Nat} {c : ByteArray} {mv : Option Nat} {a : Option Addr} {w : World} (h : Par p c mv a n k w) : w.cell? ⟨p, 60, none⟩ = some (.string c) := by
  obtain ⟨C, h1, h2, h3, h4, h5⟩ := h.blk
  rw [h1.cell, h2]
theorem Par.map {p n k : Nat} {c : ByteArray} {mv : Option Nat} {a : Option Addr} {w : World} (h : Par p c mv a n k w) : w.cell? ⟨p, 113, none⟩ = some (.map mv) := by
  obtain ⟨C, h1, h2, h3, h4, h5⟩ := h.blk
  rw [h1.cell, h3]
theorem Par.com {p n k : Nat} {c : ByteArray} {mv : Option Nat} {a : Option Addr} {w : World} (h : Par p c mv a n k w) : w.cell? ⟨p, 202, none⟩ = some (.slice a n k) := by
  obtain ⟨C, h1, h2, h3, h4, h5⟩ := h.blk
  rw [h1.cell, h4]
theorem Par.start {p n k : Nat} {c : ByteArray} {mv : Option Nat} {a : Option Addr} {w : World} (h : Par p c mv a n k w) : w.cell? ⟨p, 254, none⟩ = some (.int .i64 0) := by
  obtain ⟨C, h1, h2, h3, h4, h5⟩ := h.blk
  rw [h1.cell, h5]
theorem Par.free {p n k : Nat} {c : ByteArray} {mv : Option Nat} {a : Option Addr} {w : World} (h : Par p c mv a n k w) (o : Nat) : w.frozen? ⟨p, o, none⟩ = false := by
  obtain ⟨C, h1, _⟩ := h.blk
  exact h1.free o
theorem Par.put {p n k : Nat} {c : ByteArray} {mv : Option Nat} {a : Option Addr} {w : World} (h : Par p c mv a n k w) (a' : Option Addr) (n' k' : Nat) : Par p c mv a' n' k' (w.setCell ⟨p, 202, none⟩ (.slice a' n' k')) := by
  obtain ⟨C, h1, h2, h3, h4, h5⟩ := h.blk
  have hl : 202 < C.size := (Array.getElem?_eq_some_iff.1 h4).1
  refine ⟨_, h1.set 202 _, ?_, ?_, ?_, ?_⟩
  · rw [Array.getElem?_setIfInBounds_ne (by decide)]; exact h2
  · rw [Array.getElem?_setIfInBounds_ne (by decide)]; exact h3
  · rw [Array.getElem?_setIfInBounds_self_of_lt hl]
  · rw [Array.getElem?_setIfInBounds_ne (by decide)]; exact h5

noncomputable def srcC : Array Value := (Tryd.prog.built 48 []).getD #[]
noncomputable def parC (c : ByteArray) (mv : Option Nat) : Array Value := (Tryd.prog.built 160 [(2, .agg ((Tryd.prog.built 48 [(2, .string c)]).getD #[])), (16, .map mv)]).getD #[]
theorem srcB (c : ByteArray) : ∃ C, Tryd.prog.built 48 [(2, .string c)] = some C := by
  have h : (Tryd.prog.built 48 [(2, .string c)]).isSome = true := by kernel_rfl
  exact Option.isSome_iff_exists.1 h
theorem parB (c : ByteArray) (mv : Option Nat) : Tryd.prog.built 160 [(2, .agg ((Tryd.prog.built 48 [(2, .string c)]).getD #[])), (16, .map mv)] = some (parC c mv) := by
  have h : (Tryd.prog.built 160 [(2, .agg ((Tryd.prog.built 48 [(2, .string c)]).getD #[])), (16, .map mv)]).isSome = true := by kernel_rfl
  obtain ⟨C, hc⟩ := Option.isSome_iff_exists.1 h
  unfold parC
  rw [hc]
  rfl
theorem parC_at (c : ByteArray) (mv : Option Nat) : (parC c mv)[60]? = some (.string c) ∧ (parC c mv)[113]? = some (.map mv) ∧ (parC c mv)[202]? = some (.slice none 0 0) ∧ (parC c mv)[254]? = some (.int .i64 0) :=
  ⟨by kernel_rfl, by kernel_rfl, by kernel_rfl, by kernel_rfl⟩
theorem parC_par (c : ByteArray) (mv : Option Nat) (w : World) : Par w.heap.size c mv none 0 0 (w.alloc (.cells (parC c mv) 160)) := ⟨_, Blk.new _ _ _, parC_at c mv⟩
def Made (c : ByteArray) (mv : Option Nat) (a : Option Addr) (n k : Nat) (w : World) (e : Ending) (w' : World) : Prop :=
  e = .returned (.pointer (some ⟨w.heap.size, 0, none⟩)) ∧ Par w.heap.size c mv a n k w' ∧ Below w.heap.size w w'
set_option maxHeartbeats 2000000 in
theorem made6 (c : ByteArray) (mv : Option Nat) (a : Option Addr) (n k : Nat) (w : World) : Calls Tryd.prog 6 #[.string c, .slice a n k, .map mv] w (Made c mv a n k w) := by
  have hp := parC_par c mv w
  have hpB := parB c mv
  have hb : Below w.heap.size w (w.alloc (.cells (parC c mv) 160)) := (Below.refl _ _).alloc (Nat.le_refl _) _
  go_enter Tryd.func6, Tryd.ntmps6
  go_wp2_with fail
  refine wp_buildTo 160 _ rfl (parC c mv) ?_ ?_
  · clear hp hpB hb
    kernel_rfl
  clear hpB
  have HP := Lib.hid hp
  have HB := Lib.hid hb
  clear hp hb
  generalize parC c mv = PC at *
  go_upto_region 2 with fail
  generalize w.alloc (.cells PC 160) = W at *
  have h1 := HP.out.com
  have h2 := HP.out.free 202
  have HQ : Hid (Par w.heap.size c mv a n k (W.setCell ⟨w.heap.size, 202, none⟩ (.slice a n k))) := Lib.hid (HP.out.put a n k)
  have HB2 : Hid (Below w.heap.size w (W.setCell ⟨w.heap.size, 202, none⟩ (.slice a n k))) := Lib.hid (HB.out.setCell (p := ⟨w.heap.size, 202, none⟩) (Nat.le_refl _) _)
  go_wp2_with fail
  go_ret
  exact ⟨rfl, HQ.out, HB2.out⟩

theorem com8 (p n k : Nat) (c : ByteArray) (mv : Option Nat) (a : Option Addr) (w : World) (h : Par p c mv a n k w) : Calls Tryd.prog 8 #[.pointer (some ⟨p, 0, none⟩)] w fun e w' => e = .returned (.map mv) ∧ w = w' := by
  have h1 := h.map
  clear h
  go_enter Tryd.func8, Tryd.ntmps8
  go_wp2
  go_ret
  exact ⟨rfl, rfl⟩
theorem lex9 (p n k : Nat) (c : ByteArray) (mv : Option Nat) (a : Option Addr) (w : World) (h : Par p c mv a n k w) : Calls Tryd.prog 9 #[.pointer (some ⟨p, 0, none⟩)] w fun e w' => e = .returned (.slice a n k) ∧ w = w' := by
  have h1 := h.com
  clear h
  go_enter Tryd.func9, Tryd.ntmps9
  go_wp2
  go_ret
  exact ⟨rfl, rfl⟩
set_option maxHeartbeats 1000000 in
theorem loc11 (p n k : Nat) (c : ByteArray) (mv : Option Nat) (a : Option Addr) (w : World) (h : Par p c mv a n k w) : Calls Tryd.prog 11 #[.pointer (some ⟨p, 201, none⟩)] w fun e w' => e = .returned (.agg #[.int .i32 0]) ∧ Below w.heap.size w w' := by
  have h1 := (h.below ((Below.refl _ _).alloc (Nat.le_refl _) (.cells #[.int .i32 0] 28))).start
  have hb : Below w.heap.size w ((w.alloc (.cells #[.int .i32 0] 28)).setCell ⟨w.heap.size, 0, none⟩ (.int .i32 0)) := ((Below.refl _ _).alloc (Nat.le_refl _) _).setCell (p := ⟨w.heap.size, 0, none⟩) (Nat.le_refl _) _
  have HB := Lib.hid hb
  clear h hb
  go_enter Tryd.func11, Tryd.ntmps11
  go_wp2
  refine bodyPost_ret (v := .agg #[.int .i32 0]) (by simp [results, Tryd.results11, go_sem]; try (first | exact ⟨rfl, rfl⟩ | rfl)) rfl ⟨rfl, ?_⟩
  repeat (first | with_reducible exact Below.refl _ _ | with_reducible refine Below.drew ?_ | with_reducible refine Below.alloc ?_ (by simp <;> omega) _ | with_reducible refine Below.setCell ?_ (by simp <;> omega) _)
theorem end13 (s l : Int) (h0 : 0 ≤ s) (h1 : 0 ≤ l) (h2 : s + l ≤ 65536) (w : World) : Calls Tryd.prog 13 #[.agg #[.int .i32 s, .int .i32 l]] w fun e w' => e = .returned (.int .i32 (s + l)) ∧ w' = w.alloc (.cells #[.int .i32 s, .int .i32 l] 30) := by
  go_enter Tryd.func13, Tryd.ntmps13
  go_wp2
  go_ret
  exact ⟨by go_num, rfl⟩
def star : ByteArray := ⟨#[47, 42]⟩
theorem pre17 (T : ByteArray) (w : World) (hz : T.size ≤ 1048576) (h2 : 2 ≤ T.size) (hn : ((T.extract 0 2).toList == [47, 42]) = false) : Calls Tryd.prog 17 #[.string T, .string star] w fun e w' => e = .returned (.bool false) ∧ w = w' := by
  unfold star
  go_enter Tryd.func17, Tryd.ntmps17
  go_wp2
  go_ret
  exact ⟨rfl, rfl⟩
theorem pre14 (T : ByteArray) (w : World) (hz : T.size ≤ 1048576) (h2 : 2 ≤ T.size) (hn : ((T.extract 0 2).toList == [47, 42]) = false) : Calls Tryd.prog 14 #[.string T, .string star] w fun e w' => e = .returned (.bool false) ∧ w = w' := by
  have H := Lib.hid (fun w => pre17 T w hz h2 hn)
  clear hn
  unfold star at *
  go_enter Tryd.func14, Tryd.ntmps14
  go_wp2_with (first | (go_at_call 17; (with_reducible refine (H.out _).mono ?_); rintro e w1 ⟨rfl, rfl⟩))
  go_ret
  exact ⟨rfl, rfl⟩
end Go.Proofs.YtpahhgeliaeniaaDoor.sav
