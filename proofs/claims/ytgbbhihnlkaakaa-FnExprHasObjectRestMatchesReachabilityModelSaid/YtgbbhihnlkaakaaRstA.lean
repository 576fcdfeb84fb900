/- Rows of ints and flags that a loop writes, and the contracts of 'zzAt', 'zzFlag' and 'zzExprShape'. No conditions beyond the hypotheses. -/
import Derived.Test.YtgbbhihnlkaakaaRows
import Derived.Test.YtgbbhihnlkaakaaLib
import Derived.Test.YtgbbhihnlkaakaaRstP
import Derived.OwnWalk
import Derived.Laws.MakeOwn
import Derived.BigQuiet
namespace Go.Proofs.Ytgbbhihnlkaakaa.rst
open Go.ChangeShapes Go.WideShapes Go.ChangeAt Go.RowKit Go.Mine
set_option linter.unusedVariables false
set_option linter.unusedSimpArgs false
set_option maxRecDepth 100000

/-- A row of n cells in a block of its own. -/
def FRow {α : Type} (mk : α → Value) (w : World) (q n : Nat) (f : Nat → α) (t : TypeId) : Prop := ∃ C, Blk w q C t ∧ C.size = n ∧ ∀ i, i < n → C[i]? = some (mk (f i))
section
variable {α : Type} {mk : α → Value} {w w' : World} {q n : Nat} {f : Nat → α} {t : TypeId}
theorem FRow.lt (h : FRow mk w q n f t) : q < w.heap.size := by obtain ⟨C, h, _⟩ := h; exact h.lt
theorem FRow.cell (h : FRow mk w q n f t) {i : Nat} (hi : i < n) : w.cell? ⟨q, i, none⟩ = some (mk (f i)) := by obtain ⟨C, h, _, h2⟩ := h; rw [h.cell, h2 i hi]
theorem FRow.free (h : FRow mk w q n f t) (i : Nat) : w.frozen? ⟨q, i, none⟩ = false := by obtain ⟨C, h, _⟩ := h; exact h.free i
theorem FRow.set (h : FRow mk w q n f t) (i : Nat) (v : α) : FRow mk (w.setCell ⟨q, i, none⟩ (mk v)) q n (fun j => if j = i then v else f j) t := by
  obtain ⟨C, h, hs, h2⟩ := h
  refine ⟨_, h.set i (mk v), by simpa using hs, fun j hj => ?_⟩
  rw [Array.getElem?_setIfInBounds]
  by_cases e : j = i
  · subst e; rw [if_pos rfl, if_pos (by omega)]; simp
  · rw [if_neg (fun e' => e e'.symm), h2 j hj]; simp [e]
theorem FRow.setOther (h : FRow mk w q n f t) {a : Addr} (ha : q ≠ a.block) (u : Value) : FRow mk (w.setCell a u) q n f t := by obtain ⟨C, h, h2⟩ := h; exact ⟨C, h.setOther ha u, h2⟩
theorem FRow.alloc (h : FRow mk w q n f t) (o : Obj) : FRow mk (w.alloc o) q n f t := by obtain ⟨C, h, h2⟩ := h; exact ⟨C, h.alloc o, h2⟩
theorem FRow.below (h : FRow mk w q n f t) (hb : Below w.heap.size w w') : FRow mk w' q n f t := by obtain ⟨C, h, h2⟩ := h; exact ⟨C, h.below hb, h2⟩
theorem FRow.kept (h : FRow mk w q n f t) (hb : w'.heap[q]? = w.heap[q]?) : FRow mk w' q n f t := by obtain ⟨C, h, h2⟩ := h; exact ⟨C, hb.trans h, h2⟩
theorem FRow.congr (h : FRow mk w q n f t) {g : Nat → α} (hg : ∀ i, i < n → g i = f i) : FRow mk w q n g t := by
  obtain ⟨C, h, hs, h2⟩ := h
  exact ⟨C, h, hs, fun i hi => by rw [h2 i hi, hg i hi]⟩
end
theorem frow_new {α : Type} (mk : α → Value) (w : World) (n : Nat) (z : α) (t : TypeId) : FRow mk (w.alloc (.cells (madeCells #[mk z] n) t)) w.heap.size n (fun _ => z) t := by
  refine ⟨_, Blk.new _ _ _, size_madeCells _ _, fun i hi => ?_⟩
  have e : (madeCells #[mk z] n)[i]? = (madeCells #[mk z] n).toList[i]? := by simp
  rw [e, toList_madeCells_one, List.getElem?_replicate, if_pos hi]
theorem infoInt : (Try.prog.info? 3).map (fun i => (i.zero, i.size, i.bytes)) = some (some (.int .i64 0), 1, 8) := by kernel_rfl
theorem infoBool : (Try.prog.info? 4).map (fun i => (i.zero, i.size, i.bytes)) = some (some (.bool false), 1, 1) := by kernel_rfl
theorem makeInt (n : Nat) (hn : n ≤ 1048576) (w : World) : (Instr.makeSlice 26 (.int .i64 (n : Int)) (.int .i64 (n : Int))).run Try.prog w = .ok (.slice (some ⟨w.heap.size, 0, none⟩) n n) (w.alloc (.cells (madeCells #[.int .i64 0] n) 3)) := by
  obtain ⟨i0, hi, hz0, hz1, hz2⟩ := info_parts infoInt
  have hr := run_make (P := Try.prog) w 26 3 i0 _ Try.underlying26 hi hz0 .i64 .i64 n n (by omega) (Int.le_refl _) (by rw [hz2]; omega) (by omega)
  rw [hz1] at hr
  simpa [Value.cells] using hr
theorem makeBool (n : Nat) (hn : n ≤ 1048576) (w : World) : (Instr.makeSlice 24 (.int .i64 (n : Int)) (.int .i64 (n : Int))).run Try.prog w = .ok (.slice (some ⟨w.heap.size, 0, none⟩) n n) (w.alloc (.cells (madeCells #[.bool false] n) 4)) := by
  obtain ⟨i0, hi, hz0, hz1, hz2⟩ := info_parts infoBool
  have hr := run_make (P := Try.prog) w 24 4 i0 _ Try.underlying24 hi hz0 .i64 .i64 n n (by omega) (Int.le_refl _) (by rw [hz2]; omega) (by omega)
  rw [hz1] at hr
  simpa [Value.cells] using hr
theorem at9 (a : Option Addr) (l c : Nat) (z : List Int) (i : Nat) (w : World) (h : IntRow .i32 w a l c z) : Calls Try.prog 9 #[.slice a l c, .int .i64 (i : Int)] w fun e w' => (∃ x : Int, e = .returned (.int .i32 x) ∧ -2147483648 ≤ x ∧ x ≤ 2147483647) ∧ w' = w := by
  by_cases hlt : i < l
  · obtain ⟨b, off, ea, hb, hc⟩ := h.at hlt
    subst ea
    obtain ⟨x, hx⟩ : ∃ x, x = z.getD i 0 := ⟨_, rfl⟩
    rw [← hx] at hc
    obtain ⟨q, ex⟩ := elt_of h hlt hx
    have hx0 := (bounds_i32 (h.2.2.2.1 _ (List.getElem_mem q)))
    rw [← ex] at hx0
    clear h hx ex q
    go_enter Try.func9, Try.ntmps9
    go_wp2
    go_ret
    exact ⟨⟨x, rfl, hx0⟩, rfl⟩
  · clear h
    go_enter Try.func9, Try.ntmps9
    go_wp2
    go_ret
    exact ⟨⟨0, rfl, by decide, by decide⟩, rfl⟩
theorem flag10 (a : Option Addr) (l c : Nat) (z : List Bool) (i : Nat) (w : World) (h : BoolRow w a l c z) : Calls Try.prog 10 #[.slice a l c, .int .i64 (i : Int)] w fun e w' => e = .returned (.bool (z.getD i false)) ∧ w' = w := by
  by_cases hlt : i < l
  · obtain ⟨b, off, ea, hb, hc⟩ := h.at hlt
    subst ea
    obtain ⟨x, hx⟩ : ∃ x, x = z.getD i false := ⟨_, rfl⟩
    rw [← hx] at hc ⊢
    clear h hx
    go_enter Try.func10, Try.ntmps10
    go_wp2
    go_ret
    exact ⟨rfl, rfl⟩
  · have e : z.getD i false = false := by rw [List.getD_eq_getElem?_getD, List.getElem?_eq_none (by rw [h.1]; omega)]; rfl
    rw [e]
    clear h
    go_enter Try.func10, Try.ntmps10
    go_wp2
    go_ret
    exact ⟨rfl, rfl⟩
end Go.Proofs.Ytgbbhihnlkaakaa.rst
