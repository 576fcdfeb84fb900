/- The contract of 'saveExprCommentsHere'. No conditions beyond the hypotheses. -/
import Derived.Test.YtpahhgeliaeniaaDoorSavC
import Derived.Maps.OwnOps
namespace Go.Proofs.YtpahhgeliaeniaaDoor.sav
open Go.ChangeShapes Go.WideShapes Go.ChangeAt Go.RowKit Go.Mine Go.Maps
set_option linter.unusedVariables false
set_option linter.unusedSimpArgs false
set_option maxRecDepth 100000

theorem info9 : (Tryd.prog.info? 9).map (fun i => (i.zero, i.size, i.bytes)) = some (some (.string ⟨#[]⟩), 1, 16) := by kernel_rfl
theorem info30 : (Tryd.prog.info? 30).map (fun i => (i.zero, i.size, i.bytes)) = some (some (.agg #[.int .i32 0, .int .i32 0]), 2, 8) := by kernel_rfl
theorem mk32 (n : Nat) (hn : n ≤ 4096) (w : World) : (Instr.makeSlice 32 (.int .i64 n) (.int .i64 n)).run Tryd.prog w = .ok (.slice (some ⟨w.heap.size, 0, none⟩) n n) (w.alloc (.cells (madeCells #[.string ⟨#[]⟩] n) 9)) := by
  obtain ⟨i, hi, hz0, hz1, hz2⟩ := info_parts info9
  have h := run_make (P := Tryd.prog) w 32 9 i (.string ⟨#[]⟩) Tryd.underlying32 hi hz0 .i64 .i64 n n (by omega) (by omega) (by rw [hz2]; omega) (by omega)
  rw [h, hz1]
  simp [Value.cells]
theorem mk24 (n : Nat) (hn : n ≤ 4096) (w : World) : (Instr.makeSlice 24 (.int .i64 n) (.int .i64 n)).run Tryd.prog w = .ok (.slice (some ⟨w.heap.size, 0, none⟩) n n) (w.alloc (.cells (madeCells #[.int .i32 0, .int .i32 0] (n * 2)) 30)) := by
  obtain ⟨i, hi, hz0, hz1, hz2⟩ := info_parts info30
  have h := run_make (P := Tryd.prog) w 24 30 i (.agg #[.int .i32 0, .int .i32 0]) Tryd.underlying24 hi hz0 .i64 .i64 n n (by omega) (by omega) (by rw [hz2]; omega) (by omega)
  rw [h, hz1]
  simp [Value.cells]
theorem qN (w : World) (r : Option Nat) : (binOp .neq 31 (.map r) (.map none)).run Tryd.prog w = .ok (.bool (!r.isNone)) w := run_neq_map_nil w _ _ _ r Tryd.underlying31
def Idle (w : World) (e : Ending) (w' : World) : Prop := e = .returned (.agg #[.int .i32 0]) ∧ Below w.heap.size w w'
/-- Behind the first look: the result's box and the location's. -/
structure Two (w : World) (L : Nat) (W : World) : Prop where
  below : Below w.heap.size w W
  res : Blk W w.heap.size #[.int .i32 0] 28
  loc : Blk W L #[.int .i32 0] 28
  hL : w.heap.size < L
theorem Two.mk1 {w w1 : World} (hb : Below (w.alloc (.cells #[.int .i32 0] 28)).heap.size (w.alloc (.cells #[.int .i32 0] 28)) w1) :
    Two w w1.heap.size (w1.alloc (.cells #[.int .i32 0] 28)) := by
  have hs : w.heap.size < w1.heap.size := by have := hb.size; simp at this; omega
  exact ⟨(((Below.refl _ _).alloc (Nat.le_refl _) _).trans (hb.mono (by simp))).alloc (by omega) _, ((Blk.new w _ _).below hb).alloc _, Blk.new w1 #[.int .i32 0] 28, hs⟩
theorem Two.later {w W W' : World} {L : Nat} (h : Two w L W) (hb : Below W.heap.size W W') : Two w L W' := ⟨below2 h.below hb, h.res.below hb, h.loc.below hb, h.hL⟩
set_option maxHeartbeats 4000000 in
theorem saveN (p n k : Nat) (c : ByteArray) (a : Option Addr) (w : World) (h : Par p c none a n k w) : Calls Tryd.prog 10 #[.pointer (some ⟨p, 0, none⟩)] w (Idle w) := by
  have H11 := Lib.hid (loc11 p n k c none a _ (h.below ((Below.refl _ _).alloc (Nat.le_refl _) (.cells #[.int .i32 0] 28))))
  have H2 := Lib.hid h
  clear h
  have q1 := fun w' => qN w' none
  go_enter Tryd.func10, Tryd.ntmps10
  go_upto_region 2 with (first | (go_at_call 11; (with_reducible refine H11.out.mono ?_); rintro e w1 ⟨rfl, hb1⟩; have HT := Lib.hid (Two.mk1 hb1); clear hb1))
  generalize w1.alloc (.cells #[.int .i32 0] 28) = W at *
  have h1 := (H2.out.below HT.out.below).map
  have h2 := HT.out.loc.cell 0
  have h3 := HT.out.res.cell 0
  have h4 := HT.out.res.free 0
  have h6 := (HT.out.res.set 0 (.int .i32 0)).cell 0
  simp at h2 h3 h6
  go_wp2_with fail
  refine bodyPost_ret (v := .agg #[.int .i32 0]) (by simp [results, Tryd.results10, go_sem, h6]; try (first | exact ⟨rfl, rfl⟩ | rfl)) rfl ⟨rfl, ?_⟩
  exact HT.out.below.setCell (Nat.le_refl _) _
set_option maxHeartbeats 4000000 in
theorem saveZ (p m k : Nat) (c : ByteArray) (a : Option Addr) (w : World) (h : Par p c (some m) a 0 k w) : Calls Tryd.prog 10 #[.pointer (some ⟨p, 0, none⟩)] w (Idle w) := by
  have H11 := Lib.hid (loc11 p 0 k c (some m) a _ (h.below ((Below.refl _ _).alloc (Nat.le_refl _) (.cells #[.int .i32 0] 28))))
  have H2 := Lib.hid h
  clear h
  have q1 := fun w' => qN w' (some m)
  go_enter Tryd.func10, Tryd.ntmps10
  go_upto_region 2 with (first | (go_at_call 11; (with_reducible refine H11.out.mono ?_); rintro e w1 ⟨rfl, hb1⟩; have HT := Lib.hid (Two.mk1 hb1); clear hb1))
  generalize w1.alloc (.cells #[.int .i32 0] 28) = W at *
  have h1 := (H2.out.below HT.out.below).map
  have h5 := (H2.out.below HT.out.below).com
  have h2 := HT.out.loc.cell 0
  have h3 := HT.out.res.cell 0
  have h4 := HT.out.res.free 0
  have h6 := (HT.out.res.set 0 (.int .i32 0)).cell 0
  simp at h2 h3 h6
  go_wp2_with fail
  refine bodyPost_ret (v := .agg #[.int .i32 0]) (by simp [results, Tryd.results10, go_sem, h6]; try (first | exact ⟨rfl, rfl⟩ | rfl)) rfl ⟨rfl, ?_⟩
  exact HT.out.below.setCell (Nat.le_refl _) _
end Go.Proofs.YtpahhgeliaeniaaDoor.sav
