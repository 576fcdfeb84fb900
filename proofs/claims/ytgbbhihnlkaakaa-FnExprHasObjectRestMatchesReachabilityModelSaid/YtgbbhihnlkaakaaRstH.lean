/- The first loop of 'zzBuildExpr': its steps. No conditions beyond the hypotheses. -/
import Derived.Test.YtgbbhihnlkaakaaRstG
namespace Go.Proofs.Ytgbbhihnlkaakaa.rst
open Go.ChangeShapes Go.WideShapes Go.ChangeAt Go.RowKit Go.Mine
set_option linter.unusedVariables false
set_option linter.unusedSimpArgs false
set_option maxRecDepth 100000

theorem infoE : (Try.prog.info? 34).map (fun i => (i.zero, i.size, i.bytes)) = some (some (.agg #[.nilIface, .int .i32 0]), 2, 24) := by kernel_rfl
theorem infoPA : (Try.prog.info? 44).map (fun i => (i.zero, i.size, i.bytes)) = some (some (.pointer none), 1, 8) := by kernel_rfl
theorem infoPO : (Try.prog.info? 47).map (fun i => (i.zero, i.size, i.bytes)) = some (some (.pointer none), 1, 8) := by kernel_rfl
theorem infoPB : (Try.prog.info? 51).map (fun i => (i.zero, i.size, i.bytes)) = some (some (.pointer none), 1, 8) := by kernel_rfl
theorem made2 (n : Nat) (w : World) (K : Nat → Int) (pl : Nat → Nat) : FRow id (w.alloc (.cells (madeCells #[.nilIface, .int .i32 0] (n * 2)) 34)) w.heap.size (n * 2) (exf K pl 0) 34 := by
  refine ⟨_, Blk.new _ _ _, size_madeCells _ _, fun c hc => ?_⟩
  unfold exf
  by_cases h : c % 2 = 0
  · rw [if_pos h, if_neg (by omega)]; simp [madeCells, hc, h]
  · have h1 : c % 2 = 1 := by omega
    rw [if_neg h]; simp [madeCells, hc, h1]
theorem p1_start (n : Nat) (K : Nat → Int) (w : World) (pl : Nat → Nat) : P1 n K w 0 pl
    (((((w.alloc (.cells #[.nilIface, .int .i32 0] 34)).alloc (.cells (madeCells #[.nilIface, .int .i32 0] (n * 2)) 34)).alloc (.cells (madeCells #[.pointer none] n) 44)).alloc (.cells (madeCells #[.pointer none] n) 47)).alloc (.cells (madeCells #[.pointer none] n) 51)) := by
  have hp : ∀ (s : Nat → Bool) (j : Nat), pw s pl 0 j = none := fun s j => by simp [pw]
  refine ⟨⟨((((Blk.new w _ _).alloc _).alloc _).alloc _).alloc _, ?_, ?_, ?_, ?_, fun j hj => by omega, fun j j' _ h => by omega⟩, fun j hj => by omega,
    (((((Below.refl _ _).alloc (Nat.le_refl _) _).alloc (by simp) _).alloc (by simp; omega) _).alloc (by simp; omega) _).alloc (by simp; omega) _⟩
  · have h := (((made2 n (w.alloc (.cells #[.nilIface, .int .i32 0] 34)) K pl).alloc (.cells (madeCells #[.pointer none] n) 44)).alloc (.cells (madeCells #[.pointer none] n) 47)).alloc (.cells (madeCells #[.pointer none] n) 51)
    simp only [World.size_alloc] at h
    exact h
  · have h := ((frow_new ptr ((w.alloc (.cells #[.nilIface, .int .i32 0] 34)).alloc (.cells (madeCells #[.nilIface, .int .i32 0] (n * 2)) 34)) n none 44).alloc (.cells (madeCells #[.pointer none] n) 47)).alloc (.cells (madeCells #[.pointer none] n) 51)
    simp only [World.size_alloc] at h
    exact h.congr fun j _ => hp _ j
  · have h := (frow_new ptr (((w.alloc (.cells #[.nilIface, .int .i32 0] 34)).alloc (.cells (madeCells #[.nilIface, .int .i32 0] (n * 2)) 34)).alloc (.cells (madeCells #[.pointer none] n) 44)) n none 47).alloc (.cells (madeCells #[.pointer none] n) 51)
    simp only [World.size_alloc] at h
    exact h.congr fun j _ => hp _ j
  · have h := frow_new ptr ((((w.alloc (.cells #[.nilIface, .int .i32 0] 34)).alloc (.cells (madeCells #[.nilIface, .int .i32 0] (n * 2)) 34)).alloc (.cells (madeCells #[.pointer none] n) 44)).alloc (.cells (madeCells #[.pointer none] n) 47)) n none 51
    simp only [World.size_alloc] at h
    exact h.congr fun j _ => hp _ j
section
variable {n : Nat} {K : Nat → Int} {w : World} {k : Nat} {pl : Nat → Nat} {wr : World}
abbrev pt (p : Nat) : Value := .pointer (some ⟨p, 0, none⟩)
theorem P1.put1 (h : P1 n K w k pl wr) (hk : k < n) (hK : K k = 1 ∨ K k = 1) : P1 n K w (k + 1) (updN pl k wr.heap.size) ((((wr.alloc (.cells #[nils, .int .i32 0, .int .i32 0, .bool false, .bool false] 46)).setCell ⟨w.heap.size + 1 + 1, k, none⟩ (pt wr.heap.size)).setCell ⟨w.heap.size + 1, k * 2, none⟩ (.iface 44 (pt wr.heap.size))).setCell ⟨w.heap.size + 1, k * 2 + 1, none⟩ (.int .i32 0)) := by
  have hb4 := h.tb.bi.lt
  refine h.next hk (by simp [size_set]) (fun b h1 h2 => ?_) ?_ ?_ ?_ ?_ ?_ ?_ ?_
  · repeat rw [Below.heap_setCell _ _ _ _ (by simp <;> omega)]
    exact Below.heap_alloc _ _ _ h2
  · exact (((h.bel.alloc h.bel.size _).setCell (by simp <;> omega) _).setCell (by simp <;> omega) _).setCell (by simp <;> omega) _
  · exact (((h.tb.box.alloc _).setOther (by simp <;> omega) _).setOther (by simp <;> omega) _).setOther (by simp <;> omega) _
  · exact ⟨fun _ => (((Blk.new wr _ _).setOther (by simp <;> omega) _).setOther (by simp <;> omega) _).setOther (by simp <;> omega) _, fun e => by omega, fun e => by omega⟩
  · exact ((((h.tb.ex.alloc _).setOther (by simp <;> omega) _).set (k * 2) _).set (k * 2 + 1) _).congr fun c _ => exf_next (n := n) (T := 44) (by rcases hK with hK | hK <;> simp [ty, hK]) c
  · exact ((((h.tb.ar.alloc _).set k (some wr.heap.size)).setOther (by simp <;> omega) _).setOther (by simp <;> omega) _).congr fun j _ => pw_yes (by rcases hK with hK | hK <;> simp [hK]) j
  · exact ((((h.tb.ob.alloc _).setOther (by simp <;> omega) _).setOther (by simp <;> omega) _).setOther (by simp <;> omega) _).congr fun j _ => pw_no (by rcases hK with hK | hK <;> simp [hK]) j
  · exact ((((h.tb.bi.alloc _).setOther (by simp <;> omega) _).setOther (by simp <;> omega) _).setOther (by simp <;> omega) _).congr fun j _ => pw_no (by rcases hK with hK | hK <;> simp [hK]) j
theorem P1.put2 (h : P1 n K w k pl wr) (hk : k < n) (hK : K k = 2 ∨ K k = 2) : P1 n K w (k + 1) (updN pl k wr.heap.size) ((((wr.alloc (.cells #[nils, .int .i32 0, .int .i32 0, .bool false, .bool false] 50)).setCell ⟨w.heap.size + 1 + 1 + 1, k, none⟩ (pt wr.heap.size)).setCell ⟨w.heap.size + 1, k * 2, none⟩ (.iface 47 (pt wr.heap.size))).setCell ⟨w.heap.size + 1, k * 2 + 1, none⟩ (.int .i32 0)) := by
  have hb4 := h.tb.bi.lt
  refine h.next hk (by simp [size_set]) (fun b h1 h2 => ?_) ?_ ?_ ?_ ?_ ?_ ?_ ?_
  · repeat rw [Below.heap_setCell _ _ _ _ (by simp <;> omega)]
    exact Below.heap_alloc _ _ _ h2
  · exact (((h.bel.alloc h.bel.size _).setCell (by simp <;> omega) _).setCell (by simp <;> omega) _).setCell (by simp <;> omega) _
  · exact (((h.tb.box.alloc _).setOther (by simp <;> omega) _).setOther (by simp <;> omega) _).setOther (by simp <;> omega) _
  · exact ⟨fun e => by omega, fun _ => (((Blk.new wr _ _).setOther (by simp <;> omega) _).setOther (by simp <;> omega) _).setOther (by simp <;> omega) _, fun e => by omega⟩
  · exact ((((h.tb.ex.alloc _).setOther (by simp <;> omega) _).set (k * 2) _).set (k * 2 + 1) _).congr fun c _ => exf_next (n := n) (T := 47) (by rcases hK with hK | hK <;> simp [ty, hK]) c
  · exact ((((h.tb.ar.alloc _).setOther (by simp <;> omega) _).setOther (by simp <;> omega) _).setOther (by simp <;> omega) _).congr fun j _ => pw_no (by rcases hK with hK | hK <;> simp [hK]) j
  · exact ((((h.tb.ob.alloc _).set k (some wr.heap.size)).setOther (by simp <;> omega) _).setOther (by simp <;> omega) _).congr fun j _ => pw_yes (by rcases hK with hK | hK <;> simp [hK]) j
  · exact ((((h.tb.bi.alloc _).setOther (by simp <;> omega) _).setOther (by simp <;> omega) _).setOther (by simp <;> omega) _).congr fun j _ => pw_no (by rcases hK with hK | hK <;> simp [hK]) j
theorem P1.put3 (h : P1 n K w k pl wr) (hk : k < n) (hK : K k = 3 ∨ K k = 4) : P1 n K w (k + 1) (updN pl k wr.heap.size) ((((wr.alloc (.cells #[.nilIface, .int .i32 0, .nilIface, .int .i32 0, .int .u8 (if K k = 3 then 37 else 11), .bool false] 54)).setCell ⟨w.heap.size + 1 + 1 + 1 + 1, k, none⟩ (pt wr.heap.size)).setCell ⟨w.heap.size + 1, k * 2, none⟩ (.iface 51 (pt wr.heap.size))).setCell ⟨w.heap.size + 1, k * 2 + 1, none⟩ (.int .i32 0)) := by
  have hb4 := h.tb.bi.lt
  refine h.next hk (by simp [size_set]) (fun b h1 h2 => ?_) ?_ ?_ ?_ ?_ ?_ ?_ ?_
  · repeat rw [Below.heap_setCell _ _ _ _ (by simp <;> omega)]
    exact Below.heap_alloc _ _ _ h2
  · exact (((h.bel.alloc h.bel.size _).setCell (by simp <;> omega) _).setCell (by simp <;> omega) _).setCell (by simp <;> omega) _
  · exact (((h.tb.box.alloc _).setOther (by simp <;> omega) _).setOther (by simp <;> omega) _).setOther (by simp <;> omega) _
  · exact ⟨fun e => by omega, fun e => by omega, fun _ => (((Blk.new wr _ _).setOther (by simp <;> omega) _).setOther (by simp <;> omega) _).setOther (by simp <;> omega) _⟩
  · exact ((((h.tb.ex.alloc _).setOther (by simp <;> omega) _).set (k * 2) _).set (k * 2 + 1) _).congr fun c _ => exf_next (n := n) (T := 51) (by rcases hK with hK | hK <;> simp [ty, hK]) c
  · exact ((((h.tb.ar.alloc _).setOther (by simp <;> omega) _).setOther (by simp <;> omega) _).setOther (by simp <;> omega) _).congr fun j _ => pw_no (by rcases hK with hK | hK <;> simp [hK]) j
  · exact ((((h.tb.ob.alloc _).setOther (by simp <;> omega) _).setOther (by simp <;> omega) _).setOther (by simp <;> omega) _).congr fun j _ => pw_no (by rcases hK with hK | hK <;> simp [hK]) j
  · exact ((((h.tb.bi.alloc _).set k (some wr.heap.size)).setOther (by simp <;> omega) _).setOther (by simp <;> omega) _).congr fun j _ => pw_yes (by rcases hK with hK | hK <;> simp [hK]) j
theorem P1.put0 (h : P1 n K w k pl wr) (hk : k < n) (hK : K k = 0 ∨ K k = 0) : P1 n K w (k + 1) (updN pl k wr.heap.size) (((wr.alloc (.cells #[.int .u32 0, .int .u32 0, .bool false, .bool false, .bool false] 59)).setCell ⟨w.heap.size + 1, k * 2, none⟩ (.iface 55 (pt wr.heap.size))).setCell ⟨w.heap.size + 1, k * 2 + 1, none⟩ (.int .i32 0)) := by
  have hb4 := h.tb.bi.lt
  refine h.next hk (by simp [size_set]) (fun b h1 h2 => ?_) ?_ ?_ ?_ ?_ ?_ ?_ ?_
  · repeat rw [Below.heap_setCell _ _ _ _ (by simp <;> omega)]
    exact Below.heap_alloc _ _ _ h2
  · exact ((h.bel.alloc h.bel.size _).setCell (by simp <;> omega) _).setCell (by simp <;> omega) _
  · exact ((h.tb.box.alloc _).setOther (by simp <;> omega) _).setOther (by simp <;> omega) _
  · exact ⟨fun e => by omega, fun e => by omega, fun e => by omega⟩
  · exact (((h.tb.ex.alloc _).set (k * 2) _).set (k * 2 + 1) _).congr fun c _ => exf_next (n := n) (T := 55) (by rcases hK with hK | hK <;> simp [ty, hK]) c
  · exact (((h.tb.ar.alloc _).setOther (by simp <;> omega) _).setOther (by simp <;> omega) _).congr fun j _ => pw_no (by rcases hK with hK | hK <;> simp [hK]) j
  · exact (((h.tb.ob.alloc _).setOther (by simp <;> omega) _).setOther (by simp <;> omega) _).congr fun j _ => pw_no (by rcases hK with hK | hK <;> simp [hK]) j
  · exact (((h.tb.bi.alloc _).setOther (by simp <;> omega) _).setOther (by simp <;> omega) _).congr fun j _ => pw_no (by rcases hK with hK | hK <;> simp [hK]) j
end
end Go.Proofs.Ytgbbhihnlkaakaa.rst
