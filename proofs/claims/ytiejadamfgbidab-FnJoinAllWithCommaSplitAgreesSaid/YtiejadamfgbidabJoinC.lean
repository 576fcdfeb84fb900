/- The row of numbers and gaps: the contract of zzNumExprs. No conditions beyond their hypotheses. -/
import Derived.Test.YtiejadamfgbidabJoinB
namespace Go.Proofs.Ytiejadamfgbidab.join
open Go.ChangeShapes Go.WideShapes Go.ChangeAt Go.RowKit Go.Mine
set_option linter.unusedVariables false
set_option maxRecDepth 100000

theorem info32 : (Try.prog.info? 32).map (fun i => (i.zero, i.size, i.bytes)) = some (some (.agg #[.nilIface, .int .i32 0]), 2, 24) := by kernel_rfl
theorem make32 (n : Nat) (hn : n ≤ 1048576) (w : World) :
    (Instr.makeSlice 39 (.int .i64 (n : Int)) (.int .i64 (n : Int))).run Try.prog w = .ok (.slice (some ⟨w.heap.size, 0, none⟩) n n) (w.alloc (.cells (madeCells #[.nilIface, .int .i32 0] (n * 2)) 32)) := by
  obtain ⟨i0, hi, hz0, hz1, hz2⟩ := info_parts info32
  have hr := run_make (P := Try.prog) w 39 32 i0 _ Try.underlying39 hi hz0 .i64 .i64 n n (by omega) (Int.le_refl _) (by rw [hz2]; omega) (by omega)
  rw [hz1] at hr
  simpa [Value.cells] using hr
/-- The row after k rounds. -/
structure Rw (C : Array Value) (n k : Nat) (ds : List (Option Nat)) : Prop where
  size : C.size = n * 2
  len : ds.length = k
  low : ∀ i, i < k → C[i * 2]? = some (dval (ds.getD i none)) ∧ C[i * 2 + 1]? = some (.int .i32 ((i : Nat) : Int))
  high : ∀ i, k ≤ i → i < n → C[i * 2]? = some .nilIface ∧ C[i * 2 + 1]? = some (.int .i32 0)
theorem made_at (n i : Nat) (hi : i < n) : (madeCells #[.nilIface, .int .i32 0] (n * 2))[i * 2]? = some .nilIface ∧ (madeCells #[.nilIface, .int .i32 0] (n * 2))[i * 2 + 1]? = some (.int .i32 0) := by
  have h1 : i * 2 < n * 2 := by omega
  have h2 : i * 2 + 1 < n * 2 := by omega
  have m1 : i * 2 % 2 = 0 := by omega
  have m2 : (i * 2 + 1) % 2 = 1 := by omega
  constructor
  · simp [madeCells, h1]
  · simp [madeCells, h2, m2]
theorem rw_start (n : Nat) : Rw (madeCells #[.nilIface, .int .i32 0] (n * 2)) n 0 [] := ⟨size_madeCells _ _, rfl, fun i hi => by omega, fun i _ hi => made_at n i hi⟩
theorem getD_app {ds : List (Option Nat)} {x : Option Nat} {i : Nat} (h : i < ds.length) : (ds ++ [x]).getD i none = ds.getD i none := by simp [List.getElem?_append, h]
theorem rw_none {C : Array Value} {n k : Nat} {ds : List (Option Nat)} (h : Rw C n k ds) (hk : k < n) : Rw (C.setIfInBounds (k * 2 + 1) (.int .i32 (k : Int))) n (k + 1) (ds ++ [none]) := by
  refine ⟨by simpa using h.size, by simp [h.len], fun i hi => ?_, fun i h1 h2 => ?_⟩
  · rw [Array.getElem?_setIfInBounds, Array.getElem?_setIfInBounds, if_neg (by omega)]
    by_cases e : i = k
    · subst e
      obtain ⟨p, q⟩ := h.high i (Nat.le_refl _) hk
      rw [if_pos rfl, if_pos (by rw [h.size]; omega)]
      exact ⟨by rw [p]; simp [← h.len, dval], rfl⟩
    · rw [if_neg (by omega)]
      obtain ⟨p, q⟩ := h.low i (by omega)
      exact ⟨by rw [p, getD_app (by rw [h.len]; omega)], q⟩
  · rw [Array.getElem?_setIfInBounds, Array.getElem?_setIfInBounds, if_neg (by omega), if_neg (by omega)]
    exact h.high i (by omega) h2
theorem rw_some {C : Array Value} {n k p : Nat} {ds : List (Option Nat)} (h : Rw C n k ds) (hk : k < n) : Rw ((C.setIfInBounds (k * 2 + 1) (.int .i32 (k : Int))).setIfInBounds (k * 2) (.iface 46 (.pointer (some ⟨p, 0, none⟩)))) n (k + 1) (ds ++ [some p]) := by
  refine ⟨by simpa using h.size, by simp [h.len], fun i hi => ?_, fun i h1 h2 => ?_⟩
  · rw [Array.getElem?_setIfInBounds, Array.getElem?_setIfInBounds]
    rw [Array.getElem?_setIfInBounds (i := k * 2), Array.getElem?_setIfInBounds (i := k * 2 + 1)]
    by_cases e : i = k
    · subst e
      obtain ⟨p, q⟩ := h.high i (Nat.le_refl _) hk
      rw [if_pos rfl, if_pos (by simp [h.size]; omega), if_neg (by omega), if_pos rfl, if_pos (by rw [h.size]; omega)]
      exact ⟨by simp [← h.len, dval], rfl⟩
    · rw [if_neg (by omega), if_neg (by omega), if_neg (by omega), if_neg (by omega)]
      obtain ⟨p, q⟩ := h.low i (by omega)
      exact ⟨by rw [p, getD_app (by rw [h.len]; omega)], q⟩
  · rw [Array.getElem?_setIfInBounds, if_neg (by omega), Array.getElem?_setIfInBounds, if_neg (by omega), Array.getElem?_setIfInBounds, if_neg (by omega), Array.getElem?_setIfInBounds, if_neg (by omega)]
    exact h.high i (by omega) h2

theorem iff_step {ds : List (Option Nat)} {zs : List Int} {k : Nat} {x : Int} {d : Option Nat} (hl : ds.length = k) (h : ∀ i, i < k → (ds.getD i none = none ↔ zs.getD i 0 = 0)) (hx : x = zs.getD k 0) (hd : d = none ↔ x = 0) :
    ∀ i, i < k + 1 → ((ds ++ [d]).getD i none = none ↔ zs.getD i 0 = 0) := by
  intro i hi
  by_cases e : i = k
  · subst e
    rw [← hx, ← hd]
    simp [← hl]
  · rw [getD_app (by omega)]
    exact h i (by omega)
def Exprs (w : World) (zs : List Int) (e : Ending) (w' : World) : Prop :=
  ∃ g ds, e = .returned (.slice (some ⟨g, 0, none⟩) zs.length zs.length) ∧ Row w' (some ⟨g, 0, none⟩) ds 0 ∧ ds.length = zs.length ∧ (∀ i, i < zs.length → (ds.getD i none = none ↔ zs.getD i 0 = 0)) ∧ Below w.heap.size w w'
set_option maxHeartbeats 1000000 in
theorem exprs16 (a : Option Addr) (len cap : Nat) (zs : List Int) (w : World) (h : IntRow .i64 w a len cap zs) (hl : len ≤ 16384) :
    Calls Try.prog 16 #[.slice a len cap] w (Exprs w zs) := by
  have hz := h.1
  have hmk := make32 len (by omega)
  have H := Lib.hid h
  have HZ := Lib.hid hz
  clear h hz
  go_enter Try.func16, Try.ntmps16
  go_wp2_with fail
  go_loopw [4] (fun i wr => ∃ k : Nat, k ≤ len ∧ i = .int .i64 k ∧ ∃ C ds, Rw C len k ds ∧ (∀ i, i < k → (ds.getD i none = none ↔ zs.getD i 0 = 0)) ∧ Blk wr w.heap.size C 32 ∧ Below w.heap.size w wr) (fun i _ => len - (intOf i).toNat)
  case atStart => exact ⟨0, Nat.zero_le _, rfl, _, _, rw_start len, fun i hi => by omega, Blk.new _ _ _, (Below.refl _ _).alloc (Nat.le_refl _) _⟩
  case round =>
    obtain ⟨k, hk, rfl, C, ds, hrw, hiff, hblk, hb⟩ := hrel
    clear hmk
    by_cases hlt : k < len
    · obtain ⟨b, off, ha, hbl, hc⟩ := H.out.at hlt
      subst ha
      have c0 := bcell hb hc
      have hlw := hblk.lt
      obtain ⟨q0, q1⟩ := hrw.high k (Nat.le_refl _) hlt
      have e0 : wr.cell? ⟨w.heap.size, k * 2, none⟩ = some .nilIface := (hblk.cell _).trans q0
      have e1 : wr.cell? ⟨w.heap.size, k * 2 + 1, none⟩ = some (.int .i32 0) := (hblk.cell _).trans q1
      have z0 := hblk.free (k * 2)
      have z1 := hblk.free (k * 2 + 1)
      have hne : b ≠ w.heap.size := by omega
      have HW := Lib.hid hrw
      have HI := Lib.hid hiff
      have HK := Lib.hid hblk
      have HB := Lib.hid hb
      obtain ⟨x, hx⟩ : ∃ x, x = zs.getD k 0 := ⟨_, rfl⟩
      rw [← hx] at c0
      have HX := Lib.hid hx
      clear hx hrw hiff hblk hb hc q0 q1
      by_cases hx0 : x = 0
      · subst hx0
        go_wp2_with fail
        go_roundw
        case rel => exact ⟨k + 1, by omega, by go_num, _, _, rw_none HW.out hlt, iff_step HW.out.len HI.out HX.out (by simp), HK.out.set _ _, HB.out.setCell (Nat.le_refl _) _⟩
        case measure => simp [intOf]; omega
      · have hx1 : (x != 0) = true := by simpa using hx0
        have HX0 := Lib.hid hx0
        clear hx0
        go_wp2_with fail
        go_roundw
        case rel =>
          exact ⟨k + 1, by omega, by go_num, _, _, rw_some (p := wr.heap.size) HW.out hlt, iff_step HW.out.len HI.out HX.out (by simp [HX0.out]), ((HK.out.set _ _).set _ _).alloc _, ((HB.out.setCell (Nat.le_refl _) _).setCell (Nat.le_refl _) _).alloc (by simp [size_set]; omega) _⟩
        case measure => simp [intOf]; omega
    · obtain rfl : k = len := by omega
      have HW := Lib.hid hrw
      have HI := Lib.hid hiff
      have HK := Lib.hid hblk
      have HB := Lib.hid hb
      clear hrw hiff hblk hb
      go_wp2_with fail
      go_ret
      have e := HZ.out
      subst e
      refine ⟨_, ds, rfl, fun i hi => ?_, HW.out.len, HI.out, HB.out⟩
      obtain ⟨p, q⟩ := HW.out.low i (by have := HW.out.len; omega)
      exact ⟨_, _, rfl, by rw [Nat.zero_add]; exact (HK.out.cell _).trans p, by rw [Nat.zero_add, Nat.zero_add]; exact (HK.out.cell _).trans q⟩
end Go.Proofs.Ytiejadamfgbidab.join
