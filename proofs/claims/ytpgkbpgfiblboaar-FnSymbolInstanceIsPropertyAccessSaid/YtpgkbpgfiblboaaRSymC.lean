/- The contracts of 'b3Clone', 'b3IsTree' and 'b3Child' of the package n011_37. No conditions beyond their hypotheses. -/
import Derived.Test.YtpgkbpgfiblboaaRSymB
import Derived.Laws.MakeOwn
namespace Go.Proofs.YtpgkbpgfiblboaaR.sym
open Go.ChangeShapes Go.WideShapes Go.ChangeAt Go.RowKit Go.Mine Go.Deep
set_option linter.unusedVariables false
set_option maxRecDepth 100000

theorem info68 : (Try.prog.info? 68).map (fun i => (i.zero, i.size, i.bytes)) = some (some (.agg #[.int .u8 0, .int .u8 0, .bool false, .int .u8 0, .int .i32 0, .int .i32 0, .int .i32 0]), 7, 16) := by kernel_rfl
theorem info30 : (Try.prog.info? 30).map (fun i => (i.zero, i.size, i.bytes)) = some (some (.agg #[.nilIface, .int .i32 0]), 2, 24) := by kernel_rfl
theorem make68 (n : Nat) (hn : n ≤ 1048576) (w : World) :
    (Instr.makeSlice 34 (.int .i64 (n : Int)) (.int .i64 (n : Int))).run Try.prog w = .ok (.slice (some ⟨w.heap.size, 0, none⟩) n n) (w.alloc (.cells (madeCells #[.int .u8 0, .int .u8 0, .bool false, .int .u8 0, .int .i32 0, .int .i32 0, .int .i32 0] (n * 7)) 68)) := by
  obtain ⟨i0, hi, hz0, hz1, hz2⟩ := info_parts info68
  have hr := run_make (P := Try.prog) w 34 68 i0 _ Try.underlying34 hi hz0 .i64 .i64 n n (by omega) (Int.le_refl _) (by rw [hz2]; omega) (by omega)
  rw [hz1] at hr
  simpa [Value.cells] using hr
theorem make30 (n : Nat) (hn : n ≤ 1048576) (w : World) :
    (Instr.makeSlice 37 (.int .i64 (n : Int)) (.int .i64 (n : Int))).run Try.prog w = .ok (.slice (some ⟨w.heap.size, 0, none⟩) n n) (w.alloc (.cells (madeCells #[.nilIface, .int .i32 0] (n * 2)) 30)) := by
  obtain ⟨i0, hi, hz0, hz1, hz2⟩ := info_parts info30
  have hr := run_make (P := Try.prog) w 37 30 i0 _ Try.underlying37 hi hz0 .i64 .i64 n n (by omega) (Int.le_refl _) (by rw [hz2]; omega) (by omega)
  rw [hz1] at hr
  simpa [Value.cells] using hr

/-- Seven cells of an array. -/
def NdA (C : Array Value) (o : Nat) : Prop := ∃ (k op ch x y z : Int) (f : Bool), (0 ≤ k ∧ k ≤ 255) ∧ (0 ≤ op ∧ op ≤ 255) ∧ (0 ≤ ch ∧ ch ≤ 255) ∧ (-2147483648 ≤ x ∧ x ≤ 2147483647) ∧ (-2147483648 ≤ y ∧ y ≤ 2147483647) ∧ (-2147483648 ≤ z ∧ z ≤ 2147483647) ∧
  C[o]? = some (.int .u8 k) ∧ C[o + 1]? = some (.int .u8 op) ∧ C[o + 2]? = some (.bool f) ∧ C[o + 3]? = some (.int .u8 ch) ∧ C[o + 4]? = some (.int .i32 x) ∧ C[o + 5]? = some (.int .i32 y) ∧ C[o + 6]? = some (.int .i32 z)
theorem NdA.nd {w : World} {p : Nat} {C : Array Value} {t : TypeId} {o : Nat} (h : NdA C o) (hb : Blk w p C t) : Nd w p o := by
  obtain ⟨k, op, ch, x, y, z, f, h1, h2, h3, h4, h5, h6, c0, c1, c2, c3, c4, c5, c6⟩ := h
  exact ⟨k, op, ch, x, y, z, f, h1, h2, h3, h4, h5, h6, (hb.cell _).trans c0, (hb.cell _).trans c1, (hb.cell _).trans c2, (hb.cell _).trans c3, (hb.cell _).trans c4, (hb.cell _).trans c5, (hb.cell _).trans c6⟩
def put7 (C : Array Value) (o : Nat) (v0 v1 v2 v3 v4 v5 v6 : Value) : Array Value :=
  ((((((C.setIfInBounds o v0).setIfInBounds (o + 1) v1).setIfInBounds (o + 2) v2).setIfInBounds (o + 3) v3).setIfInBounds (o + 4) v4).setIfInBounds (o + 5) v5).setIfInBounds (o + 6) v6
theorem put7_size (C : Array Value) (o : Nat) (v0 v1 v2 v3 v4 v5 v6 : Value) : (put7 C o v0 v1 v2 v3 v4 v5 v6).size = C.size := by simp [put7]
theorem put7_other (C : Array Value) (o i : Nat) (v0 v1 v2 v3 v4 v5 v6 : Value) (h : i < o) : (put7 C o v0 v1 v2 v3 v4 v5 v6)[i]? = C[i]? := by
  unfold put7
  rw [Array.getElem?_setIfInBounds, if_neg (by omega), Array.getElem?_setIfInBounds, if_neg (by omega), Array.getElem?_setIfInBounds, if_neg (by omega), Array.getElem?_setIfInBounds, if_neg (by omega), Array.getElem?_setIfInBounds, if_neg (by omega), Array.getElem?_setIfInBounds, if_neg (by omega), Array.getElem?_setIfInBounds, if_neg (by omega)]
theorem put7_nd {C : Array Value} {o : Nat} {k op ch x y z : Int} {f : Bool} (hs : o + 6 < C.size) (h1 : 0 ≤ k ∧ k ≤ 255) (h2 : 0 ≤ op ∧ op ≤ 255) (h3 : 0 ≤ ch ∧ ch ≤ 255) (h4 : -2147483648 ≤ x ∧ x ≤ 2147483647) (h5 : -2147483648 ≤ y ∧ y ≤ 2147483647) (h6 : -2147483648 ≤ z ∧ z ≤ 2147483647) :
    NdA (put7 C o (.int .u8 k) (.int .u8 op) (.bool f) (.int .u8 ch) (.int .i32 x) (.int .i32 y) (.int .i32 z)) o := by
  refine ⟨k, op, ch, x, y, z, f, h1, h2, h3, h4, h5, h6, ?_, ?_, ?_, ?_, ?_, ?_, ?_⟩
  all_goals
    unfold put7
    simp only [Array.getElem?_setIfInBounds, Array.size_setIfInBounds]
    repeat (first | rw [if_pos trivial] | rw [if_pos (by omega)] | rw [if_neg (by omega)])
theorem put7_keep {C : Array Value} {o j : Nat} {v0 v1 v2 v3 v4 v5 v6 : Value} (h : NdA C j) (hj : j + 6 < o) : NdA (put7 C o v0 v1 v2 v3 v4 v5 v6) j := by
  obtain ⟨k, op, ch, x, y, z, f, h1, h2, h3, h4, h5, h6, c0, c1, c2, c3, c4, c5, c6⟩ := h
  refine ⟨k, op, ch, x, y, z, f, h1, h2, h3, h4, h5, h6, ?_, ?_, ?_, ?_, ?_, ?_, ?_⟩
  all_goals
    rw [put7_other _ _ _ _ _ _ _ _ _ _ (by omega)]
    assumption
theorem blk7 {w : World} {p o : Nat} {C : Array Value} {t : TypeId} (h : Blk w p C t) (v0 v1 v2 v3 v4 v5 v6 : Value) :
    Blk (((((((w.setCell ⟨p, o, none⟩ v0).setCell ⟨p, o + 1, none⟩ v1).setCell ⟨p, o + 2, none⟩ v2).setCell ⟨p, o + 3, none⟩ v3).setCell ⟨p, o + 4, none⟩ v4).setCell ⟨p, o + 5, none⟩ v5).setCell ⟨p, o + 6, none⟩ v6) p (put7 C o v0 v1 v2 v3 v4 v5 v6) t :=
  ((((((h.set o v0).set (o + 1) v1).set (o + 2) v2).set (o + 3) v3).set (o + 4) v4).set (o + 5) v5).set (o + 6) v6
def Cl (n k : Nat) (w wr : World) : Prop := Below w.heap.size w wr ∧ ∃ C, Blk wr w.heap.size C 68 ∧ C.size = n * 7 ∧ ∀ j, j < k → NdA C (j * 7)
def Cloned7 (n : Nat) (w : World) (e : Ending) (w' : World) : Prop := ∃ a', e = .returned (.slice a' n n) ∧ NRow w' a' n n ∧ Below w.heap.size w w'
set_option maxHeartbeats 2000000 in
theorem clone13 (a : Option Addr) (n c : Nat) (w : World) (h : NRow w a n c) (hn : n ≤ 4096) : Calls Try.prog 13 #[.slice a n c] w (Cloned7 n w) := by
  have H := Lib.hid h
  rcases h.2.2 with ⟨rfl, rfl, rfl⟩ | ⟨b, off, s, rfl, h2, h3⟩
  · have hnil := fun w => Lib.run_eql_slice_nil (P := Try.prog) w 34 68 none 0 0 0 0 Try.underlying34
    clear h
    go_enter Try.func13, Try.ntmps13
    go_wp2
    go_ret
    exact ⟨none, rfl, H.out, Below.refl _ _⟩
  · have hnil := fun w => Lib.run_eql_slice_nil (P := Try.prog) w 34 68 (some ⟨b, off, s⟩) n c 0 0 Try.underlying34
    have hmk := make68 n (by omega)
    have M0 : Hid (Cl n 0 w (w.alloc (.cells (madeCells #[.int .u8 0, .int .u8 0, .bool false, .int .u8 0, .int .i32 0, .int .i32 0, .int .i32 0] (n * 7)) 68))) :=
      ⟨(Below.refl _ _).alloc (Nat.le_refl _) _, _, Blk.new _ _ _, size_madeCells _ _, fun j hj => by omega⟩
    clear h h2 h3
    go_enter Try.func13, Try.ntmps13
    go_wp2
    go_loopw [4] (fun i wr => ∃ k : Nat, k ≤ n ∧ i = .int .i64 k ∧ Hid (Cl n k w wr)) (fun i _ => n - (intOf i).toNat)
    case atStart => exact ⟨0, Nat.zero_le _, rfl, M0⟩
    case round =>
      obtain ⟨k, hk, rfl, hC⟩ := hrel
      clear hmk M0
      by_cases hlt : k < n
      · obtain ⟨hbw, C, hblk, hsz, hlow⟩ := hC.out
        obtain ⟨b', off', eb, hb, hN⟩ := (H.out.below hbw).at hlt
        obtain rfl : b = b' := by injection eb with e; injection e
        obtain rfl : off = off' := by injection eb with e; injection e
        obtain rfl : s = none := by injection eb with e; injection e
        obtain ⟨kk, op, ch, x, y, z, f, h1, h2, h3, h4, h5, h6, c0, c1, c2, c3, c4, c5, c6⟩ := hN
        have ex : ∀ j, j < 7 → ∃ u, wr.cell? ⟨w.heap.size, k * 7 + j, none⟩ = some u := fun j hj => by
          rw [hblk.cell]
          have : k * 7 + j < C.size := by rw [hsz]; omega
          exact ⟨_, Array.getElem?_eq_getElem this⟩
        obtain ⟨o0, e0⟩ := ex 0 (by omega)
        obtain ⟨o1, e1⟩ := ex 1 (by omega)
        obtain ⟨o2, e2⟩ := ex 2 (by omega)
        obtain ⟨o3, e3⟩ := ex 3 (by omega)
        obtain ⟨o4, e4⟩ := ex 4 (by omega)
        obtain ⟨o5, e5⟩ := ex 5 (by omega)
        obtain ⟨o6, e6⟩ := ex 6 (by omega)
        have e0' : wr.cell? ⟨w.heap.size, k * 7, none⟩ = some o0 := e0
        have f0 := hblk.free (k * 7)
        have f1 := hblk.free (k * 7 + 1)
        have f2 := hblk.free (k * 7 + 2)
        have f3 := hblk.free (k * 7 + 3)
        have f4 := hblk.free (k * 7 + 4)
        have f5 := hblk.free (k * 7 + 5)
        have f6 := hblk.free (k * 7 + 6)
        have hl := hblk.lt
        have N : Hid (Cl n (k + 1) w _) := ⟨((((((hbw.setCell (p := ⟨w.heap.size, k * 7, none⟩) (Nat.le_refl _) (.int .u8 kk)).setCell (p := ⟨w.heap.size, k * 7 + 1, none⟩) (Nat.le_refl _) (.int .u8 op)).setCell (p := ⟨w.heap.size, k * 7 + 2, none⟩) (Nat.le_refl _) (.bool f)).setCell (p := ⟨w.heap.size, k * 7 + 3, none⟩) (Nat.le_refl _) (.int .u8 ch)).setCell (p := ⟨w.heap.size, k * 7 + 4, none⟩) (Nat.le_refl _) (.int .i32 x)).setCell (p := ⟨w.heap.size, k * 7 + 5, none⟩) (Nat.le_refl _) (.int .i32 y)).setCell (p := ⟨w.heap.size, k * 7 + 6, none⟩) (Nat.le_refl _) (.int .i32 z),
          _, blk7 hblk _ _ _ _ _ _ _, by rw [put7_size]; exact hsz, fun j hj => by
            by_cases e : j = k
            · subst e; exact put7_nd (by rw [hsz]; omega) h1 h2 h3 h4 h5 h6
            · exact put7_keep (hlow j (by omega)) (by omega)⟩
        clear ex e0 eb hbw hblk hsz hlow hC h1 h2 h3 h4 h5 h6
        go_wp2_with fail
        go_roundw
        case rel => exact ⟨k + 1, by omega, by go_num, N⟩
        case measure => simp [intOf]; omega
      · obtain rfl : k = n := by omega
        obtain ⟨hbw, C, hblk, hsz, hlow⟩ := hC.out
        have HB := Lib.hid hbw
        have HR : Hid (NRow wr (some ⟨w.heap.size, 0, none⟩) k k) := ⟨Nat.le_refl _, by unfold maxLen; omega, .inr ⟨_, _, _, rfl, fun _ => ⟨rfl, hblk.lt⟩, fun i hi => by rw [Nat.zero_add]; exact (hlow i hi).nd hblk⟩⟩
        clear hbw hblk hsz hlow hC
        go_wp2_with fail
        go_ret
        exact ⟨_, rfl, HR.out, HB.out⟩
end Go.Proofs.YtpgkbpgfiblboaaR.sym
