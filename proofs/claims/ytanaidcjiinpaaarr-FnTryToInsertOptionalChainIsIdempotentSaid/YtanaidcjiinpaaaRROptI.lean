/- The contract of 'zzBuildChain'. No conditions beyond the hypotheses. -/
import Derived.Test.YtanaidcjiinpaaaRROptG
import Derived.Test.YtanaidcjiinpaaaRROptH
import Derived.Deep.RegionWith
namespace Go.Proofs.YtanaidcjiinpaaaRR.opt
open Go.ChangeShapes Go.WideShapes Go.ChangeAt Go.RowKit Go.Mine
set_option linter.unusedVariables false
set_option linter.unusedSimpArgs false
set_option maxRecDepth 100000

theorem infoN : (Try.prog.info? 46).map (fun i => (i.zero, i.size, i.bytes)) = some (some (.agg #[.pointer none, .pointer none, .pointer none]), 3, 24) := by kernel_rfl
theorem madeNil (w : World) (n : Nat) : (w.alloc (.cells (madeCells #[.pointer none, .pointer none, .pointer none] (n * 3)) 46)).rowIs w.heap.size 46 (n * 3) (ndCell []) := by
  have h := World.rowIs_alloc w (madeCells #[.pointer none, .pointer none, .pointer none] (n * 3)) 46 (ndCell []) (fun i hi => by
    rw [size_madeCells] at hi
    have h3 : i % 3 = 0 ∨ i % 3 = 1 ∨ i % 3 = 2 := by omega
    rcases h3 with h3 | h3 | h3 <;> simp [madeCells, hi, ndCell, h3])
  rw [size_madeCells] at h
  exact h
def N0 (s : ByteArray) (p : Nat) : Nd := ⟨0, s, 0, p⟩
def N1 (s : ByteArray) (p : Nat) : Nd := ⟨1, s, 0, p⟩
def N2 (s : ByteArray) (p : Nat) : Nd := ⟨2, s, 0, p⟩
theorem node0 {wr : World} {lo T p : Nat} (s : ByteArray) (h1 : lo ≤ wr.heap.size) (h2 : p < wr.heap.size) : Node (wr.alloc (.cells #[ifp T p, .int .i32 0, .string s, .int .i32 0, .int .u8 0, .bool false, .bool false, .bool false] 54)) lo (N0 s wr.heap.size) T p :=
  ⟨h1, h2, .inl ⟨rfl, Blk.new _ _ _⟩⟩
theorem node2 {wr : World} {lo T p : Nat} (s : ByteArray) (h1 : lo ≤ wr.heap.size) (h2 : p < wr.heap.size) : Node (wr.alloc (.cells #[ifp T p, .int .i32 0, .slice none 0 0, .int .i32 0, .int .u8 0, .int .u8 0, .bool false, .bool false] 65)) lo (N2 s wr.heap.size) T p :=
  ⟨h1, h2, .inr (.inr ⟨rfl, Blk.new _ _ _⟩)⟩
def wd1 (wr : World) (s : ByteArray) (T p : Nat) : World := ((wr.alloc (.cells ((units s).map (.int .u16)).toArray 67)).alloc (.cells #[.slice (some ⟨wr.heap.size, 0, none⟩) s.size s.size, .int .i32 0, .bool false, .bool false, .bool false] 59)).alloc
  (.cells #[ifp T p, .int .i32 0, ifp 55 (wr.heap.size + 1), .int .i32 0, .int .i32 0, .int .u8 0, .bool false, .bool false, .bool false] 61)
theorem wd1_below (wr : World) (s : ByteArray) (T p : Nat) : Below wr.heap.size wr (wd1 wr s T p) := (((Below.refl _ _).alloc (Nat.le_refl _) _).alloc (by simp) _).alloc (by simp <;> omega) _
theorem node1 {wr : World} {lo T p : Nat} (s : ByteArray) (hs : s.size ≤ 1048576) (h1 : lo ≤ wr.heap.size) (h2 : p < wr.heap.size) : Node (wd1 wr s T p) lo (N1 s (wr.heap.size + 1 + 1)) T p := by
  have hul : ((units s).map (Value.int .u16)).length = s.size := by rw [List.length_map, units_len]
  refine ⟨by show _ ≤ wr.heap.size + 1 + 1; omega, by show _ < wr.heap.size + 1 + 1; omega, .inr (.inl ⟨rfl, wr.heap.size + 1, wr.heap.size, s.size, ((units s).map (.int .u16)).toArray, by omega, by show _ < wr.heap.size + 1 + 1; omega, by omega, h1, by show _ < wr.heap.size + 1 + 1; omega, h2, ?_, ?_, ?_, ?_⟩)⟩
  · exact blkAt _ _ (by simp [N1])
  · show Blk _ _ #[.slice _ s.toList.length _, _, _, _, _] _
    rw [len_toList]
    exact (blkAt _ _ (by simp)).alloc _
  · show IntRow _ _ _ s.toList.length _ (units s)
    rw [len_toList]
    have h := blk_row (k := .u16) (zs := units s) (((Blk.new wr ((units s).map (.int .u16)).toArray 67).alloc (.cells #[.slice (some ⟨wr.heap.size, 0, none⟩) s.size s.size, .int .i32 0, .bool false, .bool false, .bool false] 59)).alloc (.cells #[ifp T p, .int .i32 0, ifp 55 (wr.heap.size + 1), .int .i32 0, .int .i32 0, .int .u8 0, .bool false, .bool false, .bool false] 61)) (by rw [units_len]; unfold maxLen; omega) (units_wf s)
    rw [units_len] at h
    exact h
  · exact ((Blk.new wr ((units s).map (.int .u16)).toArray 67).alloc _).alloc _
def st5 (wr : World) (R P i : Nat) (x0 x1 x2 x3 : Value) : World := ((((wr.setCell ⟨R, i * 3, none⟩ x0).setCell ⟨R, i * 3 + 1, none⟩ x1).setCell ⟨R, i * 3 + 2, none⟩ x2).setCell ⟨P, 0, none⟩ x3).setCell ⟨P, 1, none⟩ (.int .i32 0)
theorem st5_size (wr : World) (R P i : Nat) (x0 x1 x2 x3 : Value) : (st5 wr R P i x0 x1 x2 x3).heap.size = wr.heap.size := by unfold st5; simp only [size_set]
theorem st5_alloc (wr : World) (R P i : Nat) (x0 x1 x2 x3 : Value) (o : Obj) (h1 : R < wr.heap.size) (h2 : P < wr.heap.size) : st5 (wr.alloc o) R P i x0 x1 x2 x3 = (st5 wr R P i x0 x1 x2 x3).alloc o := by
  unfold st5
  rw [World.setCell_alloc_past _ _ _ _ h1, World.setCell_alloc_past _ _ _ _ (by rw [size_set]; exact h1), World.setCell_alloc_past _ _ _ _ (by rw [size_set, size_set]; exact h1), World.setCell_alloc_past _ _ _ _ (by rw [size_set, size_set, size_set]; exact h2), World.setCell_alloc_past _ _ _ _ (by rw [size_set, size_set, size_set, size_set]; exact h2)]
theorem bs_drew {r : Int} {w : World} {m : Nat} {B : List Nd} {wr : World} (R : Bs r w m B wr) : Bs r w m B wr.drew :=
  ⟨R.rp.below (Below.drew (Below.refl _ _)), R.cur, R.res, R.row, R.bel.drew⟩
theorem step0 {r : Int} {w : World} {m i : Nat} {B : List Nd} {wr : World} {T P : Nat} (R : Bs r w m B wr) (hi : B.length = i) (hT : ty B = T) (hP : pl (w.heap.size + 1) B = P) (s : ByteArray) (h1 : w.heap.size + 1 + 1 + 1 < wr.heap.size) (h2 : w.heap.size + 1 + 1 < wr.heap.size) :
    Bs r w m (N0 s wr.heap.size :: B) ((st5 wr (w.heap.size + 1 + 1 + 1) (w.heap.size + 1 + 1) i (.pointer (some ⟨wr.heap.size, 0, none⟩)) (.pointer none) (.pointer none) (.iface 42 (.pointer (some ⟨wr.heap.size, 0, none⟩)))).alloc (.cells #[.iface T (.pointer (some ⟨P, 0, none⟩)), .int .i32 0, .string s, .int .i32 0, .int .u8 0, .bool false, .bool false, .bool false] 54)) := by
  have S := bs_step (n := N0 s wr.heap.size) R hi ((Below.refl _ _).alloc (Nat.le_refl _) _) (by rw [hT, hP]; exact node0 s (by omega) (by rw [← hP]; exact R.rp.lt)) (.pointer (some ⟨wr.heap.size, 0, none⟩)) (.pointer none) (.pointer none) rfl rfl rfl
  exact (st5_alloc wr _ _ i _ _ _ _ _ h1 h2) ▸ S
theorem step2 {r : Int} {w : World} {m i : Nat} {B : List Nd} {wr : World} {T P : Nat} (R : Bs r w m B wr) (hi : B.length = i) (hT : ty B = T) (hP : pl (w.heap.size + 1) B = P) (s : ByteArray) (h1 : w.heap.size + 1 + 1 + 1 < wr.heap.size) (h2 : w.heap.size + 1 + 1 < wr.heap.size) :
    Bs r w m (N2 s wr.heap.size :: B) ((st5 wr (w.heap.size + 1 + 1 + 1) (w.heap.size + 1 + 1) i (.pointer none) (.pointer none) (.pointer (some ⟨wr.heap.size, 0, none⟩)) (.iface 44 (.pointer (some ⟨wr.heap.size, 0, none⟩)))).alloc (.cells #[.iface T (.pointer (some ⟨P, 0, none⟩)), .int .i32 0, .slice none 0 0, .int .i32 0, .int .u8 0, .int .u8 0, .bool false, .bool false] 65)) := by
  have S := bs_step (n := N2 s wr.heap.size) R hi ((Below.refl _ _).alloc (Nat.le_refl _) _) (by rw [hT, hP]; exact node2 s (by omega) (by rw [← hP]; exact R.rp.lt)) (.pointer none) (.pointer none) (.pointer (some ⟨wr.heap.size, 0, none⟩)) rfl rfl rfl
  exact (st5_alloc wr _ _ i _ _ _ _ _ h1 h2) ▸ S
theorem step1 {r : Int} {w : World} {m i : Nat} {B : List Nd} {wr : World} {T P : Nat} (R : Bs r w m B wr) (hi : B.length = i) (hT : ty B = T) (hP : pl (w.heap.size + 1) B = P) (s : ByteArray) (hs : s.size ≤ 1048576) (h1 : w.heap.size + 1 + 1 + 1 < wr.heap.size) (h2 : w.heap.size + 1 + 1 < wr.heap.size) :
    Bs r w m (N1 s (wr.heap.size + 1 + 1) :: B) ((((st5 wr (w.heap.size + 1 + 1 + 1) (w.heap.size + 1 + 1) i (.pointer none) (.pointer (some ⟨wr.heap.size + 1 + 1, 0, none⟩)) (.pointer none) (.iface 43 (.pointer (some ⟨wr.heap.size + 1 + 1, 0, none⟩)))).alloc (.cells ((units s).map (.int .u16)).toArray 67)).alloc
      (.cells #[.slice (some ⟨wr.heap.size, 0, none⟩) s.size s.size, .int .i32 0, .bool false, .bool false, .bool false] 59)).alloc (.cells #[.iface T (.pointer (some ⟨P, 0, none⟩)), .int .i32 0, .iface 55 (.pointer (some ⟨wr.heap.size + 1, 0, none⟩)), .int .i32 0, .int .i32 0, .int .u8 0, .bool false, .bool false, .bool false] 61)) := by
  have S := bs_step (n := N1 s (wr.heap.size + 1 + 1)) R hi (wd1_below wr s T P) (by rw [hT, hP]; exact node1 s hs (by omega) (by rw [← hP]; exact R.rp.lt)) (.pointer none) (.pointer (some ⟨wr.heap.size + 1 + 1, 0, none⟩)) (.pointer none) rfl rfl rfl
  have e : ∀ o1 o2 o3 x0 x1 x2 x3, st5 (((wr.alloc o1).alloc o2).alloc o3) (w.heap.size + 1 + 1 + 1) (w.heap.size + 1 + 1) i x0 x1 x2 x3 = (((st5 wr (w.heap.size + 1 + 1 + 1) (w.heap.size + 1 + 1) i x0 x1 x2 x3).alloc o1).alloc o2).alloc o3 := fun o1 o2 o3 x0 x1 x2 x3 => by
    rw [st5_alloc _ _ _ _ _ _ _ _ _ (by simp only [World.size_alloc]; omega) (by simp only [World.size_alloc]; omega), st5_alloc _ _ _ _ _ _ _ _ _ (by simp only [World.size_alloc]; omega) (by simp only [World.size_alloc]; omega), st5_alloc _ _ _ _ _ _ _ _ _ h1 h2]
  exact (e _ _ _ _ _ _ _) ▸ S
end Go.Proofs.YtanaidcjiinpaaaRR.opt
