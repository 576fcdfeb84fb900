/- The law's two runs: the wrapped tree, what the callbacks have gathered. No conditions beyond the hypotheses. -/
import Derived.Test.YtiejadamfgbidabFeG
namespace Go.Proofs.Ytiejadamfgbidab.fore
open Go.ChangeShapes Go.WideShapes Go.ChangeAt Go.RowKit Go.Mine
open find (Kp ptr lv)
set_option linter.unusedVariables false
set_option linter.unusedSimpArgs false
set_option maxRecDepth 100000

/-- The world behind 'wrapped': the eight new blocks. -/
def mk8 (w2 : World) (T p : Nat) (l : Int) : World :=
  (((((((w2.alloc (.cells #[.iface T (.pointer (some ⟨p, 0, none⟩)), .int .i32 l] 59)).alloc (.cells #[] 71)).alloc
    (.cells #[.iface 69 (.pointer (some ⟨w2.heap.size + 1, 0, none⟩)), .int .i32 (-3), .nilIface, .int .i32 0, .int .i32 0, .iface T (.pointer (some ⟨p, 0, none⟩)), .int .i32 l, .nilIface, .int .i32 0, .int .i32 0] 73)).alloc
    (.cells #[.slice (some ⟨w2.heap.size + 1 + 1, 0, none⟩) 2 2, .int .i32 0, .bool false, .bool false] 76)).alloc
    (.cells #[.iface 68 (.pointer (some ⟨w2.heap.size + 1 + 1 + 1, 0, none⟩)), .int .i32 (-2)] 59)).alloc
    (.cells #[.nilIface, .int .i32 0, .iface 68 (.pointer (some ⟨w2.heap.size + 1 + 1 + 1, 0, none⟩)), .int .i32 (-2), .nilIface, .int .i32 0, .int .i32 0, .int .i32 0, .bool false, .bool false, .bool false] 79)).alloc
    (.cells #[.slice (some ⟨w2.heap.size + 1 + 1 + 1 + 1 + 1, 0, none⟩) 1 1, .int .i32 0, .bool false] 82)).alloc
    (.cells #[.iface 77 (.pointer (some ⟨w2.heap.size + 1 + 1 + 1 + 1 + 1 + 1, 0, none⟩)), .int .i32 (-1)] 59)
theorem blkAt {w : World} {q : Nat} (C : Array Value) (t : TypeId) (h : q = w.heap.size) : Blk (w.alloc (.cells C t)) q C t := by subst h; exact Blk.new w C t
theorem below8 (w2 : World) (T p : Nat) (l : Int) : Below w2.heap.size w2 (mk8 w2 T p l) ∧ (mk8 w2 T p l).heap.size = w2.heap.size + 8 := by
  unfold mk8
  refine ⟨?_, by simp⟩
  repeat (first | with_reducible exact Below.refl _ _ | with_reducible refine Below.alloc ?_ (by simp <;> omega) _)
theorem blks8 (w2 : World) (T p : Nat) (l : Int) :
    Blk (mk8 w2 T p l) (w2.heap.size + 2) #[.iface 69 (.pointer (some ⟨w2.heap.size + 1, 0, none⟩)), .int .i32 (-3), .nilIface, .int .i32 0, .int .i32 0, .iface T (.pointer (some ⟨p, 0, none⟩)), .int .i32 l, .nilIface, .int .i32 0, .int .i32 0] 73 ∧
    Blk (mk8 w2 T p l) (w2.heap.size + 3) #[.slice (some ⟨w2.heap.size + 1 + 1, 0, none⟩) 2 2, .int .i32 0, .bool false, .bool false] 76 ∧
    Blk (mk8 w2 T p l) (w2.heap.size + 5) #[.nilIface, .int .i32 0, .iface 68 (.pointer (some ⟨w2.heap.size + 1 + 1 + 1, 0, none⟩)), .int .i32 (-2), .nilIface, .int .i32 0, .int .i32 0, .int .i32 0, .bool false, .bool false, .bool false] 79 ∧
    Blk (mk8 w2 T p l) (w2.heap.size + 6) #[.slice (some ⟨w2.heap.size + 1 + 1 + 1 + 1 + 1, 0, none⟩) 1 1, .int .i32 0, .bool false] 82 ∧
    Blk (mk8 w2 T p l) (w2.heap.size + 7) #[.iface 77 (.pointer (some ⟨w2.heap.size + 1 + 1 + 1 + 1 + 1 + 1, 0, none⟩)), .int .i32 (-1)] 59 := by
  unfold mk8
  refine ⟨?_, ?_, ?_, ?_, ?_⟩
  · exact ((((((blkAt _ _ (by simp)).alloc _).alloc _).alloc _).alloc _).alloc _)
  · exact (((((blkAt _ _ (by simp)).alloc _).alloc _).alloc _).alloc _)
  · exact (((blkAt _ _ (by simp)).alloc _).alloc _)
  · exact ((blkAt _ _ (by simp)).alloc _)
  · exact (blkAt _ _ (by simp))
theorem wrap8 {w2 : World} {S : Nat → Prop} {T p : Nat} {l : Int} {ls : List (Nat × Int)} (h : Bu w2 S T p l ls) (hS : ∀ b, S b → b < w2.heap.size) :
    Bu (mk8 w2 T p l) (fun b => b < w2.heap.size + 8) T p l ls ∧ Bu (mk8 w2 T p l) (fun b => b < w2.heap.size + 8) 77 (w2.heap.size + 1 + 1 + 1 + 1 + 1 + 1) (-1) ls := by
  obtain ⟨hb, hsz⟩ := below8 w2 T p l
  obtain ⟨k2, k3, k5, k6, k7⟩ := blks8 w2 T p l
  have h0 : Bu (mk8 w2 T p l) (fun b => b < w2.heap.size + 8) T p l ls := (h.kept (fun b hb' => hb.block b (hS b hb'))).mono (fun b hb' => by have := hS b hb'; show b < _; omega)
  have e2 : (List.range 2).flatMap (fun i => if i = 0 then [] else ls) = ls := by simp [List.range_succ]
  have e1 : (List.range 1).flatMap (fun _ => ls) = ls := by simp [List.range_succ]
  have ha : Bu (mk8 w2 T p l) (fun b => b < w2.heap.size + 8) 68 (w2.heap.size + 1 + 1 + 1) (-2) ls := by
    rw [← e2]
    refine Bu.arr _ _ (some ⟨w2.heap.size + 1 + 1, 0, none⟩) (w2.heap.size + 1 + 1) 2 2 _ (fun i => if i = 0 then 69 else T) (fun i => if i = 0 then w2.heap.size + 1 else p) (fun i => if i = 0 then -3 else l) (fun _ => 0) _ (show _ < _ by omega) (by omega) ((k3.cell 0).trans rfl) (fun _ => ⟨rfl, show _ < _ by omega, k2⟩) (fun i hi => ?_) (fun i hi => ?_)
    · rcases (show i = 0 ∨ i = 1 by omega) with rfl | rfl
      · exact ⟨rfl, rfl, rfl, rfl, rfl⟩
      · exact ⟨rfl, rfl, rfl, rfl, rfl⟩
    · rcases (show i = 0 ∨ i = 1 by omega) with rfl | rfl
      · exact .miss _ _
      · exact h0
  refine ⟨h0, ?_⟩
  rw [← e1]
  refine Bu.obj _ _ (some ⟨w2.heap.size + 1 + 1 + 1 + 1 + 1, 0, none⟩) (w2.heap.size + 1 + 1 + 1 + 1 + 1) 1 1 _ (fun _ => 68) (fun _ => w2.heap.size + 1 + 1 + 1) (fun _ => -2) (fun _ => 0) _ (show _ < _ by omega) (by omega) ((k6.cell 0).trans rfl) (fun _ => ⟨rfl, show _ < _ by omega, k5⟩) (fun i hi => ?_) (fun i hi => ha)
  obtain rfl : i = 0 := by omega
  exact ⟨rfl, rfl, rfl, rfl, rfl, rfl, rfl, rfl, rfl, rfl, rfl⟩
/-- Two new variables, both empty. -/
theorem cb_new (w : World) : Cb w.heap.size w.heap.size (w.heap.size + 1) 0 [] none 0 none 0 ((w.alloc (.cells #[.slice none 0 0] 47)).alloc (.cells #[.slice none 0 0] 83)) :=
  ⟨(Blk.new w _ _).alloc _, blkAt _ _ (by simp), World.ownsRow_nil _ _ _ _, World.ownsRow_nil _ _ _ _, Nat.le_refl _, Nat.le_succ _⟩
theorem below_2 (w : World) (o1 o2 : Obj) : Below w.heap.size w ((w.alloc o1).alloc o2) := ((Below.refl _ _).alloc (Nat.le_refl _) _).alloc (by simp) _
theorem cb_at {B P1 P2 n : Nat} {xs : List (Nat × Int)} {a1 : Option Addr} {c1 : Nat} {a2 : Option Addr} {c2 : Nat} {w : World} (h : Cb B P1 P2 n xs a1 c1 a2 c2 w) (hn : xs.length = n) {i : Nat} (hi : i < n) :
    ∃ (g1 g2 : Nat) (x : Nat × Int), a1 = some ⟨g1, 0, none⟩ ∧ a2 = some ⟨g2, 0, none⟩ ∧ xs[i]? = some x ∧ g1 < w.heap.size ∧ g2 < w.heap.size ∧ w.cell? ⟨g1, i, none⟩ = some (.int .i32 x.2) ∧ w.cell? ⟨g2, i, none⟩ = some (.pointer (some ⟨x.1, 0, none⟩)) := by
  obtain ⟨g1, rfl⟩ := own_some h.o1 (by omega)
  obtain ⟨g2, rfl⟩ := own_some h.o2 (by omega)
  have hiM : i < xs.length := by omega
  obtain ⟨C, hC, _⟩ := find.own_blk h.o1
  obtain ⟨D, hD, _⟩ := find.own_blk h.o2
  refine ⟨g1, g2, xs[i], rfl, rfl, by simp [hiM], hC.lt, hD.lt, (h.o1.cellAt i (by omega)).trans ?_, (h.o2.cellAt i (by omega)).trans ?_⟩
  · simp [hiM, lv]
  · simp [hiM, nd, ptr]
end Go.Proofs.Ytiejadamfgbidab.fore
