/- The end of the loops of 'zzBuildBinding': the node. No conditions beyond the hypotheses. -/
import Derived.Test.YtiejadamfgbidabFeB
namespace Go.Proofs.Ytiejadamfgbidab.fore
open Go.ChangeShapes Go.WideShapes Go.ChangeAt Go.RowKit Go.Mine
open find (Kp ptr Kd leavesOf leavesOf_snoc own_ne own_set out1 own_below finW flat_at cur_at range_ls own_blk)
set_option linter.unusedVariables false
set_option linter.unusedSimpArgs false
set_option maxRecDepth 100000

theorem own_some {w : World} {B e size n c : Nat} {a : Option Addr} {xs : List Value} (h : w.ownsRow B e size (.slice a n c) n xs) (hn : 0 < n) : ∃ g, a = some ⟨g, 0, none⟩ := by
  rcases h.2 with ⟨_, h⟩ | ⟨g, cap, cur, e, _⟩
  · omega
  · injection e with e; exact ⟨g, e⟩
def kbA (x : Kd) : List Value := [.iface x.T (ptr x.q), .int .i32 x.lo, .nilIface, .int .i32 0, .int .i32 x.lo]
def kbO (x : Kd) : List Value := [.nilIface, .int .i32 0, .iface x.T (ptr x.q), .int .i32 x.lo, .nilIface, .int .i32 0, .int .i32 x.lo, .int .i32 0, .bool false, .bool false, .bool false]
section
variable {len pos0 : Nat} {enc : Kd → List Value} {E : TypeId} {sz : Nat} {w : World} {K : List Kd} {S : Nat → Prop} {ai : Option Addr} {cap pos : Nat} {wr : World}
theorem fin_parts (R : Rb len pos0 enc E sz w K S ai cap pos wr) (T : Nat) (cs : Array Value) (t : TypeId) :
    Below w.heap.size w (finW w wr T pos0 cs t) ∧ (∀ b, b < wr.heap.size → b ≠ w.heap.size → (finW w wr T pos0 cs t).heap[b]? = wr.heap[b]?) ∧ Blk (finW w wr T pos0 cs t) wr.heap.size cs t ∧ (finW w wr T pos0 cs t).heap.size = wr.heap.size + 1 := by
  have hs2 : ((wr.setCell ⟨w.heap.size, 0, none⟩ (.iface T (.pointer (some ⟨wr.heap.size, 0, none⟩)))).setCell ⟨w.heap.size, 1, none⟩ (.int .i32 (pos0 : Int))).heap.size = wr.heap.size := by simp [size_set]
  have hk : Same (fun k => k = w.heap.size) wr (finW w wr T pos0 cs t) := (Same.setCell (X := fun k => k = w.heap.size) (p := ⟨w.heap.size, 1, none⟩) (Same.setCell (X := fun k => k = w.heap.size) (p := ⟨w.heap.size, 0, none⟩) (Same.refl _ _) rfl _) rfl _).alloc _
  have hb := R.bel.size
  refine ⟨?_, fun b h1 h2 => hk.2 b h1 h2, ?_, ?_⟩
  · exact ((R.bel.setCell (p := ⟨w.heap.size, 0, none⟩) (Nat.le_refl _) _).setCell (p := ⟨w.heap.size, 1, none⟩) (Nat.le_refl _) _).alloc (by rw [hs2]; exact hb) _
  · have := Blk.new ((wr.setCell ⟨w.heap.size, 0, none⟩ (.iface T (.pointer (some ⟨wr.heap.size, 0, none⟩)))).setCell ⟨w.heap.size, 1, none⟩ (.int .i32 (pos0 : Int))) cs t
    rw [hs2] at this
    exact this
  · unfold finW
    rw [World.size_alloc, hs2]
theorem rb_finA (R : Rb len pos0 kbA 73 5 w K S ai cap pos wr) (hK : K.length ≤ 8) (rest : List Value) :
    Bd len pos0 w (.returned (.tuple #[.agg #[.iface 68 (.pointer (some ⟨wr.heap.size, 0, none⟩)), .int .i32 (pos0 : Int)], .int .i64 (pos : Int)])) (finW w wr 68 pos0 (.slice ai K.length cap :: rest).toArray 76) := by
  obtain ⟨hbel, hkp, hnew, hsz⟩ := fin_parts R 68 (.slice ai K.length cap :: rest).toArray 76
  have hwr := R.bel.size
  have hal := R.own.lt
  have hkS : Kp S wr (finW w wr 68 pos0 (.slice ai K.length cap :: rest).toArray 76) := fun b hb => hkp b (R.lo b hb).2 (fun e => R.nb.1 (e ▸ hb))
  have sl : ∃ (g : Nat) (C : Array Value), (0 < K.length → ai = some ⟨g, 0, none⟩ ∧ w.heap.size ≤ g ∧ g < wr.heap.size ∧ g ≠ w.heap.size ∧ Blk wr g C 73 ∧ C.toList.take (K.length * 5) = K.flatMap kbA) := by
    by_cases h0 : 0 < K.length
    · obtain ⟨g, rfl⟩ := own_some R.own h0
      obtain ⟨C, hC, _, ht, hg, _⟩ := own_blk R.own
      exact ⟨g, C, fun _ => ⟨rfl, hg, hC.lt, fun e => own_ne R.own R.box (by decide) (by rw [e]; rfl), hC, ht⟩⟩
    · exact ⟨0, #[], fun h => (h0 h).elim⟩
  obtain ⟨g, C, sl⟩ := sl
  refine ⟨fun b => S b ∨ (0 < K.length ∧ b = g) ∨ b = wr.heap.size, 68, wr.heap.size, pos0, leavesOf K, pos, rfl, ?_, ?_, hbel, R.ps.1, R.ps.2, R.cnt⟩
  · rw [← range_ls K]
    refine Bu.arr _ _ ai g K.length cap C (fun i => (K.getD i ⟨0, 0, 0, []⟩).T) (fun i => (K.getD i ⟨0, 0, 0, []⟩).q) (fun i => (K.getD i ⟨0, 0, 0, []⟩).lo) (fun i => (K.getD i ⟨0, 0, 0, []⟩).lo) _ (.inr (.inr rfl)) hK ((hnew.cell 0).trans (by simp)) (fun h0 => ?_) (fun i hi => ?_) (fun i hi => ?_)
    · obtain ⟨e, h1, h2, h3, hC, _⟩ := sl h0
      exact ⟨e, .inr (.inl ⟨h0, rfl⟩), (hkp g h2 h3).trans hC⟩
    · obtain ⟨_, _, _, _, _, ht⟩ := sl (by omega)
      have hx : K.getD i ⟨0, 0, 0, []⟩ = K[i] := by simp [hi]
      rw [hx]
      have f := flat_at kbA 5 (fun _ => rfl) K i hi
      exact ⟨(cur_at ht (by omega)).trans (f 0 (by omega)), (cur_at ht (by omega)).trans (f 1 (by omega)), (cur_at ht (by omega)).trans (f 2 (by omega)), (cur_at ht (by omega)).trans (f 3 (by omega)), (cur_at ht (by omega)).trans (f 4 (by omega))⟩
    · have hx : K.getD i ⟨0, 0, 0, []⟩ = K[i] := by simp [hi]
      rw [hx]
      exact ((R.kids _ (List.getElem_mem hi)).kept hkS).mono (fun b hb => .inl hb)
  · rintro b (hb | ⟨h0, rfl⟩ | rfl)
    · have := R.lo b hb; omega
    · obtain ⟨_, h1, h2, _⟩ := sl h0; omega
    · omega
theorem rb_finO (R : Rb len pos0 kbO 79 11 w K S ai cap pos wr) (hK : K.length ≤ 8) (rest : List Value) :
    Bd len pos0 w (.returned (.tuple #[.agg #[.iface 77 (.pointer (some ⟨wr.heap.size, 0, none⟩)), .int .i32 (pos0 : Int)], .int .i64 (pos : Int)])) (finW w wr 77 pos0 (.slice ai K.length cap :: rest).toArray 82) := by
  obtain ⟨hbel, hkp, hnew, hsz⟩ := fin_parts R 77 (.slice ai K.length cap :: rest).toArray 82
  have hwr := R.bel.size
  have hal := R.own.lt
  have hkS : Kp S wr (finW w wr 77 pos0 (.slice ai K.length cap :: rest).toArray 82) := fun b hb => hkp b (R.lo b hb).2 (fun e => R.nb.1 (e ▸ hb))
  have sl : ∃ (g : Nat) (C : Array Value), (0 < K.length → ai = some ⟨g, 0, none⟩ ∧ w.heap.size ≤ g ∧ g < wr.heap.size ∧ g ≠ w.heap.size ∧ Blk wr g C 79 ∧ C.toList.take (K.length * 11) = K.flatMap kbO) := by
    by_cases h0 : 0 < K.length
    · obtain ⟨g, rfl⟩ := own_some R.own h0
      obtain ⟨C, hC, _, ht, hg, _⟩ := own_blk R.own
      exact ⟨g, C, fun _ => ⟨rfl, hg, hC.lt, fun e => own_ne R.own R.box (by decide) (by rw [e]; rfl), hC, ht⟩⟩
    · exact ⟨0, #[], fun h => (h0 h).elim⟩
  obtain ⟨g, C, sl⟩ := sl
  refine ⟨fun b => S b ∨ (0 < K.length ∧ b = g) ∨ b = wr.heap.size, 77, wr.heap.size, pos0, leavesOf K, pos, rfl, ?_, ?_, hbel, R.ps.1, R.ps.2, R.cnt⟩
  · rw [← range_ls K]
    refine Bu.obj _ _ ai g K.length cap C (fun i => (K.getD i ⟨0, 0, 0, []⟩).T) (fun i => (K.getD i ⟨0, 0, 0, []⟩).q) (fun i => (K.getD i ⟨0, 0, 0, []⟩).lo) (fun i => (K.getD i ⟨0, 0, 0, []⟩).lo) _ (.inr (.inr rfl)) hK ((hnew.cell 0).trans (by simp)) (fun h0 => ?_) (fun i hi => ?_) (fun i hi => ?_)
    · obtain ⟨e, h1, h2, h3, hC, _⟩ := sl h0
      exact ⟨e, .inr (.inl ⟨h0, rfl⟩), (hkp g h2 h3).trans hC⟩
    · obtain ⟨_, _, _, _, _, ht⟩ := sl (by omega)
      have hx : K.getD i ⟨0, 0, 0, []⟩ = K[i] := by simp [hi]
      rw [hx]
      have f := flat_at kbO 11 (fun _ => rfl) K i hi
      exact ⟨(cur_at ht (by omega)).trans (f 0 (by omega)), (cur_at ht (by omega)).trans (f 1 (by omega)), (cur_at ht (by omega)).trans (f 2 (by omega)), (cur_at ht (by omega)).trans (f 3 (by omega)), (cur_at ht (by omega)).trans (f 4 (by omega)), (cur_at ht (by omega)).trans (f 5 (by omega)), (cur_at ht (by omega)).trans (f 6 (by omega)), (cur_at ht (by omega)).trans (f 7 (by omega)), (cur_at ht (by omega)).trans (f 8 (by omega)), (cur_at ht (by omega)).trans (f 9 (by omega)), (cur_at ht (by omega)).trans (f 10 (by omega))⟩
    · have hx : K.getD i ⟨0, 0, 0, []⟩ = K[i] := by simp [hi]
      rw [hx]
      exact ((R.kids _ (List.getElem_mem hi)).kept hkS).mono (fun b hb => .inl hb)
  · rintro b (hb | ⟨h0, rfl⟩ | rfl)
    · have := R.lo b hb; omega
    · obtain ⟨_, h1, h2, _⟩ := sl h0; omega
    · omega
end
end Go.Proofs.Ytiejadamfgbidab.fore
