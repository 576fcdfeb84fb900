/- The end of the loops of 'zzDecodeBinding': the node. No conditions beyond the hypotheses. -/
import Derived.Test.YtiejadamfgbidabFindE
namespace Go.Proofs.Ytiejadamfgbidab.find
open Go.ChangeShapes Go.WideShapes Go.ChangeAt Go.RowKit Go.Mine
set_option linter.unusedVariables false
set_option linter.unusedSimpArgs false
set_option maxRecDepth 100000

def kcA (x : Kd) : List Value := [.iface x.T (ptr x.q), .int .i32 x.lo, .nilIface, .int .i32 0, .int .i32 0]
def kcO (x : Kd) : List Value := [.nilIface, .int .i32 0, .iface x.T (ptr x.q), .int .i32 x.lo, .nilIface, .int .i32 0, .int .i32 0, .int .i32 0, .bool false, .bool false, .bool false]
theorem flat_at (enc : Kd → List Value) (sz : Nat) (hsz : ∀ x, (enc x).length = sz) : ∀ (K : List Kd) (i : Nat) (h : i < K.length) (j : Nat), j < sz → (K.flatMap enc)[i * sz + j]? = (enc K[i])[j]?
  | [], i, h, _, _ => by simp at h
  | x :: K, 0, h, j, hj => by
    rw [List.flatMap_cons, List.getElem?_append_left (by rw [hsz]; omega)]
    simp
  | x :: K, i + 1, h, j, hj => by
    rw [List.flatMap_cons, List.getElem?_append_right (by rw [hsz, Nat.add_mul]; omega), hsz]
    rw [show (i + 1) * sz + j - sz = i * sz + j by rw [Nat.add_mul]; omega, flat_at enc sz hsz K i (by simpa using h) j hj]
    simp
theorem cur_at {C : Array Value} {m : Nat} {zs : List Value} (h : C.toList.take m = zs) {i : Nat} (hi : i < m) : C[i]? = zs[i]? := by
  rw [← h, List.getElem?_take, if_pos hi]
  simp
theorem range_ls (K : List Kd) : (List.range K.length).flatMap (fun i => (K.getD i ⟨0, 0, 0, []⟩).ls) = leavesOf K := by
  induction K with
  | nil => rfl
  | cons x K ih =>
    rw [List.length_cons, List.range_succ_eq_map, List.flatMap_cons, List.flatMap_map]
    simp only [leavesOf, List.flatMap_cons, List.getD_cons_zero, List.getD_cons_succ]
    congr 1
def finW (w wr : World) (T : Nat) (pos0 : Nat) (cs : Array Value) (t : TypeId) : World :=
  ((wr.setCell ⟨w.heap.size, 0, none⟩ (.iface T (.pointer (some ⟨wr.heap.size, 0, none⟩)))).setCell ⟨w.heap.size, 1, none⟩ (.int .i32 (pos0 : Int))).alloc (.cells cs t)
section
variable {B len pos0 : Nat} {enc : Kd → List Value} {E : TypeId} {sz : Nat} {v : Value} {n : Nat} {xs : List Value} {w : World} {K : List Kd} {S : Nat → Prop} {g cap : Nat} {av : Option Addr} {cv pos : Nat} {wr : World}
theorem fin_parts (R : Rd B len pos0 enc E sz v n xs w K S g cap av cv pos wr) (hE2 : E ≠ 59) (hB : B ≤ w.heap.size) (T : Nat) (cs : Array Value) (t : TypeId) :
    Lf B v n xs (leavesOf K) w (.slice av (n + (leavesOf K).length) cv) (finW w wr T pos0 cs t) ∧ Kp S wr (finW w wr T pos0 cs t) ∧ (∀ C, Blk wr g C E → Blk (finW w wr T pos0 cs t) g C E) ∧ Blk (finW w wr T pos0 cs t) wr.heap.size cs t ∧ (finW w wr T pos0 cs t).heap.size = wr.heap.size + 1 := by
  have hs2 : ((wr.setCell ⟨w.heap.size, 0, none⟩ (.iface T (.pointer (some ⟨wr.heap.size, 0, none⟩)))).setCell ⟨w.heap.size, 1, none⟩ (.int .i32 (pos0 : Int))).heap.size = wr.heap.size := by simp [size_set]
  have hk : Same (fun k => k = w.heap.size) wr (finW w wr T pos0 cs t) := (Same.setCell (X := fun k => k = w.heap.size) (p := ⟨w.heap.size, 1, none⟩) (Same.setCell (X := fun k => k = w.heap.size) (p := ⟨w.heap.size, 0, none⟩) (Same.refl _ _) rfl _) rfl _).alloc _
  have hwr := R.lf.same.1
  refine ⟨?_, fun b hb => hk.2 b (R.lo b hb).2 (fun e => R.nb (e ▸ hb)), fun C hC => hC.same hk (fun e => ?_), ?_, ?_⟩
  · exact ((R.lf.store hB R.box (by decide) (Nat.le_refl _) 0 _).store hB (R.box.set 0 _) (by decide) (Nat.le_refl _) 1 _).post ((Below.refl _ _).alloc (Nat.le_refl _) _) (by rw [hs2]; omega)
  · have hb := R.box
    rw [← e] at hb
    unfold Blk at hb hC
    rw [hb] at hC
    injection hC with e
    injection e with _ e
    exact hE2 e.symm
  · have := Blk.new ((wr.setCell ⟨w.heap.size, 0, none⟩ (.iface T (.pointer (some ⟨wr.heap.size, 0, none⟩)))).setCell ⟨w.heap.size, 1, none⟩ (.int .i32 (pos0 : Int))) cs t
    rw [hs2] at this
    exact this
  · unfold finW
    rw [World.size_alloc, hs2]
theorem rd_finA (R : Rd B len pos0 kcA 73 5 v n xs w K S g cap av cv pos wr) (hK : K.length ≤ 8) (hB : B ≤ w.heap.size) (rest : List Value) :
    Dec B len pos0 v n xs w (.returned (.tuple #[.agg #[.iface 68 (.pointer (some ⟨wr.heap.size, 0, none⟩)), .int .i32 (pos0 : Int)], .int .i64 (pos : Int), .slice av (n + (leavesOf K).length) cv])) (finW w wr 68 pos0 (.slice (some ⟨g, 0, none⟩) K.length cap :: rest).toArray 76) := by
  obtain ⟨hlf, hkp, hbk, hnew, hsz⟩ := fin_parts R (by decide) hB 68 (.slice (some ⟨g, 0, none⟩) K.length cap :: rest).toArray 76
  obtain ⟨C, hC, hs, ht, hgw, hle⟩ := own_blk R.own
  have hgl := hC.lt
  have hwr := R.lf.same.1
  refine ⟨fun b => S b ∨ b = g ∨ b = wr.heap.size, 68, wr.heap.size, pos0, leavesOf K, pos, av, cv, rfl, ?_, ?_, ?_, hlf, by have := R.ps; omega, .inl R.ps.2, R.cnt⟩
  · rw [← range_ls K]
    refine Bt.arr _ _ g K.length cap C (fun i => (K.getD i ⟨0, 0, 0, []⟩).T) (fun i => (K.getD i ⟨0, 0, 0, []⟩).q) (fun i => (K.getD i ⟨0, 0, 0, []⟩).lo) _ (.inr (.inr rfl)) (.inr (.inl rfl)) hK ((hnew.cell 0).trans (by simp)) (hbk C hC) (fun i hi => ?_) (fun i hi => ?_)
    · have hx : K.getD i ⟨0, 0, 0, []⟩ = K[i] := by simp [hi]
      rw [hx]
      have f := flat_at kcA 5 (fun _ => rfl) K i hi
      refine ⟨?_, ?_, ?_, ?_, ?_⟩
      · exact (cur_at ht (by omega)).trans (f 0 (by omega))
      · exact (cur_at ht (by omega)).trans (f 1 (by omega))
      · exact (cur_at ht (by omega)).trans (f 2 (by omega))
      · exact (cur_at ht (by omega)).trans (f 3 (by omega))
      · exact (cur_at ht (by omega)).trans (f 4 (by omega))
    · have hx : K.getD i ⟨0, 0, 0, []⟩ = K[i] := by simp [hi]
      rw [hx]
      exact ((R.kids _ (List.getElem_mem hi)).kept hkp).mono (fun b hb => .inl hb)
  · rintro b (hb | rfl | rfl)
    · have := R.lo b hb; omega
    · omega
    · omega
  · rintro b hb (hs | rfl | rfl)
    · exact R.nl b hb hs
    · exact own_ne R.lf.own hC (by decide) hb
    · have := (R.lf.own.lt _ hb).2; omega
theorem rd_finO (R : Rd B len pos0 kcO 79 11 v n xs w K S g cap av cv pos wr) (hK : K.length ≤ 8) (hB : B ≤ w.heap.size) (rest : List Value) :
    Dec B len pos0 v n xs w (.returned (.tuple #[.agg #[.iface 77 (.pointer (some ⟨wr.heap.size, 0, none⟩)), .int .i32 (pos0 : Int)], .int .i64 (pos : Int), .slice av (n + (leavesOf K).length) cv])) (finW w wr 77 pos0 (.slice (some ⟨g, 0, none⟩) K.length cap :: rest).toArray 82) := by
  obtain ⟨hlf, hkp, hbk, hnew, hsz⟩ := fin_parts R (by decide) hB 77 (.slice (some ⟨g, 0, none⟩) K.length cap :: rest).toArray 82
  obtain ⟨C, hC, hs, ht, hgw, hle⟩ := own_blk R.own
  have hgl := hC.lt
  have hwr := R.lf.same.1
  refine ⟨fun b => S b ∨ b = g ∨ b = wr.heap.size, 77, wr.heap.size, pos0, leavesOf K, pos, av, cv, rfl, ?_, ?_, ?_, hlf, by have := R.ps; omega, .inl R.ps.2, R.cnt⟩
  · rw [← range_ls K]
    refine Bt.obj _ _ g K.length cap C (fun i => (K.getD i ⟨0, 0, 0, []⟩).T) (fun i => (K.getD i ⟨0, 0, 0, []⟩).q) (fun i => (K.getD i ⟨0, 0, 0, []⟩).lo) _ (.inr (.inr rfl)) (.inr (.inl rfl)) hK ((hnew.cell 0).trans (by simp)) (hbk C hC) (fun i hi => ?_) (fun i hi => ?_)
    · have hx : K.getD i ⟨0, 0, 0, []⟩ = K[i] := by simp [hi]
      rw [hx]
      have f := flat_at kcO 11 (fun _ => rfl) K i hi
      exact ⟨(cur_at ht (by omega)).trans (f 0 (by omega)), (cur_at ht (by omega)).trans (f 1 (by omega)), (cur_at ht (by omega)).trans (f 2 (by omega)), (cur_at ht (by omega)).trans (f 3 (by omega)), (cur_at ht (by omega)).trans (f 4 (by omega)), (cur_at ht (by omega)).trans (f 5 (by omega)),
        (cur_at ht (by omega)).trans (f 6 (by omega)), (cur_at ht (by omega)).trans (f 7 (by omega)), (cur_at ht (by omega)).trans (f 8 (by omega)), (cur_at ht (by omega)).trans (f 9 (by omega)), (cur_at ht (by omega)).trans (f 10 (by omega))⟩
    · have hx : K.getD i ⟨0, 0, 0, []⟩ = K[i] := by simp [hi]
      rw [hx]
      exact ((R.kids _ (List.getElem_mem hi)).kept hkp).mono (fun b hb => .inl hb)
  · rintro b (hb | rfl | rfl)
    · have := R.lo b hb; omega
    · omega
    · omega
  · rintro b hb (hs | rfl | rfl)
    · exact R.nl b hb hs
    · exact own_ne R.lf.own hC (by decide) hb
    · have := (R.lf.own.lt _ hb).2; omega
/-- The relation ahead of the first round: the result's box, the empty list of items. -/
theorem rd_start {a : Option Addr} {c : Nat} (hB : B ≤ w.heap.size) (ho : w.ownsRow B 21 1 (.slice a n c) n xs) (h0 : pos0 < pos) (h1 : pos ≤ len) (o : Obj) (e : (o = .cells #[] E)) :
    Rd B len pos0 enc E sz (.slice a n c) n xs w [] (fun _ => False) (w.heap.size + 1) 0 a c pos ((w.alloc (.cells #[.nilIface, .int .i32 0] 59)).alloc o) := by
  subst e
  have hb : Below w.heap.size w ((w.alloc (.cells #[.nilIface, .int .i32 0] 59)).alloc (.cells #[] E)) := ((Below.refl _ _).alloc (Nat.le_refl _) _).alloc (by simp) _
  refine ⟨?_, ?_, fun x hx => by simp at hx, fun b hb => hb.elim, fun b _ hb => hb, fun h => h, (Blk.new w _ _).alloc _, fun h => h, ⟨h0, h1⟩, Nat.zero_le _⟩
  · exact (Lf.refl ho).post hb hB
  · have := World.ownsRow_made (size := sz) (base := w.heap.size) (e := E) (w.alloc (.cells #[.nilIface, .int .i32 0] 59)) #[] 0 (by simp) (Nat.zero_le _) (by simp)
    simpa using this
end
end Go.Proofs.Ytiejadamfgbidab.find
