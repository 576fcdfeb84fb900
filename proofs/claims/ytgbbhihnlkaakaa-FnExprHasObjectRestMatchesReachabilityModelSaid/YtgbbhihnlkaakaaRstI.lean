/- The second loop of 'zzBuildExpr': its steps. No conditions beyond the hypotheses. -/
import Derived.Test.YtgbbhihnlkaakaaRstH
namespace Go.Proofs.Ytgbbhihnlkaakaa.rst
open Go.ChangeShapes Go.WideShapes Go.ChangeAt Go.RowKit Go.Mine
set_option linter.unusedVariables false
set_option linter.unusedSimpArgs false
set_option maxRecDepth 100000

section
variable {n : Nat} {K : Nat → Int} {par : Nat → Option Nat} {slot : Nat → Int} {sp : Nat → Bool} {w : World} {i : Nat} {pl : Nat → Nat} {rv lv : Nat → Value} {wr : World}
theorem P2.app1 (h : P2 n K par slot sp w i pl rv lv wr) (hrg : ∀ j, j < n → 0 ≤ K j ∧ K j ≤ 4) {p : Nat} (hpn : p < n) (hp : par i = some p) (hK : K p = 1) {wr' w3 : World} {gg cap : Nat} (hb' : Below wr.heap.size wr wr') (hg : wr'.grownBy w3 (rv p).ownBlock)
    (hown : w3.ownsRow (w.heap.size + 5) 34 2 (.slice (some ⟨gg, 0, none⟩) ((ch par i p).length + 1) cap) ((ch par i p).length + 1) ((ch par i p).flatMap (encE K pl) ++ encE K pl i)) (hat : (rv p).ownBlock = some gg ∨ wr.heap.size ≤ gg) :
    P2 n K par slot sp w (i + 1) pl (upd rv p (.slice (some ⟨gg, 0, none⟩) ((ch par i p).length + 1) cap)) (upd lv p (lv p)) (w3.setCell ⟨pl p, 0, none⟩ (.slice (some ⟨gg, 0, none⟩) ((ch par i p).length + 1) cap)) := by
  obtain ⟨r, hnp⟩ := h.nd p hpn
  have hpl := h.tb.gt p hpn
  have ho := h.own1 p hpn hK
  have hwr := h.bel.size
  have hgs := hg.size
  have hne := own_ne ho (hnp.arr hK) (by decide)
  have kp : ∀ b, b < wr.heap.size → (rv p).ownBlock ≠ some b → w3.heap[b]? = wr.heap[b]? := fun b h1 h2 => (hg.block b (Nat.lt_of_lt_of_le h1 hb'.size) (Ne.symm h2)).trans (hb'.block b h1)
  have hb3 : Blk w3 (pl p) #[rv p, .int .i32 0, .int .i32 0, .bool false, .bool false] 46 := (kp _ hpl.2 hne).trans (hnp.arr hK)
  refine h.next hrg hpn hp (by omega) ?_ (fun b h1 h2 h3 => ?_) ?_ ⟨r, fun _ => ?_, fun e => by omega, fun e => by omega⟩ (fun _ => ?_) (fun e => by omega) (fun e => by omega) ?_ (fun e => by omega)
  · rw [size_set]; have := hb'.size; omega
  · rw [Below.heap_setCell _ _ _ _ h3]; exact kp b h1 h2
  · refine (Below.grown (below2 h.bel hb') hg (by have := hb'.size; omega) (fun k hk => ?_)).setCell (by have := hpl.1; show w.heap.size ≤ pl p; omega) _
    have := (own_ge ho hk).1; omega
  · have h2 := hb3.set 0 (.slice (some ⟨gg, 0, none⟩) ((ch par i p).length + 1) cap)
    simpa using h2
  · rw [ch_succ hp, List.length_append, List.flatMap_append]
    have e : [i].flatMap (encE K pl) = encE K pl i := by simp
    rw [e]
    refine own_kept hown fun g hg' => ?_
    have hg2 : gg = g := by simpa [Value.ownBlock] using hg'
    subst hg2
    exact Below.heap_setCell _ _ _ _ (fun e => own_ne hown hb3 (by decide) (by rw [e]; rfl))
  · rcases hat with hat | hat
    · exact .inl (by rw [hat]; rfl)
    · refine .inr fun b hb => ?_
      have : gg = b := by simpa [Value.ownBlock] using hb
      omega
theorem P2.app2 (h : P2 n K par slot sp w i pl rv lv wr) (hrg : ∀ j, j < n → 0 ≤ K j ∧ K j ≤ 4) {p : Nat} (hpn : p < n) (hp : par i = some p) (hK : K p = 2) {wr' w3 : World} {gg cap : Nat} (hb' : Below wr.heap.size wr wr') (hg : wr'.grownBy w3 (rv p).ownBlock)
    (hown : w3.ownsRow (w.heap.size + 5) 65 12 (.slice (some ⟨gg, 0, none⟩) ((ch par i p).length + 1) cap) ((ch par i p).length + 1) ((ch par i p).flatMap (encP K pl sp) ++ encP K pl sp i)) (hat : (rv p).ownBlock = some gg ∨ wr.heap.size ≤ gg) :
    P2 n K par slot sp w (i + 1) pl (upd rv p (.slice (some ⟨gg, 0, none⟩) ((ch par i p).length + 1) cap)) (upd lv p (lv p)) (w3.setCell ⟨pl p, 0, none⟩ (.slice (some ⟨gg, 0, none⟩) ((ch par i p).length + 1) cap)) := by
  obtain ⟨r, hnp⟩ := h.nd p hpn
  have hpl := h.tb.gt p hpn
  have ho := h.own2 p hpn hK
  have hwr := h.bel.size
  have hgs := hg.size
  have hne := own_ne ho (hnp.obj hK) (by decide)
  have kp : ∀ b, b < wr.heap.size → (rv p).ownBlock ≠ some b → w3.heap[b]? = wr.heap[b]? := fun b h1 h2 => (hg.block b (Nat.lt_of_lt_of_le h1 hb'.size) (Ne.symm h2)).trans (hb'.block b h1)
  have hb3 : Blk w3 (pl p) #[rv p, .int .i32 0, .int .i32 0, .bool false, .bool false] 50 := (kp _ hpl.2 hne).trans (hnp.obj hK)
  refine h.next hrg hpn hp (by omega) ?_ (fun b h1 h2 h3 => ?_) ?_ ⟨r, fun e => by omega, fun _ => ?_, fun e => by omega⟩ (fun e => by omega) (fun _ => ?_) (fun _ e => by omega) ?_ (fun e => by omega)
  · rw [size_set]; have := hb'.size; omega
  · rw [Below.heap_setCell _ _ _ _ h3]; exact kp b h1 h2
  · refine (Below.grown (below2 h.bel hb') hg (by have := hb'.size; omega) (fun k hk => ?_)).setCell (by have := hpl.1; show w.heap.size ≤ pl p; omega) _
    have := (own_ge ho hk).1; omega
  · have h2 := hb3.set 0 (.slice (some ⟨gg, 0, none⟩) ((ch par i p).length + 1) cap)
    simpa using h2
  · rw [ch_succ hp, List.length_append, List.flatMap_append]
    have e : [i].flatMap (encP K pl sp) = encP K pl sp i := by simp
    rw [e]
    refine own_kept hown fun g hg' => ?_
    have hg2 : gg = g := by simpa [Value.ownBlock] using hg'
    subst hg2
    exact Below.heap_setCell _ _ _ _ (fun e => own_ne hown hb3 (by decide) (by rw [e]; rfl))
  · rcases hat with hat | hat
    · exact .inl (by rw [hat]; rfl)
    · refine .inr fun b hb => ?_
      have : gg = b := by simpa [Value.ownBlock] using hb
      omega
theorem P2.left (h : P2 n K par slot sp w i pl rv lv wr) (hrg : ∀ j, j < n → 0 ≤ K j ∧ K j ≤ 4) {p : Nat} (hpn : p < n) (hp : par i = some p) (hK : K p = 3 ∨ K p = 4) {wr' : World} (hb' : Below wr.heap.size wr wr') (hs : slot i = 0)
    (hone : ∀ m, m < i → par m = some p → slot i ≠ 0) :
    P2 n K par slot sp w (i + 1) pl (upd rv p (rv p)) (upd lv p (ex K pl i)) ((wr'.setCell ⟨pl p, 0, none⟩ (ex K pl i)).setCell ⟨pl p, 1, none⟩ (.int .i32 0)) := by
  obtain ⟨r, hnp⟩ := h.nd p hpn
  have hpl := h.tb.gt p hpn
  have hwr := h.bel.size
  have e0 := h.own0 p hpn (by omega) (by omega)
  have hb3 : Blk wr' (pl p) #[lv p, .int .i32 0, r, .int .i32 0, .int .u8 (if K p = 3 then 37 else 11), .bool false] 54 := (hb'.block _ hpl.2).trans (hnp.bin hK)
  refine h.next hrg hpn hp (by omega) ?_ (fun b h1 h2 h3 => ?_) ?_ ⟨r, fun e => by omega, fun e => by omega, fun _ => ?_⟩ (fun e => by omega) (fun e => by omega) (fun _ _ => e0) (.inl rfl) (fun _ => ⟨fun m hm h1 h2 => ?_, fun h1 => ?_⟩)
  · rw [size_set, size_set]; exact hb'.size
  · rw [Below.heap_setCell _ _ _ _ h3, Below.heap_setCell _ _ _ _ h3]; exact hb'.block b h1
  · exact ((below2 h.bel hb').setCell (by show w.heap.size ≤ pl p; omega) _).setCell (by show w.heap.size ≤ pl p; omega) _
  · have h2 := (hb3.set 0 (ex K pl i)).set 1 (.int .i32 0)
    simpa using h2
  · by_cases e : m = i
    · rw [e]
    · exact absurd hs (hone m (by omega) h1)
  · exact absurd hs (h1 i (by omega) hp)
theorem P2.right (h : P2 n K par slot sp w i pl rv lv wr) (hrg : ∀ j, j < n → 0 ≤ K j ∧ K j ≤ 4) {p : Nat} (hpn : p < n) (hp : par i = some p) (hK : K p = 3 ∨ K p = 4) {wr' : World} (hb' : Below wr.heap.size wr wr') (hs : slot i ≠ 0) :
    P2 n K par slot sp w (i + 1) pl (upd rv p (rv p)) (upd lv p (lv p)) ((wr'.setCell ⟨pl p, 2, none⟩ (ex K pl i)).setCell ⟨pl p, 3, none⟩ (.int .i32 0)) := by
  obtain ⟨r, hnp⟩ := h.nd p hpn
  have hpl := h.tb.gt p hpn
  have hwr := h.bel.size
  have e0 := h.own0 p hpn (by omega) (by omega)
  have hb3 : Blk wr' (pl p) #[lv p, .int .i32 0, r, .int .i32 0, .int .u8 (if K p = 3 then 37 else 11), .bool false] 54 := (hb'.block _ hpl.2).trans (hnp.bin hK)
  refine h.next hrg hpn hp (by omega) ?_ (fun b h1 h2 h3 => ?_) ?_ ⟨ex K pl i, fun e => by omega, fun e => by omega, fun _ => ?_⟩ (fun e => by omega) (fun e => by omega) (fun _ _ => e0) (.inl rfl) (fun h3 => ⟨fun m hm h1 h2 => ?_, fun h1 => ?_⟩)
  · rw [size_set, size_set]; exact hb'.size
  · rw [Below.heap_setCell _ _ _ _ h3, Below.heap_setCell _ _ _ _ h3]; exact hb'.block b h1
  · exact ((below2 h.bel hb').setCell (by show w.heap.size ≤ pl p; omega) _).setCell (by show w.heap.size ≤ pl p; omega) _
  · have h2 := (hb3.set 2 (ex K pl i)).set 3 (.int .i32 0)
    simpa using h2
  · by_cases e : m = i
    · subst e; exact absurd h2 hs
    · exact (h.lf p hpn h3).1 m (by omega) h1 h2
  · exact (h.lf p hpn h3).2 fun m hm => h1 m (by omega)
end
end Go.Proofs.Ytgbbhihnlkaakaa.rst
