/- The state of 'zzBuildExpr': the first loop's steps, and what the end gives. No conditions beyond the hypotheses. -/
import Derived.Test.YtgbbhihnlkaakaaRstF
namespace Go.Proofs.Ytgbbhihnlkaakaa.rst
open Go.ChangeShapes Go.WideShapes Go.ChangeAt Go.RowKit Go.Mine
set_option linter.unusedVariables false
set_option linter.unusedSimpArgs false
set_option maxRecDepth 100000

theorem flat_at {α β : Type} (f : α → List β) (sz : Nat) (hsz : ∀ x, (f x).length = sz) : ∀ (l : List α) (q o : Nat) (x : α), l[q]? = some x → o < sz → (l.flatMap f)[q * sz + o]? = (f x)[o]?
  | [], q, o, x, h, _ => by simp at h
  | y :: l, 0, o, x, h, ho => by
    simp at h
    subst h
    rw [List.flatMap_cons, Nat.zero_mul, Nat.zero_add, List.getElem?_append_left (by rw [hsz]; exact ho)]
  | y :: l, q + 1, o, x, h, ho => by
    have h' : l[q]? = some x := by simpa using h
    rw [List.flatMap_cons, List.getElem?_append_right (by rw [hsz, Nat.add_mul]; omega), hsz, show (q + 1) * sz + o - sz = q * sz + o by rw [Nat.add_mul]; omega]
    exact flat_at f sz hsz l q o x h' ho
theorem rrow_of {w : World} {B e sz : Nat} {v : Value} {js : List Nat} {enc : Nat → List Value} (hsz : ∀ x, (enc x).length = sz) (h : w.ownsRow B e sz v js.length (js.flatMap enc)) : RRow w v sz enc js := by
  rcases h.2 with ⟨rfl, h0⟩ | ⟨g, cap, cur, rfl, hb, hg, hn, hc, hs, ht⟩
  · refine ⟨none, 0, by rw [h0], fun q j hj => ?_⟩
    have : q < js.length := (List.getElem?_eq_some_iff.1 hj).1
    omega
  · refine ⟨_, _, rfl, fun q j hj => ⟨g, rfl, lt_of_block hg, fun o u hu => ?_⟩⟩
    have ho : o < sz := by rw [← hsz j]; exact (List.getElem?_eq_some_iff.1 hu).1
    have hq : q < js.length := (List.getElem?_eq_some_iff.1 hj).1
    have hlt : q * sz + o < js.length * sz := by
      have h1 : (q + 1) * sz ≤ js.length * sz := Nat.mul_le_mul_right _ hq
      rw [Nat.add_mul] at h1; omega
    have hblk : Blk w g cur e := hg
    rw [hblk.cell]
    have e1 := flat_at enc sz hsz js q o j hj ho
    rw [← ht, List.getElem?_take, if_pos hlt, hu] at e1
    simpa using e1
/-- At the end each node reads as it should. -/
theorem P2.fin {n : Nat} {K : Nat → Int} {par : Nat → Option Nat} {slot : Nat → Int} {sp : Nat → Bool} {w : World} {pl : Nat → Nat} {rv lv : Nat → Value} {wr : World}
    (h : P2 n K par slot sp w n pl rv lv wr) (hrg : ∀ j, j < n → 0 ≤ K j ∧ K j ≤ 4) (hone : ∀ i j j', j < n → j' < n → par j = some i → par j' = some i → slot j = 0 → slot j' = 0 → j = j')
    {W : World} (hsz : W.heap.size = wr.heap.size) (hW : ∀ b, b ≠ w.heap.size → W.heap[b]? = wr.heap[b]?) : ∀ i, i < n → NodeT n K par slot sp pl W i := by
  intro i hi
  have hgt := h.tb.gt i hi
  obtain ⟨r, hnd0⟩ := h.nd i hi
  have hnd := hnd0.kept (w' := W) (fun _ => hW _ (by omega))
  refine ⟨hrg i hi, by rw [hsz]; exact hgt.2, fun hk => ?_, fun hk => ?_, fun hk => ?_, fun hk => ?_⟩
  · exact ⟨rv i, ch par n i, (hnd.arr hk).cell 0, rrow_of (fun _ => rfl) (own_kept (h.own1 i hi hk) fun g hg => hW g (by have := own_ge (h.own1 i hi hk) hg; omega)), fun j => ch_mem, ch_le _ _ _⟩
  · exact ⟨rv i, ch par n i, (hnd.obj hk).cell 0, rrow_of (fun _ => rfl) (own_kept (h.own2 i hi hk) fun g hg => hW g (by have := own_ge (h.own2 i hi hk) hg; omega)), fun j => ch_mem, ch_le _ _ _⟩
  · have hb := hnd.bin (.inl hk)
    rw [if_pos hk] at hb
    refine ⟨hb.cell 4, hb.cell 1, ?_⟩
    by_cases he : ∃ j, j < n ∧ par j = some i ∧ slot j = 0
    · obtain ⟨j, h1, h2, h3⟩ := he
      refine .inl ⟨j, h1, h2, h3, ?_, fun j' a b c => hone i j' j a h1 b h2 c h3⟩
      rw [hb.cell 0]
      exact congrArg some ((h.lf i hi hk).1 j h1 h2 h3)
    · have hno : ∀ j, j < n → par j = some i → slot j ≠ 0 := fun j a b c => he ⟨j, a, b, c⟩
      refine .inr ⟨hno, ?_⟩
      rw [hb.cell 0]
      exact congrArg some ((h.lf i hi hk).2 hno)
  · have hb := hnd.bin (.inr hk)
    rw [if_neg (by omega)] at hb
    exact hb.cell 4
/-- The first loop. -/
structure P1 (n : Nat) (K : Nat → Int) (w : World) (k : Nat) (pl : Nat → Nat) (wr : World) : Prop where
  tb : Tb n K pl k w.heap.size wr
  nd : ∀ j, j < k → NB (K j) nils .nilIface .nilIface wr (pl j)
  bel : Below w.heap.size w wr
theorem P1.start2 {n : Nat} {K : Nat → Int} {par : Nat → Option Nat} {slot : Nat → Int} {sp : Nat → Bool} {w : World} {pl : Nat → Nat} {wr : World} (h : P1 n K w n pl wr) (hp0 : par 0 = none) :
    P2 n K par slot sp w 1 pl (fun _ => nils) (fun _ => .nilIface) wr := by
  have e : ∀ j, ch par 1 j = [] := fun j => by unfold ch; simp [List.range_succ, hp0]
  have hno : ∀ j m, m < 1 → par m = some j → False := fun j m hm h1 => by
    have : m = 0 := by omega
    subst this
    rw [hp0] at h1; cases h1
  refine ⟨h.tb, fun j hj => ⟨_, h.nd j hj⟩, fun j hj _ => by rw [e]; exact World.ownsRow_nil _ _ _ _, fun j hj _ => by rw [e]; exact World.ownsRow_nil _ _ _ _, fun _ _ _ _ => rfl, fun j j' _ _ _ b hb => by simp [Value.ownBlock] at hb, fun j hj _ => ⟨fun m hm h1 => (hno j m hm h1).elim, fun _ => rfl⟩, h.bel⟩
def updN (f : Nat → Nat) (p : Nat) (v : Nat) (j : Nat) : Nat := if j = p then v else f j
theorem exf_next {n : Nat} {K : Nat → Int} {pl : Nat → Nat} {k b : Nat} {T : Nat} (hT : T = ty (K k)) (c : Nat) :
    exf K (updN pl k b) (k + 1) c = if c = k * 2 + 1 then .int .i32 0 else if c = k * 2 then .iface T (.pointer (some ⟨b, 0, none⟩)) else exf K pl k c := by
  by_cases h1 : c = k * 2 + 1
  · rw [if_pos h1]
    unfold exf
    rw [if_neg (by omega)]
  · rw [if_neg h1]
    by_cases h2 : c = k * 2
    · rw [if_pos h2]
      unfold exf
      have h3 : c / 2 = k := by omega
      rw [if_pos (by omega), if_pos (by omega), h3]
      simp [ex, updN, hT]
    · rw [if_neg h2]
      unfold exf
      by_cases h3 : c % 2 = 0
      · rw [if_pos h3, if_pos h3]
        by_cases h4 : c / 2 < k
        · rw [if_pos h4, if_pos (by omega)]
          have : c / 2 ≠ k := by omega
          simp [ex, updN, this]
        · rw [if_neg h4, if_neg (by omega)]
      · rw [if_neg h3, if_neg h3]
theorem pw_yes {s : Nat → Bool} {pl : Nat → Nat} {k b : Nat} (hs : s k = true) (j : Nat) : pw s (updN pl k b) (k + 1) j = if j = k then some b else pw s pl k j := by
  by_cases e : j = k
  · subst e; simp [pw, updN, hs]
  · rw [if_neg e]
    have h1 : (j < k + 1) = (j < k) := by apply propext; omega
    simp [pw, updN, e, h1]
theorem pw_no {s : Nat → Bool} {pl : Nat → Nat} {k b : Nat} (hs : s k = false) (j : Nat) : pw s (updN pl k b) (k + 1) j = pw s pl k j := by
  by_cases e : j = k
  · subst e; simp [pw, hs]
  · have h1 : (j < k + 1) = (j < k) := by apply propext; omega
    simp [pw, updN, e, h1]
/-- A new node at the round's head, and its place in the table of expressions. -/
theorem P1.next {n : Nat} {K : Nat → Int} {w : World} {k : Nat} {pl : Nat → Nat} {wr : World} (h : P1 n K w k pl wr) (hk : k < n) {W : World}
    (hsz : wr.heap.size < W.heap.size) (hkeep : ∀ b, w.heap.size + 4 < b → b < wr.heap.size → W.heap[b]? = wr.heap[b]?) (hbel : Below w.heap.size w W) (hbox : Blk W w.heap.size #[.nilIface, .int .i32 0] 34)
    (hnode : NB (K k) nils .nilIface .nilIface W wr.heap.size) (hex : FRow id W (w.heap.size + 1) (n * 2) (exf K (updN pl k wr.heap.size) (k + 1)) 34)
    (har : FRow ptr W (w.heap.size + 1 + 1) n (pw (s1 K) (updN pl k wr.heap.size) (k + 1)) 44)
    (hob : FRow ptr W (w.heap.size + 1 + 1 + 1) n (pw (s2 K) (updN pl k wr.heap.size) (k + 1)) 47)
    (hbi : FRow ptr W (w.heap.size + 1 + 1 + 1 + 1) n (pw (s3 K) (updN pl k wr.heap.size) (k + 1)) 51) : P1 n K w (k + 1) (updN pl k wr.heap.size) W := by
  have hb4 := h.tb.bi.lt
  refine ⟨⟨hbox, hex, har, hob, hbi, fun j hj => ?_, fun j j' h1 h2 => ?_⟩, fun j hj => ?_, hbel⟩
  · unfold updN
    by_cases e : j = k
    · rw [if_pos e]; omega
    · rw [if_neg e]; have := h.tb.gt j (by omega); omega
  · unfold updN
    rw [if_neg (show j ≠ k by omega)]
    by_cases e : j' = k
    · rw [if_pos e]; exact (h.tb.gt j (by omega)).2
    · rw [if_neg e]; exact h.tb.inj j j' h1 (by omega)
  · unfold updN
    by_cases e : j = k
    · subst e; rw [if_pos rfl]; exact hnode
    · rw [if_neg e]
      have hg := h.tb.gt j (by omega)
      exact (h.nd j (by omega)).kept fun _ => hkeep _ hg.1 hg.2
end Go.Proofs.Ytgbbhihnlkaakaa.rst
