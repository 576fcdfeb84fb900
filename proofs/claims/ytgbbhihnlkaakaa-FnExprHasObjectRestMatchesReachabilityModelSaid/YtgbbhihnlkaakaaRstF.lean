/- The state of 'zzBuildExpr' in memory, and its steps. No conditions beyond the hypotheses. -/
import Derived.Test.YtgbbhihnlkaakaaRstE
import Derived.Deep.AppendLies
namespace Go.Proofs.Ytgbbhihnlkaakaa.rst
open Go.ChangeShapes Go.WideShapes Go.ChangeAt Go.RowKit Go.Mine
set_option linter.unusedVariables false
set_option linter.unusedSimpArgs false
set_option maxRecDepth 100000

theorem own_ne {w : World} {B e size n : Nat} {v : Value} {xs : List Value} (h : w.ownsRow B e size v n xs) {q : Nat} {C : Array Value} {t : TypeId} (hq : Blk w q C t) (ht : t ≠ e) : v.ownBlock ≠ some q := by
  rcases h.2 with ⟨rfl, _⟩ | ⟨g, cap, cur, rfl, hb, hg, rest⟩
  · simp [Value.ownBlock]
  · intro e1
    simp only [Value.ownBlock, Option.some.injEq] at e1
    subst e1
    unfold Blk at hq
    rw [hq] at hg
    injection hg with e1
    injection e1 with _ e1
    exact ht e1
theorem own_ge {w : World} {B e size n : Nat} {v : Value} {xs : List Value} (h : w.ownsRow B e size v n xs) {g : Nat} (hg : v.ownBlock = some g) : B ≤ g ∧ g < w.heap.size := by
  rcases h.2 with ⟨rfl, _⟩ | ⟨g', cap, cur, rfl, hb, hg', rest⟩
  · simp [Value.ownBlock] at hg
  · have e : g' = g := by simpa [Value.ownBlock] using hg
    subst e
    exact ⟨hb, lt_of_block hg'⟩
theorem own_kept {w w' : World} {B e size n : Nat} {v : Value} {xs : List Value} (h : w.ownsRow B e size v n xs) (hk : ∀ g, v.ownBlock = some g → w'.heap[g]? = w.heap[g]?) : w'.ownsRow B e size v n xs := by
  refine ⟨h.1, ?_⟩
  rcases h.2 with h2 | ⟨g, cap, cur, hv, hb, hg, rest⟩
  · exact .inl h2
  · refine .inr ⟨g, cap, cur, hv, hb, ?_, rest⟩
    rw [hk g (by subst hv; rfl)]
    exact hg
/-- What is kept of a node's block, by its kind: the slice v, or the two sides. -/
structure NB (k : Int) (v l r : Value) (w : World) (p : Nat) : Prop where
  arr : k = 1 → Blk w p #[v, .int .i32 0, .int .i32 0, .bool false, .bool false] 46
  obj : k = 2 → Blk w p #[v, .int .i32 0, .int .i32 0, .bool false, .bool false] 50
  bin : k = 3 ∨ k = 4 → Blk w p #[l, .int .i32 0, r, .int .i32 0, .int .u8 (if k = 3 then 37 else 11), .bool false] 54
theorem NB.kept {k : Int} {v l r : Value} {w w' : World} {p : Nat} (h : NB k v l r w p) (hk : k ≠ 0 → w'.heap[p]? = w.heap[p]?) : NB k v l r w' p :=
  ⟨fun e => (hk (by omega)).trans (h.arr e), fun e => (hk (by omega)).trans (h.obj e), fun e => (hk (by omega)).trans (h.bin e)⟩
theorem NB.own {k : Int} {v l r : Value} {w : World} {p : Nat} (h : NB k v l r w p) (hk : k = 1 ∨ k = 2 ∨ k = 3 ∨ k = 4) {B e size n : Nat} {u : Value} {xs : List Value} (ho : w.ownsRow B e size u n xs) (he : e = 34 ∨ e = 65) : u.ownBlock ≠ some p := by
  rcases hk with hk | hk | hk
  · exact own_ne ho (h.arr hk) (by rcases he with rfl | rfl <;> decide)
  · exact own_ne ho (h.obj hk) (by rcases he with rfl | rfl <;> decide)
  · exact own_ne ho (h.bin hk) (by rcases he with rfl | rfl <;> decide)
/-- The children of j among the first i. -/
def ch (par : Nat → Option Nat) (i j : Nat) : List Nat := (List.range i).filter (fun m => par m == some j)
theorem ch_succ_other {par : Nat → Option Nat} {i j : Nat} (h : par i ≠ some j) : ch par (i + 1) j = ch par i j := by
  unfold ch; rw [List.range_succ, List.filter_append]; simp [h]
theorem ch_succ {par : Nat → Option Nat} {i j : Nat} (h : par i = some j) : ch par (i + 1) j = ch par i j ++ [i] := by
  unfold ch; rw [List.range_succ, List.filter_append]; simp [h]
theorem ch_mem {par : Nat → Option Nat} {i j m : Nat} : m ∈ ch par i j ↔ m < i ∧ par m = some j := by simp [ch]
theorem ch_le (par : Nat → Option Nat) (i j : Nat) : (ch par i j).length ≤ i := by
  unfold ch; exact Nat.le_trans (List.length_filter_le _ _) (by simp)
abbrev nils : Value := .slice none 0 0
def ptr (o : Option Nat) : Value := .pointer (o.map fun b => ⟨b, 0, none⟩)
def exf (K : Nat → Int) (pl : Nat → Nat) (k : Nat) (c : Nat) : Value := if c % 2 = 0 then (if c / 2 < k then ex K pl (c / 2) else .nilIface) else .int .i32 0
def pw (s : Nat → Bool) (pl : Nat → Nat) (k j : Nat) : Option Nat := if j < k ∧ s j = true then some (pl j) else none
abbrev s1 (K : Nat → Int) (j : Nat) : Bool := K j == 1
abbrev s2 (K : Nat → Int) (j : Nat) : Bool := K j == 2
abbrev s3 (K : Nat → Int) (j : Nat) : Bool := K j == 3 || K j == 4
/-- The four tables. -/
structure Tb (n : Nat) (K : Nat → Int) (pl : Nat → Nat) (k : Nat) (X0 : Nat) (wr : World) : Prop where
  box : Blk wr X0 #[.nilIface, .int .i32 0] 34
  ex : FRow id wr (X0 + 1) (n * 2) (exf K pl k) 34
  ar : FRow ptr wr (X0 + 1 + 1) n (pw (s1 K) pl k) 44
  ob : FRow ptr wr (X0 + 1 + 1 + 1) n (pw (s2 K) pl k) 47
  bi : FRow ptr wr (X0 + 1 + 1 + 1 + 1) n (pw (s3 K) pl k) 51
  gt : ∀ j, j < k → X0 + 4 < pl j ∧ pl j < wr.heap.size
  inj : ∀ j j', j < j' → j' < k → pl j < pl j'
theorem Tb.kept {n : Nat} {K : Nat → Int} {pl : Nat → Nat} {k X0 : Nat} {wr W : World} (h : Tb n K pl k X0 wr) (hsz : wr.heap.size ≤ W.heap.size) (hk : ∀ b, b ≤ X0 + 4 → W.heap[b]? = wr.heap[b]?) : Tb n K pl k X0 W :=
  ⟨(hk _ (by omega)).trans h.box, h.ex.kept (hk _ (by omega)), h.ar.kept (hk _ (by omega)), h.ob.kept (hk _ (by omega)), h.bi.kept (hk _ (by omega)), fun j hj => by have := h.gt j hj; omega, h.inj⟩
/-- The state of the second loop. -/
structure P2 (n : Nat) (K : Nat → Int) (par : Nat → Option Nat) (slot : Nat → Int) (sp : Nat → Bool) (w : World) (i : Nat) (pl : Nat → Nat) (rv lv : Nat → Value) (wr : World) : Prop where
  tb : Tb n K pl n w.heap.size wr
  nd : ∀ j, j < n → ∃ r, NB (K j) (rv j) (lv j) r wr (pl j)
  own1 : ∀ j, j < n → K j = 1 → wr.ownsRow (w.heap.size + 5) 34 2 (rv j) (ch par i j).length ((ch par i j).flatMap (encE K pl))
  own2 : ∀ j, j < n → K j = 2 → wr.ownsRow (w.heap.size + 5) 65 12 (rv j) (ch par i j).length ((ch par i j).flatMap (encP K pl sp))
  own0 : ∀ j, j < n → K j ≠ 1 → K j ≠ 2 → rv j = nils
  dis : ∀ j j', j < n → j' < n → j ≠ j' → ∀ b, (rv j).ownBlock = some b → (rv j').ownBlock ≠ some b
  lf : ∀ j, j < n → K j = 3 → (∀ m, m < i → par m = some j → slot m = 0 → lv j = ex K pl m) ∧ ((∀ m, m < i → par m = some j → slot m ≠ 0) → lv j = .nilIface)
  bel : Below w.heap.size w wr
section
variable {n : Nat} {K : Nat → Int} {par : Nat → Option Nat} {slot : Nat → Int} {sp : Nat → Bool} {w : World} {i : Nat} {pl : Nat → Nat} {rv lv : Nat → Value} {wr : World}
theorem P2.skip (h : P2 n K par slot sp w i pl rv lv wr) (hp : par i = none) : P2 n K par slot sp w (i + 1) pl rv lv wr := by
  have e : ∀ j, ch par (i + 1) j = ch par i j := fun j => ch_succ_other (by rw [hp]; intro h; cases h)
  refine ⟨h.tb, h.nd, fun j hj hk => by rw [e]; exact h.own1 j hj hk, fun j hj hk => by rw [e]; exact h.own2 j hj hk, h.own0, h.dis, fun j hj hk => ⟨fun m hm h1 h2 => ?_, fun h1 => ?_⟩, h.bel⟩
  · refine (h.lf j hj hk).1 m ?_ h1 h2
    by_cases e : m = i
    · subst e; rw [hp] at h1; cases h1
    · omega
  · exact (h.lf j hj hk).2 fun m hm => h1 m (by omega)
def upd (f : Nat → Value) (p : Nat) (v : Value) (j : Nat) : Value := if j = p then v else f j
theorem upd_at (f : Nat → Value) (p : Nat) (v : Value) : upd f p v p = v := by simp [upd]
theorem upd_ne (f : Nat → Value) {p j : Nat} (v : Value) (h : j ≠ p) : upd f p v j = f j := by simp [upd, h]
theorem P2.ownOf (h : P2 n K par slot sp w i pl rv lv wr) {j : Nat} (hj : j < n) : ∃ e sz xs m, (e = 34 ∨ e = 65) ∧ wr.ownsRow (w.heap.size + 5) e sz (rv j) m xs := by
  by_cases h1 : K j = 1
  · exact ⟨_, _, _, _, .inl rfl, h.own1 j hj h1⟩
  · by_cases h2 : K j = 2
    · exact ⟨_, _, _, _, .inr rfl, h.own2 j hj h2⟩
    · rw [h.own0 j hj h1 h2]
      exact ⟨34, 2, [], 0, .inl rfl, World.ownsRow_nil wr _ _ _⟩
/-- The step, whatever the parent's kind. -/
theorem P2.next (h : P2 n K par slot sp w i pl rv lv wr) (hrg : ∀ j, j < n → 0 ≤ K j ∧ K j ≤ 4) {p : Nat} (hpn : p < n) (hp : par i = some p) (hK0 : K p ≠ 0) {W : World} {v l : Value} (hsz : wr.heap.size ≤ W.heap.size)
    (hk : ∀ b, b < wr.heap.size → (rv p).ownBlock ≠ some b → b ≠ pl p → W.heap[b]? = wr.heap[b]?) (hbel : Below w.heap.size w W)
    (hnd : ∃ r, NB (K p) v l r W (pl p)) (ho1 : K p = 1 → W.ownsRow (w.heap.size + 5) 34 2 v (ch par (i + 1) p).length ((ch par (i + 1) p).flatMap (encE K pl)))
    (ho2 : K p = 2 → W.ownsRow (w.heap.size + 5) 65 12 v (ch par (i + 1) p).length ((ch par (i + 1) p).flatMap (encP K pl sp)))
    (ho0 : K p ≠ 1 → K p ≠ 2 → v = nils) (hat : v.ownBlock = (rv p).ownBlock ∨ ∀ b, v.ownBlock = some b → wr.heap.size ≤ b)
    (hl : K p = 3 → (∀ m, m < i + 1 → par m = some p → slot m = 0 → l = ex K pl m) ∧ ((∀ m, m < i + 1 → par m = some p → slot m ≠ 0) → l = .nilIface)) :
    P2 n K par slot sp w (i + 1) pl (upd rv p v) (upd lv p l) W := by
  obtain ⟨e, sz, xs, m, he, ho⟩ := h.ownOf hpn
  have hpl := h.tb.gt p hpn
  obtain ⟨r0, hnp⟩ := h.nd p hpn
  have hnk : ∀ j, j < n → K j ≠ 0 → K j = 1 ∨ K j = 2 ∨ K j = 3 ∨ K j = 4 := fun j hj h0 => by have := hrg j hj; omega
  have hpne : ∀ j, j < n → j ≠ p → pl j ≠ pl p := fun j hj hne => by
    rcases Nat.lt_or_gt_of_ne hne with hh | hh
    · have := h.tb.inj j p hh hpn; omega
    · have := h.tb.inj p j hh hj; omega
  have hoth : ∀ j, j ≠ p → ch par (i + 1) j = ch par i j := fun j hne => ch_succ_other (by rw [hp]; intro e; injection e with e; exact hne e.symm)
  have hrow : ∀ j, j < n → j ≠ p → ∀ g, (rv j).ownBlock = some g → W.heap[g]? = wr.heap[g]? := fun j hj hne g hg => by
    obtain ⟨e', sz', xs', m', he', ho'⟩ := h.ownOf hj
    refine hk g (own_ge ho' hg).2 (h.dis j p hj hpn hne g hg) ?_
    intro e1
    subst e1
    exact hnp.own (hnk p hpn hK0) ho' he' hg
  refine ⟨h.tb.kept hsz fun b hb => hk b (by have := h.tb.bi.lt; omega) (fun e1 => by have := (own_ge ho e1).1; omega) (by omega), fun j hj => ?_, fun j hj h1 => ?_, fun j hj h1 => ?_, fun j hj h1 h2 => ?_, fun j j' hj hj' hne b hb hb' => ?_, fun j hj h3 => ?_, hbel⟩
  · by_cases hjp : j = p
    · subst hjp; rw [upd_at, upd_at]; exact hnd
    · rw [upd_ne _ _ hjp, upd_ne _ _ hjp]
      obtain ⟨r, hr⟩ := h.nd j hj
      refine ⟨r, hr.kept fun h0 => hk _ (h.tb.gt j hj).2 (hr.own (hnk j hj h0) ho he) (hpne j hj hjp)⟩
  · by_cases hjp : j = p
    · subst hjp; rw [upd_at]; exact ho1 h1
    · rw [upd_ne _ _ hjp, hoth j hjp]; exact own_kept (h.own1 j hj h1) (hrow j hj hjp)
  · by_cases hjp : j = p
    · subst hjp; rw [upd_at]; exact ho2 h1
    · rw [upd_ne _ _ hjp, hoth j hjp]; exact own_kept (h.own2 j hj h1) (hrow j hj hjp)
  · by_cases hjp : j = p
    · subst hjp; rw [upd_at]; exact ho0 h1 h2
    · rw [upd_ne _ _ hjp]; exact h.own0 j hj h1 h2
  · have hlt : ∀ x, x < n → ∀ g, (rv x).ownBlock = some g → g < wr.heap.size := fun x hx g hg => by
      obtain ⟨e', sz', xs', m', he', ho'⟩ := h.ownOf hx
      exact (own_ge ho' hg).2
    by_cases hjp : j = p
    · subst hjp
      rw [upd_at] at hb
      rw [upd_ne _ _ (Ne.symm hne)] at hb'
      rcases hat with hat | hat
      · rw [hat] at hb; exact h.dis j j' hj hj' hne b hb hb'
      · have := hat b hb; have := hlt j' hj' b hb'; omega
    · rw [upd_ne _ _ hjp] at hb
      by_cases hjp' : j' = p
      · subst hjp'
        rw [upd_at] at hb'
        rcases hat with hat | hat
        · rw [hat] at hb'; exact h.dis j j' hj hj' hne b hb hb'
        · have := hat b hb'; have := hlt j hj b hb; omega
      · rw [upd_ne _ _ hjp'] at hb'
        exact h.dis j j' hj hj' hne b hb hb'
  · by_cases hjp : j = p
    · subst hjp; rw [upd_at]; exact hl h3
    · rw [upd_ne _ _ hjp]
      refine ⟨fun m hm h1 h2 => (h.lf j hj h3).1 m ?_ h1 h2, fun h1 => (h.lf j hj h3).2 fun m hm => h1 m (by omega)⟩
      by_cases e : m = i
      · subst e; rw [hp] at h1; injection h1 with h1; exact absurd h1.symm hjp
      · omega
end
end Go.Proofs.Ytgbbhihnlkaakaa.rst
