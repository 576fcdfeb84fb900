/- A heap of labelled rows that grow, and of blocks that are known whole. No conditions beyond the hypotheses. -/
import Derived.Test.YtocljdbihcikhaaFmtLib
import Derived.Maps.AppendAt
namespace Go.Proofs.YtocljdbihcikhaaFmt.psh
open Go.ChangeShapes Go.WideShapes Go.ChangeAt Go.RowKit Go.Mine
set_option linter.unusedVariables false

theorem own_ge {w : World} {B e size n : Nat} {v : Value} {xs : List Value} (h : w.ownsRow B e size v n xs) {g : Nat} (hg : v.ownBlock = some g) : B ≤ g ∧ g < w.heap.size := by
  rcases h.2 with ⟨rfl, _⟩ | ⟨g', cap, cur, rfl, hb, hg', rest⟩
  · simp [Value.ownBlock] at hg
  · have e : g' = g := by simpa [Value.ownBlock] using hg
    subst e
    exact ⟨hb, lt_of_block hg'⟩
theorem own_kept {w w' : World} {B e size n : Nat} {v : Value} {xs : List Value} (h : w.ownsRow B e size v n xs) (hk : ∀ g, v.ownBlock = some g → w'.heap[g]? = w.heap[g]?) : w'.ownsRow B e size v n xs := by
  refine ⟨h.1, ?_⟩
  rcases h.2 with h2 | ⟨g, cap, cur, hv, hb, hg, rest⟩
  · exact .inl h2
  · refine .inr ⟨g, cap, cur, hv, hb, ?_, rest⟩
    rw [hk g (by subst hv; rfl)]
    exact hg
/-- A row that grows: its elements' type and width, the slice, how many elements, their cells. -/
structure Rw where
  e : Nat
  z : Nat
  v : Value
  n : Nat
  xs : List Value
def up {α : Type} (f : Nat → α) (l : Nat) (x : α) : Nat → α := fun k => if k = l then x else f k
theorem up_at {α : Type} (f : Nat → α) (l : Nat) (x : α) : up f l x l = x := if_pos rfl
theorem up_ne {α : Type} (f : Nat → α) {l k : Nat} (x : α) (h : k ≠ l) : up f l x k = f k := if_neg h
structure ST (lo : Nat) (L : Nat → Nat) (F : Nat → Rw) (H : Nat → Option Obj) (w : World) : Prop where
  row : ∀ l, l ≠ 0 → w.ownsRow lo (F l).e (F l).z (F l).v (F l).n (F l).xs
  lab : ∀ l, l ≠ 0 → ∀ g, (F l).v.ownBlock = some g → L g = l
  box : ∀ b o, H b = some o → w.heap[b]? = some o ∧ L b = 0 ∧ lo ≤ b
variable {lo : Nat} {L : Nat → Nat} {F : Nat → Rw} {H : Nat → Option Obj} {w w' : World}
theorem heap_lt {b : Nat} {o : Obj} (h : w.heap[b]? = some o) : b < w.heap.size := by
  rcases Nat.lt_or_ge b w.heap.size with h1 | h1
  · exact h1
  · rw [Array.getElem?_eq_none h1] at h
    cases h
theorem ST.kept (h : ST lo L F H w) (hb : Below w.heap.size w w') : ST lo L F H w' :=
  ⟨fun l hl => own_kept (h.row l hl) fun g hg => hb.block g (own_ge (h.row l hl) hg).2, h.lab, fun b o ho => by
    obtain ⟨h1, h2, h3⟩ := h.box b o ho
    exact ⟨(hb.block b (heap_lt h1)).trans h1, h2, h3⟩⟩
/-- A block made. -/
theorem ST.newBox (h : ST lo L F H w) (hb : Below w.heap.size w w') {b : Nat} {o : Obj} (hge : w.heap.size ≤ b) (hlo : lo ≤ b) (ho : w'.heap[b]? = some o) : ST lo (up L b 0) F (up H b (some o)) w' := by
  have k := h.kept hb
  refine ⟨k.row, fun l hl g hg => ?_, fun b' o' ho' => ?_⟩
  · have := (own_ge (h.row l hl) hg).2
    rw [up_ne _ _ (by omega)]
    exact h.lab l hl g hg
  · by_cases e : b' = b
    · subst e
      rw [up_at] at ho'
      injection ho' with ho'
      subst ho'
      exact ⟨ho, up_at _ _ _, hlo⟩
    · rw [up_ne _ _ e] at ho'
      obtain ⟨h1, h2, h3⟩ := k.box b' o' ho'
      exact ⟨h1, by rw [up_ne _ _ e]; exact h2, h3⟩
/-- A store into a block that is known whole. -/
theorem ST.setBox (h : ST lo L F H w) {b i : Nat} {C : Array Value} {t : TypeId} (hb : H b = some (.cells C t (0, 0))) (u : Value) :
    ST lo L F (up H b (some (.cells (C.setIfInBounds i u) t (0, 0)))) (w.setCell ⟨b, i, none⟩ u) := by
  obtain ⟨h1, h2, h3⟩ := h.box b _ hb
  refine ⟨fun l hl => own_kept (h.row l hl) fun g hg => Below.heap_setCell _ _ _ _ ?_, h.lab, fun b' o' ho' => ?_⟩
  · rintro rfl
    have := h.lab l hl _ hg
    exact hl (this.symm.trans h2)
  · by_cases e : b' = b
    · subst e
      rw [up_at] at ho'
      injection ho' with ho'
      subst ho'
      exact ⟨Blk.set (show Blk w b' C t from h1) i u, h2, h3⟩
    · rw [up_ne _ _ e] at ho'
      obtain ⟨k1, k2, k3⟩ := h.box b' o' ho'
      exact ⟨(Below.heap_setCell _ _ _ _ e).trans k1, k2, k3⟩
/-- A row grows. -/
theorem ST.grow (h : ST lo L F H w) {l : Nat} (hl : l ≠ 0) {v' : Value} {n' : Nat} {xs' : List Value} (hg : w.grownBy w' (F l).v.ownBlock) (ho : w'.ownsRow lo (F l).e (F l).z v' n' xs') (hat : v'.ownBlock = (F l).v.ownBlock ∨ v'.ownBlock = some w.heap.size) :
    ∃ L', ST lo L' (up F l ⟨(F l).e, (F l).z, v', n', xs'⟩) H w' := by
  refine ⟨fun k => if v'.ownBlock = some k then l else L k, fun l' hl' => ?_, fun l' hl' g hg' => ?_, fun b o hb => ?_⟩
  · by_cases e : l' = l
    · subst e
      rw [up_at]
      exact ho
    · rw [up_ne _ _ e]
      refine own_kept (h.row l' hl') fun g hg' => hg.block g (own_ge (h.row l' hl') hg').2 fun e2 => e ?_
      exact (h.lab l' hl' g hg').symm.trans (h.lab l hl g e2.symm)
  · by_cases e : l' = l
    · subst e
      rw [up_at] at hg'
      exact if_pos hg'
    · rw [up_ne _ _ e] at hg'
      have hlt := (own_ge (h.row l' hl') hg').2
      have hL := h.lab l' hl' g hg'
      show (if v'.ownBlock = some g then l else L g) = l'
      rw [if_neg]
      · exact hL
      · intro e2
        rcases hat with e3 | e3
        · exact e (hL.symm.trans (h.lab l hl g (e3.symm.trans e2)))
        · rw [e3] at e2
          injection e2 with e2
          omega
  · obtain ⟨h1, h2, h3⟩ := h.box b o hb
    have hlt := heap_lt h1
    refine ⟨(hg.block b hlt fun e => hl ?_).trans h1, ?_, h3⟩
    · exact (h.lab l hl b e.symm).symm.trans h2
    · show (if v'.ownBlock = some b then l else L b) = 0
      rw [if_neg]
      · exact h2
      · intro e2
        rcases hat with e3 | e3
        · exact hl ((h.lab l hl b (e3.symm.trans e2)).symm.trans h2)
        · rw [e3] at e2
          injection e2 with e2
          omega
/-- A row is cut. -/
theorem ST.cut (h : ST lo L F H w) {l : Nat} (hl : l ≠ 0) {a : Option Addr} {n c m : Nat} (hv : (F l).v = .slice a n c) (hn : (F l).n = n) (hm : m ≤ n) (h0 : 0 < n) :
    ST lo L (up F l ⟨(F l).e, (F l).z, .slice a m c, m, (F l).xs.take (m * (F l).z)⟩) H w := by
  refine ⟨fun l' hl' => ?_, fun l' hl' g hg' => ?_, h.box⟩
  · by_cases e : l' = l
    · subst e
      rw [up_at]
      have ho := h.row l' hl'
      rw [hv, hn] at ho
      obtain ⟨h1, h2⟩ := ho
      have hmul : m * (F l').z ≤ n * (F l').z := Nat.mul_le_mul_right _ hm
      refine ⟨by rw [List.length_take, h1, Nat.min_eq_left hmul], ?_⟩
      rcases h2 with ⟨_, h3⟩ | ⟨g, cap, cur, e1, hb, hg, hnc, hcm, hcs, htake⟩
      · omega
      · injection e1 with e1 e2 e3
        subst e1 e3
        refine .inr ⟨g, c, cur, rfl, hb, hg, Nat.le_trans hm hnc, hcm, hcs, ?_⟩
        show _ = List.take (m * (F l').z) (F l').xs
        rw [← htake, List.take_take, Nat.min_eq_left hmul]
    · rw [up_ne _ _ e]
      exact h.row l' hl'
  · by_cases e : l' = l
    · subst e
      rw [up_at] at hg'
      refine h.lab l' hl' g ?_
      rw [hv]
      cases a with
      | none => simp [Value.ownBlock] at hg'
      | some x => exact hg'
    · rw [up_ne _ _ e] at hg'
      exact h.lab l' hl' g hg'
/-- What a walk reads of a row. -/
theorem ST.at (h : ST lo L F H w) {l : Nat} (hl : l ≠ 0) {a : Option Addr} {n c : Nat} (hv : (F l).v = .slice a n c) {i : Nat} {u : Value} (hi : (F l).xs[i]? = some u) :
    ∃ g, a = some ⟨g, 0, none⟩ ∧ g < w.heap.size ∧ w.cell? ⟨g, i, none⟩ = some u ∧ w.frozen? ⟨g, i, none⟩ = false ∧ L g = l := by
  obtain ⟨h1, h2⟩ := h.row l hl
  rcases h2 with ⟨_, h3⟩ | ⟨g, cap, cur, e1, hb, hg, hnc, hcm, hcs, htake⟩
  · rw [h3, Nat.zero_mul] at h1
    rw [List.eq_nil_of_length_eq_zero h1] at hi
    simp at hi
  · rw [hv] at e1
    injection e1 with e1 e2 e3
    subst e1
    refine ⟨g, rfl, heap_lt hg, ?_, ?_, h.lab l hl g (by rw [hv]; rfl)⟩
    · have : cur[i]? = some u := by
        rw [← htake, List.getElem?_take] at hi
        split at hi
        · simpa using hi
        · cases hi
      simp [World.cell?, hg, this]
    · simp [World.frozen?, hg]
/-- A store into a row. -/
theorem ST.setRow (h : ST lo L F H w) {l : Nat} (hl : l ≠ 0) {g n c i : Nat} (hv : (F l).v = .slice (some ⟨g, 0, none⟩) n c) (u : Value) :
    ST lo L (up F l ⟨(F l).e, (F l).z, (F l).v, (F l).n, (F l).xs.set i u⟩) H (w.setCell ⟨g, i, none⟩ u) := by
  have hL : L g = l := h.lab l hl g (by rw [hv]; rfl)
  refine ⟨fun l' hl' => ?_, fun l' hl' g' hg' => ?_, fun b o hb => ?_⟩
  · by_cases e : l' = l
    · subst e
      rw [up_at]
      obtain ⟨h1, h2⟩ := h.row l' hl'
      refine ⟨by show ((F l').xs.set i u).length = _; rw [List.length_set]; exact h1, ?_⟩
      rcases h2 with ⟨h3, _⟩ | ⟨g', cap, cur, e1, hb, hg, hnc, hcm, hcs, htake⟩
      · rw [hv] at h3
        cases h3
      · have eg : g' = g := by
          rw [hv] at e1
          injection e1 with e1
          injection e1 with e1
          injection e1 with e1
          exact e1.symm
        subst eg
        refine .inr ⟨g', cap, cur.setIfInBounds i u, e1, hb, Blk.set (show Blk w g' cur _ from hg) i u, hnc, hcm, by rw [Array.size_setIfInBounds]; exact hcs, ?_⟩
        rw [Array.toList_setIfInBounds, List.take_set, htake]
    · rw [up_ne _ _ e]
      refine own_kept (h.row l' hl') fun g' hg' => Below.heap_setCell _ _ _ _ ?_
      rintro rfl
      exact e ((h.lab l' hl' _ hg').symm.trans hL)
  · by_cases e : l' = l
    · subst e
      rw [up_at] at hg'
      exact h.lab l' hl' g' hg'
    · rw [up_ne _ _ e] at hg'
      exact h.lab l' hl' g' hg'
  · obtain ⟨h1, h2, h3⟩ := h.box b o hb
    refine ⟨(Below.heap_setCell _ _ _ _ ?_).trans h1, h2, h3⟩
    rintro rfl
    exact hl (hL.symm.trans h2)
end Go.Proofs.YtocljdbihcikhaaFmt.psh
