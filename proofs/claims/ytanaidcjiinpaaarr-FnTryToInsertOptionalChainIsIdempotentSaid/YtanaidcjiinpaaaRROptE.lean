/- The row of nodes beside a chain, and a node's flag. No conditions beyond the hypotheses. -/
import Derived.Test.YtanaidcjiinpaaaRROptD
namespace Go.Proofs.YtanaidcjiinpaaaRR.opt
open Go.ChangeShapes Go.WideShapes Go.ChangeAt Go.RowKit Go.Mine
set_option linter.unusedVariables false
set_option linter.unusedSimpArgs false
set_option maxRecDepth 100000

abbrev pz : Value := .pointer none
def ndCell : List Nd → Nat → Value
  | [], _ => .pointer none
  | n :: B, j => if j / 3 = B.length then (if n.k = j % 3 then .pointer (some ⟨n.p, 0, none⟩) else .pointer none) else ndCell B j
def flAt : List Nd → Nat → Int
  | [], _ => 0
  | n :: B, j => if j = B.length then n.fl else flAt B j
theorem ndCell_ins (ra rb : Int) (A : List Nd) : ∀ (B : List Nd) (j : Nat), ndCell (ins ra rb A B).2 j = ndCell B j
  | [], j => rfl
  | n :: r, j => by
    unfold ins
    split
    · rfl
    · split
      · show (if j / 3 = (ins ra rb A r).2.length then _ else _) = _
        rw [ins_len, ndCell_ins ra rb A r j]
        have hc : (cont n).k = n.k ∧ (cont n).p = n.p := by unfold cont; split <;> exact ⟨rfl, rfl⟩
        rw [hc.1, hc.2]
        rfl
      · rfl
theorem ndCell_step {n : Nd} {B : List Nd} {i : Nat} (hi : B.length = i) (x0 x1 x2 : Value) (h0 : x0 = if n.k = 0 then .pointer (some ⟨n.p, 0, none⟩) else .pointer none) (h1 : x1 = if n.k = 1 then .pointer (some ⟨n.p, 0, none⟩) else .pointer none) (h2 : x2 = if n.k = 2 then .pointer (some ⟨n.p, 0, none⟩) else .pointer none) (j : Nat) :
    (if j = i * 3 + 2 then x2 else if j = i * 3 + 1 then x1 else if j = i * 3 then x0 else ndCell B j) = ndCell (n :: B) j := by
  have key : ∀ m, m < 3 → ndCell (n :: B) (i * 3 + m) = if n.k = m then .pointer (some ⟨n.p, 0, none⟩) else .pointer none := fun m hm => by
    show (if (i * 3 + m) / 3 = B.length then _ else _) = _
    rw [if_pos (by omega), show (i * 3 + m) % 3 = m by omega]
  by_cases e2 : j = i * 3 + 2
  · rw [if_pos e2, h2, e2, key 2 (by omega)]
  · rw [if_neg e2]
    by_cases e1 : j = i * 3 + 1
    · rw [if_pos e1, h1, e1, key 1 (by omega)]
    · rw [if_neg e1]
      by_cases e0 : j = i * 3
      · rw [if_pos e0, h0, e0, ← Nat.add_zero (i * 3), key 0 (by omega)]
      · rw [if_neg e0]
        show _ = if j / 3 = B.length then _ else _
        rw [if_neg (by omega)]
/-- What the three pointers of node j are, and where its flag lies. -/
theorem nd_at {w : World} {lo q0 : Nat} {r : Int} : ∀ {B : List Nd}, rep w lo q0 r B → ∀ j, j < B.length →
    ∃ k p o, p < w.heap.size ∧ (∀ i, i < 3 → ndCell B (j * 3 + i) = if k = i then .pointer (some ⟨p, 0, none⟩) else .pointer none) ∧ ((k = 0 ∧ o = 4) ∨ (k = 1 ∧ o = 5) ∨ (k = 2 ∧ o = 4)) ∧ w.cell? ⟨p, o, none⟩ = some (.int .u8 (flAt B j))
  | [], _, j, h => by simp at h
  | n :: B, h, j, hj => by
    by_cases e : j = B.length
    · have hlt := h.1.lt
      obtain ⟨h1, h2, hk⟩ := h.1
      have hc : ∀ i, i < 3 → ndCell (n :: B) (j * 3 + i) = if n.k = i then .pointer (some ⟨n.p, 0, none⟩) else .pointer none := fun i hi => by
        show (if (j * 3 + i) / 3 = B.length then _ else _) = _
        rw [if_pos (by omega), show (j * 3 + i) % 3 = i by omega]
      have hf : flAt (n :: B) j = n.fl := by show (if j = B.length then _ else _) = _; rw [if_pos e]
      rw [hf]
      rcases hk with ⟨ek, b⟩ | ⟨ek, q, R, c, C, _, _, _, _, _, _, b, _, _, _⟩ | ⟨ek, b⟩
      · exact ⟨n.k, n.p, 4, hlt, hc, .inl ⟨ek, rfl⟩, b.cell 4⟩
      · exact ⟨n.k, n.p, 5, hlt, hc, .inr (.inl ⟨ek, rfl⟩), b.cell 5⟩
      · exact ⟨n.k, n.p, 4, hlt, hc, .inr (.inr ⟨ek, rfl⟩), b.cell 4⟩
    · have hj' : j < B.length := by simp at hj; omega
      obtain ⟨k, p, o, k1, k2, k3, k4⟩ := nd_at h.2 j hj'
      refine ⟨k, p, o, k1, fun i hi => ?_, k3, ?_⟩
      · rw [← k2 i hi]
        show (if (j * 3 + i) / 3 = B.length then _ else _) = _
        rw [if_neg (by omega)]
      · rw [k4]
        show _ = some (Value.int .u8 (if j = B.length then _ else _))
        rw [if_neg e]
end Go.Proofs.YtanaidcjiinpaaaRR.opt
