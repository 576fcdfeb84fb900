/- Chains of property accesses, the plain law of 'TryToInsertOptionalChain': a second call changes nothing. No program in sight, no conditions. -/
namespace Go.Proofs.YtanaidcjiinpaaaRR.opt

/-- A node of a chain: its kind (0 dot, 1 index, 2 call), its name, its flag, its place in memory. -/
structure Nd where
  k : Nat
  nm : ByteArray
  fl : Int
  p : Nat
def same (a b : Nd) : Bool := decide (a.k = b.k ∧ a.fl = b.fl ∧ (a.k = 2 ∨ a.nm.toList = b.nm.toList))
def vl (ra rb : Int) : List Nd → List Nd → Bool
  | [], [] => decide (ra = rb)
  | a :: as, b :: bs => same a b && vl ra rb as bs
  | [], _ :: _ => false
  | _ :: _, [] => false
def up (n : Nd) (f : Int) : Nd := { n with fl := f }
def cont (n : Nd) : Nd := if n.fl = 0 then up n 2 else n
def ins (ra rb : Int) (A : List Nd) : List Nd → Bool × List Nd
  | [] => (false, [])
  | n :: r => if vl ra rb A r = true then (true, up n 1 :: r) else if (ins ra rb A r).1 = true then (true, cont n :: (ins ra rb A r).2) else (false, n :: r)
theorem vl_len (ra rb : Int) : ∀ (A B : List Nd), vl ra rb A B = true → A.length = B.length
  | [], [], _ => rfl
  | a :: as, b :: bs, h => by
    simp only [vl, Bool.and_eq_true] at h
    simp [vl_len ra rb as bs h.2]
  | [], _ :: _, h => by simp [vl] at h
  | _ :: _, [], h => by simp [vl] at h
theorem ins_len (ra rb : Int) (A : List Nd) : ∀ B, (ins ra rb A B).2.length = B.length
  | [] => rfl
  | n :: r => by
    unfold ins
    split
    · rfl
    · split
      · simp [ins_len ra rb A r]
      · rfl
theorem ins_lt (ra rb : Int) (A : List Nd) : ∀ B, (ins ra rb A B).1 = true → A.length < B.length
  | [], h => by simp [ins] at h
  | n :: r, h => by
    unfold ins at h
    split at h
    · rename_i e; have := vl_len ra rb A r e; simp; omega
    · split at h
      · rename_i e; have := ins_lt ra rb A r e; simp; omega
      · cases h
theorem ins_no (ra rb : Int) (A : List Nd) : ∀ B, (ins ra rb A B).1 = false → (ins ra rb A B).2 = B
  | [], _ => rfl
  | n :: r, h => by
    unfold ins at h ⊢
    split at h
    · cases h
    · rename_i e1
      split at h
      · cases h
      · rename_i e2
        rw [if_neg e1, if_neg e2]
theorem cont_cont (n : Nd) : cont (cont n) = cont n := by
  unfold cont
  by_cases h : n.fl = 0
  · rw [if_pos h, if_neg (by simp [up])]
  · rw [if_neg h, if_neg h]
theorem ins_ins (ra rb : Int) (A : List Nd) : ∀ B, ins ra rb A (ins ra rb A B).2 = ((ins ra rb A B).1, (ins ra rb A B).2)
  | [] => rfl
  | n :: r => by
    by_cases e1 : vl ra rb A r = true
    · have h : ins ra rb A (n :: r) = (true, up n 1 :: r) := by rw [ins, if_pos e1]
      rw [h]
      show ins ra rb A (up n 1 :: r) = _
      rw [ins, if_pos e1]
      rfl
    · by_cases e2 : (ins ra rb A r).1 = true
      · have h : ins ra rb A (n :: r) = (true, cont n :: (ins ra rb A r).2) := by rw [ins, if_neg e1, if_pos e2]
        rw [h]
        show ins ra rb A (cont n :: (ins ra rb A r).2) = _
        have e3 : ¬ vl ra rb A (ins ra rb A r).2 = true := fun e => by
          have h1 := vl_len ra rb A _ e
          have h2 := ins_lt ra rb A r e2
          rw [ins_len] at h1
          omega
        have ih := ins_ins ra rb A r
        rw [ins, if_neg e3, ih, if_pos e2, cont_cont]
      · have h : ins ra rb A (n :: r) = (false, n :: r) := by rw [ins, if_neg e1, if_neg e2]
        rw [h]
        show ins ra rb A (n :: r) = _
        exact h
end Go.Proofs.YtanaidcjiinpaaaRR.opt
