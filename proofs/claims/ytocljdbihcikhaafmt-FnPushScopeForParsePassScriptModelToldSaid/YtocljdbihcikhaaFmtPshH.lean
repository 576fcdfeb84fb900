/- The law's own model of the stack and the tree, and how a round turns it. No conditions beyond the hypotheses. -/
import Derived.Test.YtocljdbihcikhaaFmtPshG
namespace Go.Proofs.YtocljdbihcikhaaFmt.psh
open Go.ChangeShapes Go.WideShapes Go.ChangeAt Go.RowKit Go.Mine
set_option linter.unusedVariables false
set_option linter.unusedSimpArgs false
set_option maxRecDepth 100000

@[reducible] def parI : Option Nat → Int
  | none => -1
  | some q => q
@[reducible] def Nd (d n : Nat) : Nat → Nat := fun l => if l = 1 then d else n
@[reducible] def fs (stk : Nat → Nat) (par : Nat → Option Nat) (pos : Nat → Nat) (kd lc : Nat → Int) (nc : Nat → Nat) : Nat → Nat → Value
  | 1, j => .int .i64 (stk j)
  | 2, j => .int .i64 (parI (par j))
  | 3, j => .int .i64 (pos j)
  | 4, j => .int .u8 (kd j)
  | 5, j => .int .i32 (lc j)
  | _, j => .int .i64 (nc j)
@[reducible] def vs (d n : Nat) (a1 a2 a3 a4 a5 a6 : Option Addr) (c1 c2 c3 c4 c5 c6 : Nat) : Nat → Value
  | 1 => .slice a1 d c1
  | 2 => .slice a2 n c2
  | 3 => .slice a3 n c3
  | 4 => .slice a4 n c4
  | 5 => .slice a5 n c5
  | _ => .slice a6 n c6
@[reducible] def cuOf : Nat → (Nat → Nat) → Option Nat
  | 0, _ => none
  | d + 1, stk => some (stk d)
/-- The plain facts. -/
structure Md (base : Int) (i d n : Nat) (stk : Nat → Nat) (par : Nat → Option Nat) (pos : Nat → Nat) (kd lc : Nat → Int) (nc : Nat → Nat) (chs : Nat → Nat → Nat) : Prop where
  di : d ≤ n
  ni : n ≤ i
  sl : ∀ j, j < d → stk j < n
  s0 : 0 < d → par (stk 0) = none
  s1 : ∀ j, j + 1 < d → par (stk (j + 1)) = some (stk j)
  pl : ∀ j q, j < n → par j = some q → q < n
  ps : ∀ j q, j < n → par j = some q → pos j < nc q ∧ chs q (pos j) = j
  ll : ∀ j, j < n → lc j < base + i
  nb : ∀ q, nc q ≤ n
  nz : ∀ q, n ≤ q → nc q = 0
  kb : ∀ j, j < n → 0 ≤ kd j ∧ kd j < 12
section
variable {base : Int} {i d n : Nat} {stk : Nat → Nat} {par : Nat → Option Nat} {pos : Nat → Nat} {kd lc : Nat → Int} {nc : Nat → Nat} {chs : Nat → Nat → Nat}
theorem Md.skip (h : Md base i d n stk par pos kd lc nc chs) : Md base (i + 1) d n stk par pos kd lc nc chs := by
  obtain ⟨a1, a2, a3, a4, a5, a6, a7, a8, a9, b1, b2⟩ := h
  exact ⟨a1, by omega, a3, a4, a5, a6, a7, fun j hj => by have := a8 j hj; omega, a9, b1, b2⟩
theorem Md.pop (h : Md base i (d + 1) n stk par pos kd lc nc chs) : Md base (i + 1) d n stk par pos kd lc nc chs := by
  obtain ⟨a1, a2, a3, a4, a5, a6, a7, a8, a9, b1, b2⟩ := h
  exact ⟨by omega, by omega, fun j hj => a3 j (by omega), fun hd => a4 (by omega), fun j hj => a5 j (by omega), a6, a7, fun j hj => by have := a8 j hj; omega, a9, b1, b2⟩
theorem Md.popCu (h : Md base i (d + 1) n stk par pos kd lc nc chs) : par (stk d) = cuOf d stk := by
  cases d with
  | zero => exact h.s0 (by omega)
  | succ e => exact h.s1 e (by omega)
theorem Md.cuLt (h : Md base i d n stk par pos kd lc nc chs) : ∀ q, cuOf d stk = some q → q < n := by
  intro q hq
  cases d with
  | zero => cases hq
  | succ e => cases hq; exact h.sl e (by omega)
/-- A push, onto nothing or onto the current scope. -/
theorem Md.push (h : Md base i d n stk par pos kd lc nc chs) {cu : Option Nat} (hcu : cu = cuOf d stk) {ps : Nat} (hps : ∀ q, cu = some q → ps = nc q) {k l : Int} (hk : 0 ≤ k ∧ k < 12) (hl : l = base + i) {nc' : Nat → Nat} {chs' : Nat → Nat → Nat}
    (h0 : cu = none → nc' = nc ∧ chs' = chs) (h1 : ∀ q, cu = some q → nc' = up nc q (nc q + 1) ∧ chs' = up chs q (up (chs q) (nc q) n)) :
    Md base (i + 1) (d + 1) (n + 1) (up stk d n) (up par n cu) (up pos n ps) (up kd n k) (up lc n l) nc' chs' := by
  have hq := h.cuLt
  rw [← hcu] at hq
  obtain ⟨a1, a2, a3, a4, a5, a6, a7, a8, a9, b1, b2⟩ := h
  have st : ∀ j, j < d → up stk d n j = stk j := fun j hj => up_ne _ _ (by omega)
  have ht : up stk d n d = n := up_at _ _ _
  have pn : ∀ j, j < n → up par n cu j = par j := fun j hj => up_ne _ _ (by omega)
  have key : (∀ q, nc' q ≤ n + 1) ∧ (∀ q, n + 1 ≤ q → nc' q = 0) ∧ (∀ j q, j < n → par j = some q → pos j < nc' q ∧ chs' q (pos j) = j) ∧ (∀ q, cu = some q → ps < nc' q ∧ chs' q ps = n) := by
    cases hc : cu with
    | none =>
      obtain ⟨rfl, rfl⟩ := h0 hc
      exact ⟨fun q => by have := a9 q; omega, fun q hq => b1 q (by omega), a7, fun q hq => by cases hq⟩
    | some r =>
      obtain ⟨rfl, rfl⟩ := h1 r hc
      have hr := hq r hc
      have hp := hps r hc
      refine ⟨fun q => ?_, fun q hq => ?_, fun j q hj hq => ?_, fun q hq => ?_⟩
      · by_cases e : q = r
        · subst e; rw [up_at]; have := a9 q; omega
        · rw [up_ne _ _ e]; have := a9 q; omega
      · rw [up_ne _ _ (by omega)]; exact b1 q (by omega)
      · obtain ⟨g1, g2⟩ := a7 j q hj hq
        by_cases e : q = r
        · subst e
          rw [up_at, up_at, up_ne _ _ (by omega)]
          exact ⟨by omega, g2⟩
        · rw [up_ne _ _ e, up_ne _ _ e]
          exact ⟨g1, g2⟩
      · cases hq
        subst hp
        rw [up_at, up_at, up_at]
        exact ⟨by omega, rfl⟩
  obtain ⟨k1, k2, k3, k4⟩ := key
  refine ⟨by omega, by omega, fun j hj => ?_, fun _ => ?_, fun j hj => ?_, fun j q hj hq' => ?_, fun j q hj hq' => ?_, fun j hj => ?_, k1, k2, fun j hj => ?_⟩
  · by_cases e : j = d
    · subst e; rw [ht]; omega
    · rw [st j (by omega)]; have := a3 j (by omega); omega
  · by_cases e : d = 0
    · subst e
      rw [ht, up_at, hcu]
    · rw [st 0 (by omega), pn _ (a3 0 (by omega))]
      exact a4 (by omega)
  · by_cases e : j + 1 = d
    · subst e
      rw [ht, up_at, hcu, st j (by omega)]
    · rw [st (j + 1) (by omega), st j (by omega), pn _ (a3 (j + 1) (by omega))]
      exact a5 j (by omega)
  · by_cases e : j = n
    · subst e
      rw [up_at] at hq'
      have := hq q hq'
      omega
    · rw [pn j (by omega)] at hq'
      have := a6 j q (by omega) hq'
      omega
  · by_cases e : j = n
    · subst e
      rw [up_at] at hq'
      rw [up_at]
      exact k4 q hq'
    · rw [pn j (by omega)] at hq'
      rw [up_ne pos _ e]
      exact k3 j q (by omega) hq'
  · by_cases e : j = n
    · subst e; rw [up_at]; omega
    · rw [up_ne _ _ e]; have := a8 j (by omega); omega
  · by_cases e : j = n
    · subst e; rw [up_at]; exact hk
    · rw [up_ne _ _ e]; exact b2 j (by omega)
end
/-- The loop's state. -/
structure Lw (lo p : Nat) (base : Int) (i d n : Nat) (stk : Nat → Nat) (par : Nat → Option Nat) (pos : Nat → Nat) (kd lc : Nat → Int) (nc : Nat → Nat) (chs : Nat → Nat → Nat) (v : Nat → Value) (w0 w : World) : Prop where
  six : Six lo p n (cuOf d stk) par kd lc nc chs (Nd d n) (fs stk par pos kd lc nc) v w0 w
  md : Md base i d n stk par pos kd lc nc chs
section
variable {lo p : Nat} {base : Int} {i d n : Nat} {stk : Nat → Nat} {par : Nat → Option Nat} {pos : Nat → Nat} {kd lc : Nat → Int} {nc : Nat → Nat} {chs : Nat → Nat → Nat} {v : Nat → Value} {w0 w : World}
/-- Behind a push's call, ahead of the rows' turns: the rows' elements as they will be. -/
theorem six_none {v : Nat → Value} {ps : Nat} {k l : Int} (h : Six lo p (n + 1) (some n) (up par n none) (up kd n k) (up lc n l) nc chs (Nd 0 n) (fs stk par pos kd lc nc) v w0 w) :
    Six lo p (n + 1) (some n) (up par n none) (up kd n k) (up lc n l) nc chs (Nd 0 n) (fs (up stk 0 n) (up par n none) (up pos n ps) (up kd n k) (up lc n l) nc) v w0 w := by
  refine h.congr (fun _ _ _ => rfl) (fun l' j h1 h2 hj => ?_) (fun _ _ _ => rfl)
  match l', h1, h2, hj with
  | 1, _, _, hj => simp [Nd] at hj
  | 2, _, _, hj => simp [Nd] at hj; simp only [fs]; rw [up_ne _ _ (by omega)]
  | 3, _, _, hj => simp [Nd] at hj; simp only [fs]; rw [up_ne _ _ (by omega)]
  | 4, _, _, hj => simp [Nd] at hj; simp only [fs]; rw [up_ne _ _ (by omega)]
  | 5, _, _, hj => simp [Nd] at hj; simp only [fs]; rw [up_ne _ _ (by omega)]
  | 6, _, _, hj => rfl
theorem six_some {v : Nat → Value} {q ps : Nat} {k l : Int} {chs' : Nat → Nat → Nat} {f : Nat → Nat → Value} (h : Six lo p (n + 1) (some n) (up par n (some q)) (up kd n k) (up lc n l) (up nc q (nc q + 1)) chs' (Nd d n) f v w0 w) (hf : f = up (fs stk par pos kd lc nc) 6 (up (fs stk par pos kd lc nc 6) q (.int .i64 ((nc q : Int) + 1)))) :
    Six lo p (n + 1) (some n) (up par n (some q)) (up kd n k) (up lc n l) (up nc q (nc q + 1)) chs' (Nd d n) (fs (up stk d n) (up par n (some q)) (up pos n ps) (up kd n k) (up lc n l) (up nc q (nc q + 1))) v w0 w := by
  subst hf
  refine h.congr (fun _ _ _ => rfl) (fun l' j h1 h2 hj => ?_) (fun _ _ _ => rfl)
  match l', h1, h2, hj with
  | 1, _, _, hj => simp [Nd] at hj; rw [up_ne _ _ (by decide)]; simp only [fs]; rw [up_ne _ _ (by omega)]
  | 2, _, _, hj => simp [Nd] at hj; rw [up_ne _ _ (by decide)]; simp only [fs]; rw [up_ne _ _ (by omega)]
  | 3, _, _, hj => simp [Nd] at hj; rw [up_ne _ _ (by decide)]; simp only [fs]; rw [up_ne _ _ (by omega)]
  | 4, _, _, hj => simp [Nd] at hj; rw [up_ne _ _ (by decide)]; simp only [fs]; rw [up_ne _ _ (by omega)]
  | 5, _, _, hj => simp [Nd] at hj; rw [up_ne _ _ (by decide)]; simp only [fs]; rw [up_ne _ _ (by omega)]
  | 6, _, _, hj =>
    rw [up_at]
    by_cases e : j = q
    · subst e
      rw [up_at]
      simp only [fs]
      rw [up_at]
      simp
    · rw [up_ne _ _ e]
      simp only [fs]
      rw [up_ne _ _ e]
end
end Go.Proofs.YtocljdbihcikhaaFmt.psh
