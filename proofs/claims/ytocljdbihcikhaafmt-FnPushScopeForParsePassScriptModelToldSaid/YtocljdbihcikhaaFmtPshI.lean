/- The start of the law's walk: the parser's making, the first state. No conditions beyond the hypotheses. -/
import Derived.Test.YtocljdbihcikhaaFmtPshH
namespace Go.Proofs.YtocljdbihcikhaaFmt.psh
open Go.ChangeShapes Go.WideShapes Go.ChangeAt Go.RowKit Go.Mine
set_option linter.unusedVariables false
set_option linter.unusedSimpArgs false
set_option maxRecDepth 100000

theorem wp_buildTo {P : Program} {o : Oper} {a : Act} {w : World} {K : Act → World → Prop} {Q : Exit → Act → World → Prop} (t : TypeId) (parts : Array (Nat × Operand)) (ho : o.op = .build t parts) (cells : Array Value)
    (hf : P.built t (parts.map fun (i, x) => (i, a.eval x)).toList = some cells) (h : K (a.put o.dst (.agg cells)) w) : o.wp P a w K Q :=
  wp_build t parts ho (by rw [hf]; rfl) (by rw [hf]; exact h)
noncomputable def parC : Array Value := (Tryf.prog.built 174 []).getD #[]
theorem par104 : parC[104]? = some (.pointer none) := by kernel_rfl
theorem par177 : parC[177]? = some (.slice none 0 0) := by kernel_rfl
set_option maxHeartbeats 2000000 in
theorem par6 (w : World) : Calls Tryf.prog 6 #[] w fun e w' => e = .returned (.pointer (some ⟨w.heap.size, 0, none⟩)) ∧ w' = w.alloc (.cells parC 174) := by
  go_enter Tryf.func6, Tryf.ntmps6
  go_wp2
  refine wp_buildTo 174 _ rfl parC (by kernel_rfl) ?_
  go_wp2_with fail
  go_ret
  exact ⟨rfl, rfl⟩
/-- The rows at the start. -/
def F0 : Nat → Rw := fun l => if l = 7 then ⟨176, 2, .slice none 0 0, 0, []⟩ else if 8 ≤ l then ⟨31, 1, .slice none 0 0, 0, []⟩ else ⟨ety l, 1, .slice none 0 0, 0, []⟩
theorem F0_v (l : Nat) : (F0 l).v = .slice none 0 0 ∧ (F0 l).n = 0 ∧ (F0 l).xs = [] := by
  unfold F0
  by_cases h1 : l = 7
  · rw [if_pos h1]; exact ⟨rfl, rfl, rfl⟩
  · rw [if_neg h1]
    by_cases h2 : 8 ≤ l
    · rw [if_pos h2]; exact ⟨rfl, rfl, rfl⟩
    · rw [if_neg h2]; exact ⟨rfl, rfl, rfl⟩
theorem F0_8 (q : Nat) : F0 (8 + q) = ⟨31, 1, .slice none 0 0, 0, []⟩ := by
  unfold F0
  rw [if_neg (by omega), if_pos (by omega)]
theorem F0_l (l : Nat) (h : l ≤ 6) : F0 l = ⟨ety l, 1, .slice none 0 0, 0, []⟩ := by
  unfold F0
  rw [if_neg (by omega), if_neg (by omega)]
theorem start (u : World) (base : Int) (stk : Nat → Nat) (par : Nat → Option Nat) (pos : Nat → Nat) (kd lc : Nat → Int) (chs : Nat → Nat → Nat) :
    Lw u.heap.size u.heap.size base 0 0 0 stk par pos kd lc (fun _ => 0) chs (vs 0 0 none none none none none none 0 0 0 0 0 0) u (u.alloc (.cells parC 174)) := by
  refine ⟨⟨fun _ => 0, fun _ => 0, fun _ => 0, F0, up (fun _ => none) u.heap.size (some (.cells parC 174 (0, 0))), ⟨fun l hl => ?_, fun l hl g hg => ?_, fun b o ho => ?_⟩, ?_, fun l h1 h2 => ?_, (Below.refl _ _).alloc (Nat.le_refl _) _⟩, ?_⟩
  · obtain ⟨h1, h2, h3⟩ := F0_v l
    rw [h1, h2, h3]
    exact World.ownsRow_nil _ _ _ _
  · rw [(F0_v l).1] at hg
    cases hg
  · by_cases e : b = u.heap.size
    · subst e
      rw [up_at] at ho
      injection ho with ho
      subst ho
      exact ⟨Blk.new _ _ _, rfl, Nat.le_refl _⟩
    · rw [up_ne _ _ e] at ho
      cases ho
  · refine ⟨⟨parC, up_at _ _ _, par104, by rw [(F0_v 7).1]; exact par177⟩, rfl, rfl, rfl, fun j hj => by omega, fun q => by rw [F0_8], fun q => by rw [F0_8], fun q => by rw [F0_8], fun q c hc => by omega, fun q _ => ⟨rfl, by rw [F0_8]⟩, fun j hj => by omega, fun i j hi => by omega, fun q hq => (by cases hq), fun j q hj => by omega, fun q c hc => by omega, fun q => Nat.le_refl _, Nat.le_refl _⟩
  · rw [F0_l l h2]
    refine ⟨⟨rfl, rfl, ?_, fun j hj => ?_⟩, ?_⟩
    · simp [Nd]
    · simp [Nd] at hj
    · match l, h1, h2 with
      | 1, _, _ => rfl
      | 2, _, _ => rfl
      | 3, _, _ => rfl
      | 4, _, _ => rfl
      | 5, _, _ => rfl
      | 6, _, _ => rfl
  · exact ⟨Nat.le_refl _, Nat.le_refl _, fun j hj => by omega, fun h => by omega, fun j hj => by omega, fun j q hj => by omega, fun j q hj => by omega, fun j hj => by omega, fun q => Nat.le_refl _, fun q _ => rfl, fun j hj => by omega⟩
section
variable {lo p n m : Nat} {cu : Option Nat} {par : Nat → Option Nat} {kd lc : Nat → Int} {nc : Nat → Nat} {chs : Nat → Nat → Nat} {N N' : Nat → Nat} {f f' : Nat → Nat → Value} {v v' : Nat → Value} {w0 w w' : World}
theorem Six.cap (h : Six lo p n cu par kd lc nc chs N f v w0 w) (l : Nat) (h1 : 1 ≤ l) (h2 : l ≤ 6) {a : Option Addr} {k c : Nat} (hv : v l = .slice a k c) : N l = k ∧ k ≤ c ∧ c ≤ maxLen := by
  obtain ⟨sa, mb, L, F, H, s, fo, hr, hb0⟩ := h
  obtain ⟨r1, r2⟩ := hr l h1 h2
  obtain ⟨a', c', hv', hc1, hc2⟩ := s.form (l := l) (by omega)
  have e : Value.slice a' (F l).n c' = .slice a k c := by rw [← hv', r2, hv]
  injection e with e1 e2 e3
  subst e3
  rw [← e2]
  exact ⟨r1.hn.symm, hc1, hc2⟩
end
end Go.Proofs.YtocljdbihcikhaaFmt.psh
