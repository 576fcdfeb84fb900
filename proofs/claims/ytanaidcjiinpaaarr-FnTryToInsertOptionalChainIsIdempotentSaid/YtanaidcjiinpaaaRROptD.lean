/- What 'TryToInsertOptionalChain' leaves. No conditions beyond the hypotheses. -/
import Derived.Test.YtanaidcjiinpaaaRROptC
namespace Go.Proofs.YtanaidcjiinpaaaRR.opt
open Go.ChangeShapes Go.WideShapes Go.ChangeAt Go.RowKit Go.Mine
set_option linter.unusedVariables false
set_option linter.unusedSimpArgs false
set_option maxRecDepth 100000

def off (n : Nd) : Nat := if n.k = 1 then 5 else 4
def In (B : List Nd) (k : Nat) : Prop := ∃ n ∈ B, n.p = k
def Tti (ra rb : Int) (A B : List Nd) (lo2 q0 : Nat) (w : World) (e : Ending) (w' : World) : Prop :=
  e = .returned (.bool (ins ra rb A B).1) ∧ rep w' lo2 q0 rb (ins ra rb A B).2 ∧ Same (In B) w w' ∧ Below lo2 w w'
theorem ty_ins (ra rb : Int) (A : List Nd) : ∀ B, ty (ins ra rb A B).2 = ty B
  | [] => rfl
  | n :: r => by
    unfold ins
    split
    · rfl
    · split
      · show ty (cont n :: _) = _
        unfold cont
        split <;> rfl
      · rfl
theorem pl_ins (ra rb : Int) (A : List Nd) (q0 : Nat) : ∀ B, pl q0 (ins ra rb A B).2 = pl q0 B
  | [] => rfl
  | n :: r => by
    unfold ins
    split
    · rfl
    · split
      · show pl q0 (cont n :: _) = _
        unfold cont
        split <;> rfl
      · rfl
theorem Node.up {w : World} {lo : Nat} {n : Nd} {T p : Nat} (h : Node w lo n T p) (f : Int) : Node (w.setCell ⟨n.p, off n, none⟩ (.int .u8 f)) lo (up n f) T p := by
  obtain ⟨h1, h2, h⟩ := h
  refine ⟨h1, h2, ?_⟩
  rcases h with ⟨e, b⟩ | ⟨e, q, R, c, C, q1, q2, q3, R1, R2, R3, b, bq, row, bR⟩ | ⟨e, b⟩
  · refine .inl ⟨e, ?_⟩
    have := b.set 4 (.int .u8 f)
    rw [show off n = 4 by simp [off, e]]
    simpa [opt.up] using this
  · refine .inr (.inl ⟨e, q, R, c, C, q1, q2, q3, R1, R2, R3, ?_, ?_, ?_, ?_⟩)
    · have := b.set 5 (.int .u8 f)
      rw [show off n = 5 by simp [off, e]]
      simpa [opt.up] using this
    · exact bq.setOther (a := ⟨n.p, off n, none⟩) (by show q ≠ n.p; omega) _
    · refine row.same (X := fun k => k = n.p) (Same.setCell (X := fun k => k = n.p) (p := ⟨n.p, off n, none⟩) (Same.refl _ _) rfl _) (fun x hx => ?_)
      cases hx
      show R ≠ n.p
      omega
    · exact bR.setOther (a := ⟨n.p, off n, none⟩) (by show R ≠ n.p; omega) _
  · refine .inr (.inr ⟨e, ?_⟩)
    have := b.set 4 (.int .u8 f)
    rw [show off n = 4 by simp [off, e]]
    simpa [opt.up] using this
theorem rep.setTop {w : World} {lo p0 : Nat} {r : Int} {B : List Nd} (h : rep w lo p0 r B) {a : Addr} (ha : pl p0 B < a.block) (u : Value) : rep (w.setCell a u) lo p0 r B :=
  h.kept (Nat.le_refl _) (fun k _ h2 => Below.heap_setCell _ _ _ _ (by omega))
theorem In.lt {w : World} {lo p0 : Nat} {r : Int} : ∀ {B : List Nd}, rep w lo p0 r B → ∀ k, In B k → lo ≤ k ∧ k ≤ pl p0 B
  | [], _, k, ⟨n, hn, _⟩ => by cases hn
  | n :: B, h, k, ⟨m, hm, e⟩ => by
    rcases List.mem_cons.1 hm with rfl | hm
    · subst e; exact ⟨h.1.1, Nat.le_refl _⟩
    · have := In.lt h.2 k ⟨m, hm, e⟩
      have := h.1.2.1
      exact ⟨by omega, by show k ≤ n.p; omega⟩
/-- A chain that lies wholly below another's places is kept. -/
theorem rep.aside {w w' : World} {lo p0 lo2 q0 : Nat} {ra rb : Int} {A B : List Nd} (hA : rep w lo p0 ra A) (hB : rep w lo2 q0 rb B) (hlt : pl p0 A < lo2) (hs : Same (In B) w w') : rep w' lo p0 ra A :=
  hA.kept (Nat.le_refl _) (fun k h1 h2 => hs.2 k (by have := hA.lt; omega) (fun hi => by have := (In.lt hB k hi).1; omega))
theorem Same.cons {B : List Nd} {n : Nd} {w w' : World} (h : Same (In B) w w') : Same (In (n :: B)) w w' := h.mono (fun k ⟨m, hm, e⟩ => ⟨m, List.mem_cons_of_mem _ hm, e⟩)
theorem In.head (n : Nd) (B : List Nd) : In (n :: B) n.p := ⟨n, List.mem_cons_self, rfl⟩
theorem fb_eq (a b : Int) : fb a b = decide (a = b) := by
  unfold fb
  by_cases h : a = b <;> simp [h]
theorem ty0 {n : Nd} {B : List Nd} (h : n.k = 0) : ty (n :: B) = 42 := by show (if n.k = 0 then _ else _) = _; rw [if_pos h]
theorem ty1 {n : Nd} {B : List Nd} (h : n.k = 1) : ty (n :: B) = 43 := by show (if n.k = 0 then _ else if n.k = 1 then _ else _) = _; rw [if_neg (by omega), if_pos h]
theorem ty2 {n : Nd} {B : List Nd} (h : n.k = 2) : ty (n :: B) = 44 := by show (if n.k = 0 then _ else if n.k = 1 then _ else _) = _; rw [if_neg (by omega), if_neg (by omega)]
theorem ty_cases : ∀ B : List Nd, ty B = 47 ∨ ty B = 42 ∨ ty B = 43 ∨ ty B = 44
  | [] => .inl rfl
  | n :: B => by
    by_cases h : n.k = 0
    · exact .inr (.inl (ty0 h))
    · by_cases h1 : n.k = 1
      · exact .inr (.inr (.inl (ty1 h1)))
      · refine .inr (.inr (.inr ?_))
        show (if n.k = 0 then _ else if n.k = 1 then _ else _) = _
        rw [if_neg h, if_neg h1]
theorem ty_ne_id (n : Nd) (B : List Nd) : ty (n :: B) ≠ 47 := by
  show (if n.k = 0 then _ else if n.k = 1 then _ else _) ≠ _
  split
  · decide
  · split <;> decide
theorem Node.k {w : World} {lo : Nat} {n : Nd} {T p : Nat} (h : Node w lo n T p) : n.k = 0 ∨ n.k = 1 ∨ n.k = 2 := by
  obtain ⟨_, _, h⟩ := h
  rcases h with ⟨e, _⟩ | ⟨e, _⟩ | ⟨e, _⟩
  · exact .inl e
  · exact .inr (.inl e)
  · exact .inr (.inr e)
theorem vls (ra rb : Int) (p0 q0 lo lo2 : Nat) : ∀ (A B : List Nd) (w : World), rep w lo p0 ra A → rep w lo2 q0 rb B →
    Calls Try.prog 13 #[ifp (ty A) (pl p0 A), ifp (ty B) (pl q0 B)] w (Vq (vl ra rb A B) w)
  | [], [], w, hA, hB => vls_id p0 q0 ra rb w hA hB
  | [], n :: B, w, hA, hB => vls_ne _ _ _ _ w (.inl rfl) (ty_cases _) (fun h => ty_ne_id n B h.symm)
  | a :: A, [], w, hA, hB => vls_ne _ _ _ _ w (ty_cases _) (.inl rfl) (ty_ne_id a A)
  | a :: A, b :: B, w, hA, hB => by
    have IH := fun m => vls ra rb p0 q0 lo lo2 A B (w.drewN m) (hA.2.drewN m) (hB.2.drewN m)
    have ka := hA.1.k
    have kb := hB.1.k
    obtain ⟨a1, a2, hka⟩ := hA.1
    obtain ⟨b1, b2, hkb⟩ := hB.1
    show Calls _ _ #[ifp (ty (a :: A)) a.p, ifp (ty (b :: B)) b.p] w (Vq (same a b && vl ra rb A B) w)
    by_cases hk : a.k = b.k
    · rcases hka with ⟨ea, xa⟩ | ⟨ea, qa, Ra, ca, Ca, _, _, _, _, _, _, xa, sa, ia, _⟩ | ⟨ea, xa⟩
      · rcases hkb with ⟨eb, xb⟩ | ⟨eb, _⟩ | ⟨eb, _⟩
        · rw [ty0 ea, ty0 eb]
          have h := vls_dot a.p b.p _ _ _ _ a.nm b.nm a.fl b.fl _ w xa xb IH
          rw [fb_eq] at h
          have e : same a b = (decide (a.fl = b.fl) && decide (a.nm.toList = b.nm.toList)) := by
            unfold same
            rw [← Bool.decide_and, decide_eq_decide]
            constructor
            · rintro ⟨_, h2, h3⟩; exact ⟨h2, h3.resolve_left (by omega)⟩
            · rintro ⟨h2, h3⟩; exact ⟨hk, h2, .inr h3⟩
          rw [e]
          exact h
        · omega
        · omega
      · rcases hkb with ⟨eb, _⟩ | ⟨eb, qb, Rb, cb, Cb, _, _, _, _, _, _, xb, sb, ib, _⟩ | ⟨eb, _⟩
        · omega
        · rw [ty1 ea, ty1 eb]
          have IS := fun m => vls_str qa qb (some ⟨Ra, 0, none⟩) (some ⟨Rb, 0, none⟩) _ ca _ cb (units a.nm) (units b.nm) (w.drewN m) ((sa.below (below_drewN' m)).cell 0) (ia.below (below_drewN' m)) ((sb.below (below_drewN' m)).cell 0) (ib.below (below_drewN' m))
          have h := vls_idx a.p b.p _ _ _ _ qa qb a.fl b.fl _ _ w xa xb IH IS
          rw [fb_eq, units_eq] at h
          have e : same a b = (decide (a.fl = b.fl) && decide (a.nm.toList = b.nm.toList)) := by
            unfold same
            rw [← Bool.decide_and, decide_eq_decide]
            constructor
            · rintro ⟨_, h2, h3⟩; exact ⟨h2, h3.resolve_left (by omega)⟩
            · rintro ⟨h2, h3⟩; exact ⟨hk, h2, .inr h3⟩
          rw [e]
          exact h
        · omega
      · rcases hkb with ⟨eb, _⟩ | ⟨eb, _⟩ | ⟨eb, xb⟩
        · omega
        · omega
        · rw [ty2 ea, ty2 eb]
          have h := vls_call a.p b.p _ _ _ _ a.fl b.fl _ w xa xb IH
          rw [fb_eq] at h
          have e : same a b = decide (a.fl = b.fl) := by
            unfold same
            rw [decide_eq_decide]
            constructor
            · rintro ⟨_, h2, h3⟩; exact h2
            · rintro h2; exact ⟨hk, h2, .inl ea⟩
          rw [e]
          exact h
    · have e : same a b = false := by unfold same; rw [decide_eq_false_iff_not]; exact fun h => hk h.1
      rw [e, Bool.false_and]
      refine vls_ne _ _ _ _ w (ty_cases _) (ty_cases _) (fun h => hk ?_)
      rcases ka with ka | ka | ka <;> rcases kb with kb | kb | kb
      all_goals first
        | omega
        | (exfalso; first | rw [ty0 ka] at h | rw [ty1 ka] at h | rw [ty2 ka] at h
           first | rw [ty0 kb] at h | rw [ty1 kb] at h | rw [ty2 kb] at h
           exact absurd h (by decide))
section
variable {w X w2 : World} {lo p0 lo2 q0 : Nat} {ra rb : Int} {A B : List Nd} {n : Nd}
theorem post_hit (h : rep w lo2 q0 rb (n :: B)) (hb : Below w.heap.size w X) (hv : vl ra rb A B = true) : Tti ra rb A (n :: B) lo2 q0 w (.returned (.bool true)) (X.setCell ⟨n.p, off n, none⟩ (.int .u8 1)) := by
  have hi : ins ra rb A (n :: B) = (true, up n 1 :: B) := by rw [ins, if_pos hv]
  have hX := h.below hb
  have hl : lo2 ≤ w.heap.size := by have := h.1.1; have := h.1.lt; omega
  refine ⟨by rw [hi], ?_, ((Same.of_below hb).setCell (p := ⟨n.p, off n, none⟩) (In.head n B) _), (hb.mono hl).setCell (p := ⟨n.p, off n, none⟩) h.1.1 _⟩
  rw [hi]
  exact ⟨hX.1.up 1, hX.2.setTop (a := ⟨n.p, off n, none⟩) hX.1.2.1 _⟩
theorem node_later (h : rep w lo2 q0 rb (n :: B)) (hb : Below w.heap.size w X) (hs2 : Same (In B) X w2) : Node w2 lo2 n (ty B) (pl q0 B) := by
  have hX := h.below hb
  exact hX.1.kept (Nat.le_refl _) (fun k h1 h2 h3 => hs2.2 k (by have := hX.1.lt; omega) (fun hi => by have := (In.lt hX.2 k hi).2; omega))
theorem post_rec (h : rep w lo2 q0 rb (n :: B)) (hb : Below w.heap.size w X) (hv : vl ra rb A B = false) (ht : (ins ra rb A B).1 = true) (hr2 : rep w2 lo2 q0 rb (ins ra rb A B).2) (hs2 : Same (In B) X w2) (hb2 : Below lo2 X w2) :
    (n.fl = 0 → Tti ra rb A (n :: B) lo2 q0 w (.returned (.bool true)) (w2.setCell ⟨n.p, off n, none⟩ (.int .u8 2))) ∧ (n.fl ≠ 0 → Tti ra rb A (n :: B) lo2 q0 w (.returned (.bool true)) w2) := by
  have hi : ins ra rb A (n :: B) = (true, cont n :: (ins ra rb A B).2) := by rw [ins, if_neg (by rw [hv]; decide), if_pos ht]
  have hn := node_later h hb hs2
  have hS : Same (In (n :: B)) w w2 := (Same.of_below hb).trans (Same.cons hs2)
  have hlt : pl q0 B < n.p := h.1.2.1
  have hl : lo2 ≤ w.heap.size := by have := h.1.1; have := h.1.lt; omega
  have hB2 : Below lo2 w w2 := (hb.mono hl).trans hb2
  refine ⟨fun h0 => ⟨by rw [hi], ?_, hS.setCell (p := ⟨n.p, off n, none⟩) (In.head n B) _, hB2.setCell (p := ⟨n.p, off n, none⟩) h.1.1 _⟩, fun h0 => ⟨by rw [hi], ?_, hS, hB2⟩⟩
  · rw [hi]
    have hc : cont n = up n 2 := by unfold cont; rw [if_pos h0]
    rw [hc]
    refine ⟨?_, hr2.setTop (a := ⟨n.p, off n, none⟩) (by rw [pl_ins]; exact hlt) _⟩
    rw [ty_ins, pl_ins]
    exact hn.up 2
  · rw [hi]
    have hc : cont n = n := by unfold cont; rw [if_neg h0]
    rw [hc]
    refine ⟨?_, hr2⟩
    rw [ty_ins, pl_ins]
    exact hn
theorem post_no (h : rep w lo2 q0 rb (n :: B)) (hb : Below w.heap.size w X) (hv : vl ra rb A B = false) (ht : (ins ra rb A B).1 = false) (hr2 : rep w2 lo2 q0 rb (ins ra rb A B).2) (hs2 : Same (In B) X w2) (hb2 : Below lo2 X w2) :
    Tti ra rb A (n :: B) lo2 q0 w (.returned (.bool false)) w2 := by
  have hi : ins ra rb A (n :: B) = (false, n :: B) := by rw [ins, if_neg (by rw [hv]; decide), if_neg (by rw [ht]; decide)]
  rw [ins_no ra rb A B ht] at hr2
  have hl : lo2 ≤ w.heap.size := by have := h.1.1; have := h.1.lt; omega
  refine ⟨by rw [hi], ?_, (Same.of_below hb).trans (Same.cons hs2), (hb.mono hl).trans hb2⟩
  rw [hi]
  exact ⟨node_later h hb hs2, hr2⟩
end
end Go.Proofs.YtanaidcjiinpaaaRR.opt
