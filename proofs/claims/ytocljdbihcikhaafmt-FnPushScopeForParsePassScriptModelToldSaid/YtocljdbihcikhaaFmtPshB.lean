/- How the forest turns: a new scope, a new child, a new row of the parser's. No conditions beyond the hypotheses. -/
import Derived.Test.YtocljdbihcikhaaFmtPshA
namespace Go.Proofs.YtocljdbihcikhaaFmt.psh
open Go.ChangeShapes Go.WideShapes Go.ChangeAt Go.RowKit Go.Mine
set_option linter.unusedVariables false
set_option linter.unusedSimpArgs false
set_option maxRecDepth 100000

section
variable {p n m : Nat} {cu : Option Nat} {par : Nat → Option Nat} {kd lc : Nat → Int} {nc : Nat → Nat} {chs : Nat → Nat → Nat} {sa mb : Nat → Nat} {lo : Nat} {L : Nat → Nat} {F : Nat → Rw} {H : Nat → Option Obj} {w w' : World}
theorem up_same {α : Type} (f : Nat → α) (l : Nat) {x : α} (h : f l = x) : up f l x = f := by
  funext k
  by_cases e : k = l
  · rw [e, up_at, h]
  · exact up_ne _ _ e
/-- The same value is stored once more. -/
theorem ST.again (h : ST lo L F H w) {b i : Nat} {C : Array Value} {t : TypeId} (hb : H b = some (.cells C t (0, 0))) {u : Value} (hu : C[i]? = some u) : ST lo L F H (w.setCell ⟨b, i, none⟩ u) := by
  have h1 := h.setBox hb (i := i) u
  have e : C.setIfInBounds i u = C := by
    apply Array.ext_getElem?
    intro j
    by_cases hj : i = j
    · subst hj
      rw [Array.getElem?_setIfInBounds_self_of_lt (Array.getElem?_eq_some_iff.1 hu).1, hu]
    · rw [Array.getElem?_setIfInBounds_ne hj]
  rw [e, up_same H b hb] at h1
  exact h1
theorem ptm {o : Option Nat} {f g : Nat → Nat} (h : ∀ q, o = some q → f q = g q) : pt (o.map f) = pt (o.map g) := by
  cases o with
  | none => rfl
  | some q => simp [h q rfl]
theorem Fo.lt (f : Fo p n m cu par kd lc nc chs sa mb F H) (h : ST lo L F H w) {j : Nat} (hj : j < n) : sa j < w.heap.size ∧ mb j < w.heap.size :=
  ⟨(h.lob (f.scp j hj).1).2, (h.lob (f.scp j hj).2).2⟩
/-- A new scope. -/
theorem Fo.fresh (f : Fo p n m cu par kd lc nc chs sa mb F H) (h : ST lo L F H w) (hb : Below w.heap.size w w') {b q : Nat} {k : Int} (hw : lo ≤ w.heap.size) (hq : w.heap.size ≤ q) (hqb : q < b) (e1 : w'.heap[q]? = some (.map #[] 0)) (e2 : Blk w' b (scC k (pt (cu.map sa)) (.slice none 0 0) q) 50) :
    ∃ L' H', ST lo L' F H' w' ∧ Fo p (n + 1) m cu (up par n cu) (up kd n k) lc nc chs (up sa n b) (up mb n q) F H' := by
  have s1 := h.newBox hb hq (by omega) e1
  have s2 := s1.kept (Below.refl _ w')
  have s3 : ST lo (up (up L q 0) b 0) F (up (up H q (some (.map #[] 0))) b (some (.cells (scC k (pt (cu.map sa)) (.slice none 0 0) q) 50 (0, 0)))) w' := by
    refine ⟨s1.row, fun l hl g hg => ?_, fun b' o' ho' => ?_⟩
    · have h1 := (own_ge (h.row l hl) hg).2
      rw [up_ne _ _ (by omega)]
      exact s1.lab l hl g hg
    · by_cases e : b' = b
      · subst e
        rw [up_at] at ho'
        injection ho' with ho'
        subst ho'
        exact ⟨e2, up_at _ _ _, by omega⟩
      · rw [up_ne _ _ e] at ho'
        obtain ⟨h1, h2, h3⟩ := s1.box b' o' ho'
        exact ⟨h1, by rw [up_ne _ _ e]; exact h2, h3⟩
  have sl : ∀ j, j < n → sa j ≠ q ∧ sa j ≠ b ∧ mb j ≠ q ∧ mb j ≠ b := fun j hj => by
    have := f.lt h hj
    omega
  obtain ⟨C, c1, c2, c3⟩ := f.pars
  have hp := (h.lob c1).2
  have su : ∀ j, j < n → up sa n b j = sa j := fun j hj => up_ne _ _ (by omega)
  refine ⟨_, _, s3, ⟨⟨C, ?_, ?_, c3⟩, f.e7, f.z7, f.n7, fun j hj => ?_, f.ec, f.zc, f.nn, fun q' c hc => ?_, fun q' hq' => f.vn q' (by omega), fun j hj => ?_, fun i j hi hj e => ?_, fun q' hq' => Nat.lt_succ_of_lt (f.cul q' hq'), fun j q' hj hq' => ?_, fun q' c hc => Nat.lt_succ_of_lt (f.chl q' c hc), fun q' => Nat.le_succ_of_le (f.ncs q'), Nat.le_succ_of_le f.ml⟩⟩
  · rw [up_ne _ _ (by omega), up_ne _ _ (by omega)]
    exact c1
  · rw [c2, ptm fun q' hq' => (su q' (f.cul q' hq')).symm]
  · rw [su j (Nat.lt_of_lt_of_le hj f.ml)]
    exact f.x7 j hj
  · rw [su _ (f.chl q' c hc)]
    exact f.xc q' c hc
  · by_cases e : j = n
    · subst e
      rw [up_at, up_at, up_at, up_at, up_at, up_ne _ _ (by omega), up_at, (f.vn j (Nat.le_refl _)).2, ptm fun q' hq' => (su q' (f.cul q' hq')).symm]
      exact ⟨rfl, rfl⟩
    · have hj' : j < n := by omega
      obtain ⟨n1, n2, n3, n4⟩ := sl j hj'
      rw [su j hj', up_ne mb _ e, up_ne kd _ e, up_ne par _ e, up_ne _ _ n2, up_ne _ _ n1, up_ne _ _ n4, up_ne _ _ n3, ← ptm fun q' hq' => (su q' (f.parl j q' hj' hq')).symm]
      exact f.scp j hj'
  · by_cases ei : i = n
    · by_cases ej : j = n
      · omega
      · subst ei
        rw [up_at, su j (by omega)] at e
        exact absurd e.symm (sl j (by omega)).2.1
    · by_cases ej : j = n
      · subst ej
        rw [up_at, su i (by omega)] at e
        exact absurd e (sl i (by omega)).2.1
      · rw [su i (by omega), su j (by omega)] at e
        exact f.inj i j (by omega) (by omega) e
  · by_cases e : j = n
    · subst e
      rw [up_at] at hq'
      exact Nat.lt_succ_of_lt (f.cul q' hq')
    · rw [up_ne _ _ e] at hq'
      exact Nat.lt_succ_of_lt (f.parl j q' (by omega) hq')
/-- A new child. -/
theorem Fo.child (f : Fo p n m cu par kd lc nc chs sa mb F H) (h : ST lo L F H w) {q x : Nat} (hq : q < n) (hx : x < n) (hc : nc q < n) {v' : Value} (hg : w.grownBy w' (F (8 + q)).v.ownBlock)
    (ho : w'.ownsRow lo 31 1 v' (nc q + 1) ((F (8 + q)).xs ++ [pt (some (sa x))])) (hat : v'.ownBlock = (F (8 + q)).v.ownBlock ∨ v'.ownBlock = some w.heap.size) :
    ∃ L' F' H', ST lo L' F' H' (w'.setCell ⟨sa q, 2, none⟩ v') ∧ Fo p n m cu par kd lc (up nc q (nc q + 1)) (up chs q (up (chs q) (nc q) x)) sa mb F' H' ∧ ∀ i, i < 8 → F' i = F i := by
  obtain ⟨L', s1⟩ := h.grow (l := 8 + q) (by omega) (n' := nc q + 1) hg (by rw [f.ec, f.zc]; exact ho) hat
  have ne8 : ∀ j, j ≠ q → 8 + j ≠ 8 + q := fun j hj => by omega
  obtain ⟨k1, k2⟩ := f.scp q hq
  have s2 := s1.setBox k1 (i := 2) v'
  have eC : (scC (kd q) (pt ((par q).map sa)) (F (8 + q)).v (mb q)).setIfInBounds 2 v' = scC (kd q) (pt ((par q).map sa)) v' (mb q) := by simp
  rw [eC] at s2
  refine ⟨_, _, _, s2, ⟨?_, ?_, ?_, ?_, fun j hj => ?_, fun j => ?_, fun j => ?_, fun j => ?_, fun j c hj => ?_, fun j hj => ?_, fun j hj => ?_, f.inj, f.cul, f.parl, fun j c hj => ?_, fun j => ?_, f.ml⟩, fun i hi => up_ne _ _ (by omega)⟩
  · obtain ⟨C, c1, c2, c3⟩ := f.pars
    exact ⟨C, by rw [up_ne _ _ (f.nep hq).1.symm]; exact c1, c2, by rw [up_ne _ _ (by omega)]; exact c3⟩
  · rw [up_ne _ _ (by omega)]; exact f.e7
  · rw [up_ne _ _ (by omega)]; exact f.z7
  · rw [up_ne _ _ (by omega)]; exact f.n7
  · rw [up_ne _ _ (by omega)]; exact f.x7 j hj
  · by_cases e : j = q
    · subst e; rw [up_at]; exact f.ec j
    · rw [up_ne _ _ (ne8 j e)]; exact f.ec j
  · by_cases e : j = q
    · subst e; rw [up_at]; exact f.zc j
    · rw [up_ne _ _ (ne8 j e)]; exact f.zc j
  · by_cases e : j = q
    · subst e; rw [up_at, up_at]
    · rw [up_ne _ _ (ne8 j e), up_ne _ _ e]; exact f.nn j
  · by_cases e : j = q
    · subst e
      rw [up_at] at hj
      rw [up_at, up_at]
      have hl : (F (8 + j)).xs.length = nc j := by
        have := (h.row (8 + j) (by omega)).1
        rw [f.nn, f.zc] at this
        omega
      show ((F (8 + j)).xs ++ [pt (some (sa x))])[c]? = _
      by_cases ec : c = nc j
      · subst ec
        rw [up_at, List.getElem?_append_right (by omega), hl]
        simp
      · rw [up_ne _ _ ec, List.getElem?_append_left (by omega)]
        exact f.xc j c (by omega)
    · rw [up_ne _ _ e] at hj
      rw [up_ne _ _ (ne8 j e), up_ne chs _ e]
      exact f.xc j c hj
  · rw [up_ne _ _ (show j ≠ q by omega), up_ne _ _ (ne8 j (by omega))]
    exact f.vn j hj
  · obtain ⟨n1, n2, n3⟩ := f.nep hj
    by_cases e : j = q
    · subst e
      rw [up_at, up_at, up_ne _ _ (n3 j hj)]
      exact ⟨rfl, k2⟩
    · rw [up_ne _ _ (fun e2 => e (f.inj j q hj hq e2)), up_ne _ _ (ne8 j e), up_ne _ _ (n3 q hq)]
      exact f.scp j hj
  · by_cases e : j = q
    · subst e
      rw [up_at] at hj
      rw [up_at]
      by_cases ec : c = nc j
      · subst ec; rw [up_at]; exact hx
      · rw [up_ne _ _ ec]; exact f.chl j c (by omega)
    · rw [up_ne _ _ e] at hj
      rw [up_ne _ _ e]
      exact f.chl j c hj
  · by_cases e : j = q
    · subst e; rw [up_at]; exact hc
    · rw [up_ne _ _ e]; exact f.ncs j
/-- A new row of the parser's. -/
theorem Fo.order (f : Fo p n m cu par kd lc nc chs sa mb F H) (h : ST lo L F H w) (hm : m < n) {l : Int} {v' : Value} (hg : w.grownBy w' (F 7).v.ownBlock)
    (ho : w'.ownsRow lo 176 2 v' (m + 1) ((F 7).xs ++ [pt (some (sa m)), .int .i32 l])) (hat : v'.ownBlock = (F 7).v.ownBlock ∨ v'.ownBlock = some w.heap.size) :
    ∃ L' F' H', ST lo L' F' H' (w'.setCell ⟨p, 177, none⟩ v') ∧ Fo p n (m + 1) cu par kd (up lc m l) nc chs sa mb F' H' ∧ ∀ i, i < 7 → F' i = F i := by
  obtain ⟨L', s1⟩ := h.grow (l := 7) (by decide) (n' := m + 1) hg (by rw [f.e7, f.z7]; exact ho) hat
  obtain ⟨C, c1, c2, c3⟩ := f.pars
  have hs : 177 < C.size := (Array.getElem?_eq_some_iff.1 c3).1
  refine ⟨_, _, _, s1.setBox c1 (i := 177) v', ⟨⟨_, up_at _ _ _, ?_, ?_⟩, ?_, ?_, ?_, fun j hj => ?_, fun j => ?_, fun j => ?_, fun j => ?_, fun j c hj => ?_, fun j hj => ?_, fun j hj => ?_, f.inj, f.cul, f.parl, f.chl, f.ncs, hm⟩, fun i hi => up_ne _ _ (by omega)⟩
  · rw [Array.getElem?_setIfInBounds_ne (by decide)]; exact c2
  · rw [Array.getElem?_setIfInBounds_self_of_lt hs, up_at]
  · rw [up_at]; exact f.e7
  · rw [up_at]; exact f.z7
  · rw [up_at]
  · rw [up_at]
    have hl : (F 7).xs.length = m * 2 := by
      have := (h.row 7 (by decide)).1
      rw [f.n7, f.z7] at this
      exact this
    show ((F 7).xs ++ [pt (some (sa m)), .int .i32 l])[j * 2]? = _ ∧ ((F 7).xs ++ [pt (some (sa m)), .int .i32 l])[j * 2 + 1]? = _
    by_cases e : j = m
    · subst e
      rw [List.getElem?_append_right (by omega), List.getElem?_append_right (by omega), hl, up_at]
      have e1 : j * 2 + 1 - j * 2 = 1 := by omega
      rw [e1, Nat.sub_self]
      exact ⟨rfl, rfl⟩
    · rw [List.getElem?_append_left (by omega), List.getElem?_append_left (by omega), up_ne _ _ e]
      exact f.x7 j (by omega)
  · rw [up_ne _ _ (by omega)]; exact f.ec j
  · rw [up_ne _ _ (by omega)]; exact f.zc j
  · rw [up_ne _ _ (by omega)]; exact f.nn j
  · rw [up_ne _ _ (by omega)]; exact f.xc j c hj
  · rw [up_ne _ _ (by omega)]; exact f.vn j hj
  · obtain ⟨n1, n2, n3⟩ := f.nep hj
    rw [up_ne _ _ n1, up_ne _ _ n2, up_ne _ _ (by omega)]
    exact f.scp j hj
end
end Go.Proofs.YtocljdbihcikhaaFmt.psh
