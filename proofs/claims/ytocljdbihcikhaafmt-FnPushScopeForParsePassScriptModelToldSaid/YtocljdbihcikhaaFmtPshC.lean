/- The contract of 'pushScopeForParsePass'. No conditions beyond the hypotheses. -/
import Derived.Test.YtocljdbihcikhaaFmtPshB
import Derived.Deep.QuietTactic
import Derived.Laws.IdiomRangeMap
namespace Go.Proofs.YtocljdbihcikhaaFmt.psh
open Go.ChangeShapes Go.WideShapes Go.ChangeAt Go.RowKit Go.Mine
set_option linter.unusedVariables false
set_option linter.unusedSimpArgs false
set_option maxRecDepth 100000

/-- What a push leaves. -/
def Pushed (lo p n : Nat) (cu : Option Nat) (par : Nat → Option Nat) (kd lc : Nat → Int) (nc : Nat → Nat) (chs : Nat → Nat → Nat) (F : Nat → Rw) (k l : Int) (w : World) (e : Ending) (w' : World) : Prop :=
  e = .returned (.int .i64 n) ∧ ∃ nc' chs' sa' mb' L' F' H', ST lo L' F' H' w' ∧ Fo p (n + 1) (n + 1) (some n) (up par n cu) (up kd n k) (up lc n l) nc' chs' sa' mb' F' H' ∧ (∀ i, i < 7 → F' i = F i) ∧
    (cu = none → nc' = nc ∧ chs' = chs) ∧ (∀ q, cu = some q → nc' = up nc q (nc q + 1) ∧ chs' = up chs q (up (chs q) (nc q) n)) ∧ Below lo w w'
/-- What stands behind the store of the current scope. -/
def Half (lo p n : Nat) (cu : Option Nat) (par : Nat → Option Nat) (kd lc : Nat → Int) (nc : Nat → Nat) (chs : Nat → Nat → Nat) (F : Nat → Rw) (k : Int) (b : Nat) (w w' : World) : Prop :=
  ∃ nc' chs' sa' mb' L' F' H', ST lo L' F' H' w' ∧ Fo p (n + 1) n (some n) (up par n cu) (up kd n k) lc nc' chs' sa' mb' F' H' ∧ sa' n = b ∧ (∀ i, i < 7 → F' i = F i) ∧
    (cu = none → nc' = nc ∧ chs' = chs) ∧ (∀ q, cu = some q → nc' = up nc q (nc q + 1) ∧ chs' = up chs q (up (chs q) (nc q) n)) ∧ Below lo w w'
section
variable {p n m : Nat} {cu : Option Nat} {par : Nat → Option Nat} {kd lc : Nat → Int} {nc : Nat → Nat} {chs : Nat → Nat → Nat} {sa mb : Nat → Nat} {lo : Nat} {L : Nat → Nat} {F : Nat → Rw} {H : Nat → Option Obj} {w : World} {k l : Int}
theorem Fo.lop (f : Fo p n m cu par kd lc nc chs sa mb F H) (h : ST lo L F H w) : lo ≤ p ∧ p < w.heap.size := by
  obtain ⟨C, c1, _⟩ := f.pars
  exact h.lob c1
theorem heap_new' (W : World) {B : Nat} {o : Obj} (h : W.heap.size = B) : (W.alloc o).heap[B]? = some o := h ▸ heap_alloc_new W o
/-- The world behind the making of a scope. -/
abbrev mk3 (w : World) (k l : Int) (v : Value) : World := ((w.alloc (.cells #[.int .i32 l] 42)).alloc (.map #[] 0)).alloc (.cells (scC k v (.slice none 0 0) (w.heap.size + 1)) 50)
theorem mk3_below (w : World) (k l : Int) (v : Value) : Below w.heap.size w (mk3 w k l v) := (((Below.refl _ _).alloc (Nat.le_refl _) _).alloc (by simp) _).alloc (by simp <;> omega) _
theorem fresh3 (f : Fo p n n cu par kd lc nc chs sa mb F H) (h : ST lo L F H w) {v : Value} (hv : v = pt (cu.map sa)) :
    ∃ L' mb' H', ST lo L' F H' (mk3 w k l v) ∧ Fo p (n + 1) n cu (up par n cu) (up kd n k) lc nc chs (up sa n (w.heap.size + 1 + 1)) mb' F H' := by
  obtain ⟨hp, hp2⟩ := f.lop h
  subst hv
  obtain ⟨L', H', s1, f1⟩ := f.fresh h (mk3_below w k l (pt (cu.map sa))) (b := w.heap.size + 1 + 1) (q := w.heap.size + 1) (k := k) (by omega) (by omega) (by omega)
    (by rw [Below.heap_alloc _ _ _ (by simp <;> omega)]; exact heap_new' _ (by simp)) (heap_new' _ (by simp))
  exact ⟨L', _, H', s1, f1⟩
theorem half_none (f : Fo p n n none par kd lc nc chs sa mb F H) (h : ST lo L F H w) :
    Half lo p n none par kd lc nc chs F k (w.heap.size + 1 + 1) w ((mk3 w k l (.pointer none)).setCell ⟨p, 104, none⟩ (.pointer (some ⟨w.heap.size + 1 + 1, 0, none⟩))) := by
  obtain ⟨hp, hp2⟩ := f.lop h
  obtain ⟨L', mb', H', s1, f1⟩ := fresh3 (k := k) (l := l) f h rfl
  obtain ⟨H2, s2, f2⟩ := f1.turn s1 (cu' := some n) (fun q hq => by cases hq; omega)
  have e : pt (Option.map (up sa n (w.heap.size + 1 + 1)) (some n)) = .pointer (some ⟨w.heap.size + 1 + 1, 0, none⟩) := by simp [pt, up_at]
  rw [e] at s2
  exact ⟨nc, chs, _, _, L', F, H2, s2, f2, up_at _ _ _, fun _ _ => rfl, fun _ => ⟨rfl, rfl⟩, (fun q hq => by cases hq), ((mk3_below w k l _).mono (by omega)).setCell (p := ⟨p, 104, none⟩) hp _⟩
/-- Behind the store of the parent's children. -/
theorem child3 {q : Nat} (f : Fo p n n (some q) par kd lc nc chs sa mb F H) (h : ST lo L F H w) {v' : Value} {w' : World}
    (hg : ((mk3 w k l (.pointer (some ⟨sa q, 0, none⟩))).alloc (.cells #[.pointer (some ⟨w.heap.size + 1 + 1, 0, none⟩)] 31)).grownBy w' (F (8 + q)).v.ownBlock)
    (ho : w'.ownsRow lo 31 1 v' (nc q + 1) ((F (8 + q)).xs ++ [.pointer (some ⟨w.heap.size + 1 + 1, 0, none⟩)])) (hat : v'.ownBlock = (F (8 + q)).v.ownBlock ∨ v'.ownBlock = some (w.heap.size + 1 + 1 + 1 + 1)) :
    ∃ L2 mb2 F2 H2, ST lo L2 F2 H2 (w'.setCell ⟨sa q, 2, none⟩ v') ∧ Fo p (n + 1) n (some q) (up par n (some q)) (up kd n k) lc (up nc q (nc q + 1)) (up chs q (up (chs q) (nc q) n)) (up sa n (w.heap.size + 1 + 1)) mb2 F2 H2 ∧ (∀ i, i < 8 → F2 i = F i) ∧ Below lo w (w'.setCell ⟨sa q, 2, none⟩ v') := by
  obtain ⟨hp, hp2⟩ := f.lop h
  have hq := f.cul q rfl
  have hsl := h.lob (f.scp q hq).1
  obtain ⟨L', mb', H', s1, f1⟩ := fresh3 (k := k) (l := l) (v := .pointer (some ⟨sa q, 0, none⟩)) f h rfl
  have hb1 : Below (mk3 w k l (.pointer (some ⟨sa q, 0, none⟩))).heap.size (mk3 w k l (.pointer (some ⟨sa q, 0, none⟩))) ((mk3 w k l (.pointer (some ⟨sa q, 0, none⟩))).alloc (.cells #[.pointer (some ⟨w.heap.size + 1 + 1, 0, none⟩)] 31)) := (Below.refl _ _).alloc (Nat.le_refl _) _
  have s2 := s1.kept hb1
  obtain ⟨L2, F2, H2, s3, f3, hF⟩ := f1.child s2 (q := q) (x := n) (by omega) (by omega) (Nat.lt_succ_of_le (f.ncs q)) hg (by rw [up_at]; exact ho) (by rcases hat with e | e; exact .inl e; exact .inr (by rw [e]; simp))
  have e0 : up sa n (w.heap.size + 1 + 1) q = sa q := up_ne _ _ (by omega)
  rw [e0] at s3
  refine ⟨L2, _, F2, H2, s3, f3, hF, ?_⟩
  have b1 : Below lo w ((mk3 w k l (.pointer (some ⟨sa q, 0, none⟩))).alloc (.cells #[.pointer (some ⟨w.heap.size + 1 + 1, 0, none⟩)] 31)) := ((mk3_below w k l _).mono (by omega)).alloc (by simp; omega) _
  have b2 := Below.grown b1 hg (by simp; omega) (fun g hg => (own_ge (h.row (8 + q) (by omega)) hg).1)
  exact b2.setCell (p := ⟨sa q, 2, none⟩) hsl.1 _
/-- Behind the store of the current scope. -/
theorem half2 {q b : Nat} {V : World} {nc' : Nat → Nat} {chs' : Nat → Nat → Nat} {sa' mb' L2 : Nat → Nat} {F2 : Nat → Rw} {H2 : Nat → Option Obj} (s : ST lo L2 F2 H2 V) (f : Fo p (n + 1) n (some q) (up par n (some q)) (up kd n k) lc nc' chs' sa' mb' F2 H2) (hsa : sa' n = b)
    (hF : ∀ i, i < 8 → F2 i = F i) (hN : nc' = up nc q (nc q + 1)) (hC : chs' = up chs q (up (chs q) (nc q) n)) (hB : Below lo w V) :
    Half lo p n (some q) par kd lc nc chs F k b w (((V.setCell ⟨b, 14, none⟩ (.int .u8 0)).setCell ⟨b, 6, none⟩ (.int .i32 0)).setCell ⟨p, 104, none⟩ (.pointer (some ⟨b, 0, none⟩))) := by
  obtain ⟨hp, hp2⟩ := f.lop s
  have k1 := (f.scp n (by omega)).1
  rw [hsa] at k1
  have hb := s.lob k1
  have s4 := s.again k1 (i := 14) (u := .int .u8 0) rfl
  have s5 := s4.again k1 (i := 6) (u := .int .i32 0) rfl
  obtain ⟨H3, s6, f4⟩ := f.turn s5 (cu' := some n) (fun q hq => by cases hq; omega)
  have e : pt (Option.map sa' (some n)) = .pointer (some ⟨b, 0, none⟩) := by simp [pt, hsa]
  rw [e] at s6
  refine ⟨nc', chs', sa', mb', L2, F2, H3, s6, f4, hsa, fun i hi => hF i (by omega), (fun e => by cases e), (fun q' hq' => by cases hq'; exact ⟨hN, hC⟩), ?_⟩
  exact ((hB.setCell (p := ⟨b, 14, none⟩) hb.1 _).setCell (p := ⟨b, 6, none⟩) hb.1 _).setCell (p := ⟨p, 104, none⟩) hp _
end
end Go.Proofs.YtocljdbihcikhaaFmt.psh
