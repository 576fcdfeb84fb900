/- The relation of the loops of 'zzBuildBinding', and its step. No conditions beyond the hypotheses. -/
import Derived.Test.YtiejadamfgbidabFeA
namespace Go.Proofs.Ytiejadamfgbidab.fore
open Go.ChangeShapes Go.WideShapes Go.ChangeAt Go.RowKit Go.Mine
open find (Kp ptr Kd leavesOf leavesOf_snoc own_ne own_set out1 own_below)
set_option linter.unusedVariables false
set_option linter.unusedSimpArgs false
set_option maxRecDepth 100000

/-- One round's relation: children K, their blocks S, the items' slice ai. -/
structure Rb (len pos0 : Nat) (enc : Kd → List Value) (E : TypeId) (sz : Nat) (w : World) (K : List Kd) (S : Nat → Prop) (ai : Option Addr) (cap pos : Nat) (wr : World) : Prop where
  bel : Below w.heap.size w wr
  own : wr.ownsRow w.heap.size E sz (.slice ai K.length cap) K.length (K.flatMap enc)
  kids : ∀ x ∈ K, Bu wr S x.T x.q x.lo x.ls
  lo : ∀ b, S b → w.heap.size ≤ b ∧ b < wr.heap.size
  ng : ∀ b, (Value.slice ai K.length cap).ownBlock = some b → ¬ S b
  box : Blk wr w.heap.size #[.nilIface, .int .i32 0] 59
  box2 : Blk wr (w.heap.size + 1) #[.int .i32 (pos0 : Int)] 30
  nb : ¬ S w.heap.size ∧ ¬ S (w.heap.size + 1)
  ps : pos0 < pos ∧ pos ≤ len
  cnt : (leavesOf K).length ≤ pos - pos0
theorem own_same {w w' : World} {B e size n : Nat} {v : Value} {xs : List Value} (h : w.ownsRow B e size v n xs) (hk : ∀ b, v.ownBlock = some b → w'.heap[b]? = w.heap[b]?) : w'.ownsRow B e size v n xs := by
  refine ⟨h.1, ?_⟩
  rcases h.2 with h2 | ⟨g, cap, cur, hv, hb, hg, rest⟩
  · exact .inl h2
  · subst hv
    exact .inr ⟨g, cap, cur, rfl, hb, (hk g rfl).trans hg, rest⟩
section
variable {len pos0 : Nat} {enc : Kd → List Value} {E : TypeId} {sz : Nat} {w : World} {K : List Kd} {S : Nat → Prop} {ai : Option Addr} {cap pos : Nat} {wr w2 : World}
/-- The round's end, in the world w2 behind the callee: the child's box is laid (block w2.heap.size), its slice is made, and it is appended. -/
theorem rb_next (R : Rb len pos0 enc E sz w K S ai cap pos wr) (hE1 : E ≠ 59) (hE2 : E ≠ 30) {S' : Nat → Prop} {T p : Nat} {l : Int} {ls : List (Nat × Int)} {pos' : Nat}
    (hbt : Bu w2 S' T p l ls) (hS' : ∀ b, S' b → wr.heap.size ≤ b ∧ b < w2.heap.size) (hbel : Below wr.heap.size wr w2) (hp : pos < pos') (hpl : pos' ≤ len) (hc : ls.length ≤ pos' - pos) {o1 o2 : Obj} {w4 : World} {v4 : Value}
    (hg : ((w2.alloc o1).alloc o2).grownBy w4 (Value.slice ai K.length cap).ownBlock) {a4 : Option Addr} {cap4 : Nat} (hv : v4 = .slice a4 (K.length + 1) cap4)
    (hown : w4.ownsRow w.heap.size E sz v4 (K.length + 1) (K.flatMap enc ++ enc ⟨T, p, l, ls⟩)) (hat : v4.ownBlock = (Value.slice ai K.length cap).ownBlock ∨ v4.ownBlock = some ((w2.alloc o1).alloc o2).heap.size) :
    Rb len pos0 enc E sz w (K ++ [⟨T, p, l, ls⟩]) (fun b => S b ∨ S' b) a4 cap4 pos' w4 := by
  subst hv
  have hs1 := hbel.size
  have hs0 := R.bel.size
  have hsz := hg.size
  simp only [World.size_alloc] at hsz
  have hal : ∀ b, (Value.slice ai K.length cap).ownBlock = some b → w.heap.size ≤ b ∧ b < wr.heap.size := R.own.lt
  have keep : ∀ b, b < w2.heap.size → (Value.slice ai K.length cap).ownBlock ≠ some b → w4.heap[b]? = w2.heap[b]? := fun b h1 h2 => by
    rw [hg.block b (by simp only [World.size_alloc]; omega) (fun e => h2 e.symm), Below.heap_alloc _ _ _ (by simp only [World.size_alloc]; omega), Below.heap_alloc _ _ _ h1]
  have kS : Kp S wr w4 := fun b hb => by
    have h1 := (R.lo b hb).2
    rw [keep b (by omega) (fun e => R.ng b e hb)]
    exact hbel.block b h1
  have kS' : Kp S' w2 w4 := fun b hb => by
    have h1 := hS' b hb
    exact keep b h1.2 (fun e => by have := (hal b e).2; omega)
  have e1 : leavesOf (K ++ [⟨T, p, l, ls⟩]) = leavesOf K ++ ls := leavesOf_snoc _ _
  refine ⟨?_, by simpa using hown, ?_, ?_, ?_, ?_, ?_, ?_, ?_, ?_⟩
  · exact Below.grown (((R.bel.trans (hbel.mono hs0)).alloc (by omega) _).alloc (by simp only [World.size_alloc]; omega) _) hg (by simp only [World.size_alloc]; omega) (fun k hk => (hal k hk).1)
  · intro x hx
    rcases List.mem_append.1 hx with hx | hx
    · exact ((R.kids x hx).kept kS).mono (fun b hb => .inl hb)
    · simp at hx; subst hx
      exact (hbt.kept kS').mono (fun b hb => .inr hb)
  · rintro b (hb | hb)
    · have := R.lo b hb; omega
    · have := hS' b hb; omega
  · intro b hb
    have hb : (Value.slice a4 (K.length + 1) cap4).ownBlock = some b := by simpa using hb
    rcases hat with e | e
    · have hb' := e.symm.trans hb
      rintro (hs | hs)
      · exact R.ng b hb' hs
      · have := (hal b hb').2; have := (hS' b hs).1; omega
    · have := Option.some.inj (hb.symm.trans e)
      simp only [World.size_alloc] at this
      rintro (hs | hs)
      · have := (R.lo b hs).2; omega
      · have := (hS' b hs).2; omega
  · have h0 := R.box.lt
    exact (keep _ (by omega) (own_ne R.own R.box (fun e => hE1 e.symm))).trans ((hbel.block _ h0).trans R.box)
  · have h0 := R.box2.lt
    exact (keep _ (by omega) (own_ne R.own R.box2 (fun e => hE2 e.symm))).trans ((hbel.block _ h0).trans R.box2)
  · have h0 := R.box.lt
    have h1 := R.box2.lt
    refine ⟨?_, ?_⟩
    · rintro (hs | hs)
      · exact R.nb.1 hs
      · have := (hS' _ hs).1; omega
    · rintro (hs | hs)
      · exact R.nb.2 hs
      · have := (hS' _ hs).1; omega
  · have := R.ps; omega
  · rw [e1, List.length_append]; have := R.cnt; have := R.ps; omega
end
end Go.Proofs.Ytiejadamfgbidab.fore
