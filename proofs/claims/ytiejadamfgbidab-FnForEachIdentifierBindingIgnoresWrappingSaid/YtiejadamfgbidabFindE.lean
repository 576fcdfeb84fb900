/- The relation of the loops of 'zzDecodeBinding', and its step. No conditions beyond the hypotheses. -/
import Derived.Test.YtiejadamfgbidabFindD
namespace Go.Proofs.Ytiejadamfgbidab.find
open Go.ChangeShapes Go.WideShapes Go.ChangeAt Go.RowKit Go.Mine
set_option linter.unusedVariables false
set_option linter.unusedSimpArgs false
set_option maxRecDepth 100000

/-- A child that has been read. -/
structure Kd where
  T : Nat
  q : Nat
  lo : Int
  ls : List (Nat × Int)
def leavesOf (K : List Kd) : List (Nat × Int) := K.flatMap (·.ls)
theorem leavesOf_snoc (K : List Kd) (x : Kd) : leavesOf (K ++ [x]) = leavesOf K ++ x.ls := by simp [leavesOf]
/-- One round's relation: children K, their blocks S, the items' block g. -/
structure Rd (B len pos0 : Nat) (enc : Kd → List Value) (E : TypeId) (sz : Nat) (v : Value) (n : Nat) (xs : List Value) (w : World) (K : List Kd) (S : Nat → Prop) (g cap : Nat) (av : Option Addr) (cv pos : Nat) (wr : World) : Prop where
  lf : Lf B v n xs (leavesOf K) w (.slice av (n + (leavesOf K).length) cv) wr
  own : wr.ownsRow w.heap.size E sz (.slice (some ⟨g, 0, none⟩) K.length cap) K.length (K.flatMap enc)
  kids : ∀ x ∈ K, Bt wr S x.T x.q x.lo x.ls
  lo : ∀ b, S b → w.heap.size ≤ b ∧ b < wr.heap.size
  nl : ∀ b, (Value.slice av (n + (leavesOf K).length) cv).ownBlock = some b → ¬ S b
  ng : ¬ S g
  box : Blk wr w.heap.size #[.nilIface, .int .i32 0] 59
  nb : ¬ S w.heap.size
  ps : pos0 < pos ∧ pos ≤ len
  cnt : (leavesOf K).length ≤ pos - pos0
theorem own_ne {w : World} {B e size n : Nat} {v : Value} {xs : List Value} (h : w.ownsRow B e size v n xs) {q : Nat} {C : Array Value} {t : TypeId} (hq : Blk w q C t) (ht : t ≠ e) : v.ownBlock ≠ some q := by
  rcases h.2 with ⟨rfl, _⟩ | ⟨g, cap, cur, rfl, hb, hg, rest⟩
  · simp [Value.ownBlock]
  · intro e1
    simp only [Value.ownBlock, Option.some.injEq] at e1
    subst e1
    unfold Blk at hq
    rw [hq] at hg
    injection hg with e1
    injection e1 with _ e1
    exact ht e1
theorem own_blk {w : World} {B e size n c g : Nat} {xs : List Value} (h : w.ownsRow B e size (.slice (some ⟨g, 0, none⟩) n c) n xs) : ∃ C, Blk w g C e ∧ C.size = c * size ∧ C.toList.take (n * size) = xs ∧ B ≤ g ∧ n ≤ c := by
  rcases h.2 with ⟨h1, _⟩ | ⟨g', cap, cur, h1, hb, hg, hn, hc, hs, ht⟩
  · cases h1
  · injection h1 with e1 e2 e3
    injection e1 with e1
    injection e1 with e1
    subst e1 e3
    exact ⟨cur, hg, hs, ht, hb, hn⟩
theorem Lf.grown {B n : Nat} {v v1 : Value} {xs : List Value} {ls : List (Nat × Int)} {w w1 w2 : World} (h : Lf B v n xs ls w v1 w1) {g : Nat} (hg : w1.grownBy w2 (some g)) (hne : v1.ownBlock ≠ some g) (hB : B ≤ w.heap.size) (hw : w.heap.size ≤ g) : Lf B v n xs ls w v1 w2 := by
  have h1 := h.same.1
  refine ⟨h.own.kept hg (.inr hne), Below.grown h.bel hg (by omega) (fun k hk => by injection hk with hk; omega), ⟨Nat.le_trans h.same.1 hg.size, fun b hb hx => ?_⟩, h.blk⟩
  rw [hg.block b (by omega) (fun e => by injection e with e; omega)]
  exact h.same.2 b hb hx
theorem own_set {w : World} {B e size n : Nat} {v : Value} {xs : List Value} (h : w.ownsRow B e size v n xs) {q o : Nat} {C : Array Value} {t : TypeId} (hq : Blk w q C t) (ht : t ≠ e) (u : Value) : (w.setCell ⟨q, o, none⟩ u).ownsRow B e size v n xs := by
  have hne := own_ne h hq ht
  refine ⟨h.1, ?_⟩
  rcases h.2 with h2 | ⟨g, cap, cur, hv, hb, hg, rest⟩
  · exact .inl h2
  · refine .inr ⟨g, cap, cur, hv, hb, ?_, rest⟩
    have hgb : Blk w g cur e := hg
    exact hgb.setOther (a := ⟨q, o, none⟩) (fun e => by
      subst hv
      have e : g = q := e
      subst e
      exact hne rfl) u
def out1 (w2 : World) (q T p : Nat) (l : Int) : World := (w2.setCell ⟨q, 0, none⟩ (.iface T (.pointer (some ⟨p, 0, none⟩)))).setCell ⟨q, 1, none⟩ (.int .i32 l)
section
variable {B len pos0 : Nat} {enc : Kd → List Value} {E : TypeId} {sz : Nat} {v : Value} {n : Nat} {xs : List Value} {w : World} {K : List Kd} {S : Nat → Prop} {g cap : Nat} {av : Option Addr} {cv pos : Nat} {wr w2 : World}
theorem rd_box (R : Rd B len pos0 enc E sz v n xs w K S g cap av cv pos wr) {ls : List (Nat × Int)} {a' : Option Addr} {c' m : Nat}
    (L : Lf B (.slice av (n + (leavesOf K).length) cv) (n + (leavesOf K).length) (xs ++ (leavesOf K).map lv) ls (wr.alloc (.cells #[.nilIface, .int .i32 0] 59)) (.slice a' m c') w2) :
    Blk w2 wr.heap.size #[.nilIface, .int .i32 0] 59 :=
  (Blk.new wr _ _).same L.same (fun e => by have := (R.lf.own.lt _ e).2; omega)
theorem rd_own (R : Rd B len pos0 enc E sz v n xs w K S g cap av cv pos wr) (hE1 : E ≠ 21) {ls : List (Nat × Int)} {a' : Option Addr} {c' m : Nat}
    (L : Lf B (.slice av (n + (leavesOf K).length) cv) (n + (leavesOf K).length) (xs ++ (leavesOf K).map lv) ls (wr.alloc (.cells #[.nilIface, .int .i32 0] 59)) (.slice a' m c') w2) :
    w2.ownsRow w.heap.size E sz (.slice (some ⟨g, 0, none⟩) K.length cap) K.length (K.flatMap enc) := by
  obtain ⟨C, hC, h1, h2, h3, h4⟩ := own_blk R.own
  refine ⟨R.own.1, .inr ⟨g, cap, C, rfl, h3, ?_, h4, ?_, h1, h2⟩⟩
  · exact (hC.alloc _).same L.same (fun e => own_ne R.lf.own hC hE1 e)
  · rcases R.own.2 with ⟨e, _⟩ | ⟨g', cap', cur, e, _, _, _, hm, _⟩
    · cases e
    · injection e with _ _ e; omega
/-- The round's end: the child is appended. -/
theorem rd_next (R : Rd B len pos0 enc E sz v n xs w K S g cap av cv pos wr) (hE1 : E ≠ 21) (hE2 : E ≠ 59) (hB : B ≤ w.heap.size) {S' : Nat → Prop} {T p : Nat} {l : Int} {ls : List (Nat × Int)} {pos' : Nat} {a' : Option Addr} {c' : Nat}
    (hbt : Bt w2 S' T p l ls) (hS' : ∀ b, S' b → (wr.alloc (.cells #[.nilIface, .int .i32 0] 59)).heap.size ≤ b ∧ b < w2.heap.size) (hnl : ∀ b, (Value.slice a' (n + (leavesOf K).length + ls.length) c').ownBlock = some b → ¬ S' b)
    (L : Lf B (.slice av (n + (leavesOf K).length) cv) (n + (leavesOf K).length) (xs ++ (leavesOf K).map lv) ls (wr.alloc (.cells #[.nilIface, .int .i32 0] 59)) (.slice a' (n + (leavesOf K).length + ls.length) c') w2)
    (hp : pos ≤ pos') (hpl : pos' ≤ len) (hc : ls.length ≤ pos' - pos) {o : Obj} {w4 : World} {g4 cap4 : Nat} (hg : ((out1 w2 wr.heap.size T p l).alloc o).grownBy w4 (some g))
    (hown : w4.ownsRow w.heap.size E sz (.slice (some ⟨g4, 0, none⟩) (K.length + 1) cap4) (K.length + 1) (K.flatMap enc ++ enc ⟨T, p, l, ls⟩)) (hat : (Value.slice (some ⟨g4, 0, none⟩) (K.length + 1) cap4).ownBlock = (Value.slice (some ⟨g, 0, none⟩) K.length cap).ownBlock ∨ (Value.slice (some ⟨g4, 0, none⟩) (K.length + 1) cap4).ownBlock = some ((out1 w2 wr.heap.size T p l).alloc o).heap.size) :
    Rd B len pos0 enc E sz v n xs w (K ++ [⟨T, p, l, ls⟩]) (fun b => S b ∨ S' b) g4 cap4 a' c' pos' w4 := by
  have hq := rd_box R L
  have hb1 : Below wr.heap.size wr (wr.alloc (.cells #[.nilIface, .int .i32 0] 59)) := (Below.refl _ _).alloc (Nat.le_refl _) _
  have hsz1 : (wr.alloc (.cells #[.nilIface, .int .i32 0] 59)).heap.size = wr.heap.size + 1 := by simp
  have hsz2 := L.same.1
  have hwr := R.lf.same.1
  obtain ⟨C, hC, _, _, hgw, _⟩ := own_blk R.own
  have hgl := hC.lt
  have hsz3 : (out1 w2 wr.heap.size T p l).heap.size = w2.heap.size := by simp [out1, size_set]
  have hsz4 := hg.size
  rw [World.size_alloc, hsz3] at hsz4
  have lfw2 : Lf B v n xs (leavesOf K ++ ls) w (.slice a' (n + (leavesOf K).length + ls.length) c') w2 := R.lf.trans (L.pre hb1 (by omega))
  have hgl2 : (Value.slice a' (n + (leavesOf K).length + ls.length) c').ownBlock ≠ some g := own_ne lfw2.own ((hC.alloc _).same L.same (fun e => own_ne R.lf.own hC hE1 e)) hE1
  have lf3 : Lf B v n xs (leavesOf K ++ ls) w (.slice a' (n + (leavesOf K).length + ls.length) c') (out1 w2 wr.heap.size T p l) := (lfw2.store hB hq (by decide) (by omega) 0 _).store hB (hq.set 0 _) (by decide) (by omega) 1 _
  have lf4 := (lf3.post ((Below.refl _ _).alloc (Nat.le_refl _) o) (by rw [hsz3]; omega)).grown hg hgl2 hB hgw
  have keep : ∀ b, b < w2.heap.size → b ≠ wr.heap.size → b ≠ g → w4.heap[b]? = w2.heap[b]? := fun b h1 h2 h3 => by
    rw [hg.block b (by rw [World.size_alloc, hsz3]; omega) (fun e => by injection e with e; exact h3 e), Below.heap_alloc _ _ _ (by rw [hsz3]; exact h1)]
    have k1 : Same (fun k => k = wr.heap.size) w2 (out1 w2 wr.heap.size T p l) := Same.setCell (X := fun k => k = wr.heap.size) (p := ⟨wr.heap.size, 1, none⟩) (Same.setCell (X := fun k => k = wr.heap.size) (p := ⟨wr.heap.size, 0, none⟩) (Same.refl _ _) rfl _) rfl _
    exact k1.2 b h1 h2
  have kS : Kp S wr w4 := fun b hb => by
    have h1 := (R.lo b hb).2
    rw [keep b (by omega) (by omega) (fun e => R.ng (e ▸ hb)), L.same.2 b (by omega) (fun e => R.nl b e hb), Below.heap_alloc _ _ _ h1]
  have kS' : Kp S' w2 w4 := fun b hb => by
    have h1 := hS' b hb
    exact keep b h1.2 (by omega) (by omega)
  have e1 : leavesOf (K ++ [⟨T, p, l, ls⟩]) = leavesOf K ++ ls := leavesOf_snoc _ _
  have e2 : n + (leavesOf (K ++ [⟨T, p, l, ls⟩])).length = n + (leavesOf K).length + ls.length := by rw [e1, List.length_append]; omega
  refine ⟨?_, ?_, ?_, ?_, ?_, ?_, ?_, ?_, ?_, ?_⟩
  · rw [e2, e1]; exact lf4
  · simpa using hown
  · intro x hx
    rcases List.mem_append.1 hx with hx | hx
    · exact ((R.kids x hx).kept kS).mono (fun b hb => .inl hb)
    · simp at hx; subst hx
      exact (hbt.kept kS').mono (fun b hb => .inr hb)
  · rintro b (hb | hb)
    · have := R.lo b hb; omega
    · have := hS' b hb; omega
  · rw [e2]
    rintro b hb (hs | hs)
    · rcases L.blk b hb with e | e
      · exact R.nl b e hs
      · have := (R.lo b hs).2; omega
    · exact hnl b hb hs
  · rcases hat with e | e
    · have e : g4 = g := by simpa [Value.ownBlock] using e
      subst e
      rintro (hs | hs)
      · exact R.ng hs
      · have := hS' _ hs; omega
    · have e : g4 = w2.heap.size + 1 ∨ g4 = w2.heap.size + 1 := by
        simp only [Value.ownBlock, Option.some.injEq, World.size_alloc, hsz3] at e
        exact .inl e
      rintro (hs | hs)
      · have := (R.lo _ hs).2; omega
      · have := (hS' _ hs).2; omega
  · have h0 : w.heap.size < wr.heap.size := R.box.lt
    have h1 : w.heap.size ≠ g := fun e => by
      have := R.box
      rw [e] at this
      unfold Blk at this hC
      rw [this] at hC
      injection hC with e
      injection e with _ e
      exact hE2 e.symm
    exact (keep _ (by omega) (by omega) h1).trans ((L.same.2 _ (by omega) (fun e => own_ne R.lf.own R.box (by decide) e)).trans ((Below.heap_alloc _ _ _ h0).trans R.box))
  · rintro (hs | hs)
    · exact R.nb hs
    · have := (hS' _ hs).1; have := R.box.lt; omega
  · have := R.ps; omega
  · rw [e1, List.length_append]; have := R.cnt; have := R.ps; omega
end
end Go.Proofs.Ytiejadamfgbidab.find
