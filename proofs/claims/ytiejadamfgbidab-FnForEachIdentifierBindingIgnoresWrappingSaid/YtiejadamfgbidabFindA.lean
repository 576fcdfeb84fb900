/- Binding trees in memory, and the contract of 'findIdentifiers': it appends the leaves, in order. No conditions beyond its hypotheses. -/
import Derived.Test.YtiejadamfgbidabRows
import Derived.Test.YtiejadamfgbidabLib
import Derived.Test.YtiejadamfgbidabAsserts
import Derived.Maps.AppendAt
import Derived.Outline
namespace Go.Proofs.Ytiejadamfgbidab.find
open Go.ChangeShapes Go.WideShapes Go.ChangeAt Go.RowKit Go.Mine
set_option linter.unusedVariables false
set_option maxRecDepth 100000

theorem info61 : (Try.prog.info? 61).map (fun i => (i.zero, i.size, i.bytes)) = some (some (.agg #[.nilIface, .int .i32 0, .nilIface, .int .i32 0]), 4, 48) := by kernel_rfl
def ptr (p : Nat) : Value := .pointer (some ⟨p, 0, none⟩)
def dec (x : Nat × Int) : List Value := [.iface 50 (ptr x.1), .int .i32 x.2, .nilIface, .int .i32 0]
/-- A binding tree whose blocks lie in S: type, place, location, leaves. -/
inductive Bt (w : World) (S : Nat → Prop) : Nat → Nat → Int → List (Nat × Int) → Prop where
  | miss (p : Nat) (l : Int) : Bt w S 69 p l []
  | leaf (p : Nat) (l : Int) : Bt w S 50 p l [(p, l)]
  | arr (p : Nat) (l : Int) (R m c : Nat) (C : Array Value) (T q : Nat → Nat) (lo : Nat → Int) (ls : Nat → List (Nat × Int)) : S p → S R → m ≤ 8 → w.cell? ⟨p, 0, none⟩ = some (.slice (some ⟨R, 0, none⟩) m c) → Blk w R C 73 →
      (∀ i, i < m → C[i * 5]? = some (.iface (T i) (ptr (q i))) ∧ C[i * 5 + 1]? = some (.int .i32 (lo i)) ∧ C[i * 5 + 2]? = some .nilIface ∧ C[i * 5 + 3]? = some (.int .i32 0) ∧ C[i * 5 + 4]? = some (.int .i32 0)) →
      (∀ i, i < m → Bt w S (T i) (q i) (lo i) (ls i)) → Bt w S 68 p l ((List.range m).flatMap ls)
  | obj (p : Nat) (l : Int) (R m c : Nat) (C : Array Value) (T q : Nat → Nat) (lo : Nat → Int) (ls : Nat → List (Nat × Int)) : S p → S R → m ≤ 8 → w.cell? ⟨p, 0, none⟩ = some (.slice (some ⟨R, 0, none⟩) m c) → Blk w R C 79 →
      (∀ i, i < m → C[i * 11]? = some .nilIface ∧ C[i * 11 + 1]? = some (.int .i32 0) ∧ C[i * 11 + 2]? = some (.iface (T i) (ptr (q i))) ∧ C[i * 11 + 3]? = some (.int .i32 (lo i)) ∧ C[i * 11 + 4]? = some .nilIface ∧ C[i * 11 + 5]? = some (.int .i32 0) ∧
        C[i * 11 + 6]? = some (.int .i32 0) ∧ C[i * 11 + 7]? = some (.int .i32 0) ∧ C[i * 11 + 8]? = some (.bool false) ∧ C[i * 11 + 9]? = some (.bool false) ∧ C[i * 11 + 10]? = some (.bool false)) →
      (∀ i, i < m → Bt w S (T i) (q i) (lo i) (ls i)) → Bt w S 77 p l ((List.range m).flatMap ls)
def Kp (S : Nat → Prop) (w w' : World) : Prop := ∀ b, S b → w'.heap[b]? = w.heap[b]?
theorem Kp.same {S X : Nat → Prop} {a w w' : World} (h : Kp S a w) (hs : Same X w w') (hX : ∀ b, S b → ¬ X b) (hl : ∀ b, S b → b < w.heap.size) : Kp S a w' := fun b hb => (hs.2 b (hl b hb) (hX b hb)).trans (h b hb)
theorem Bt.mono {w : World} {S S' : Nat → Prop} (hSS : ∀ b, S b → S' b) {T p : Nat} {l : Int} {ls : List (Nat × Int)} (h : Bt w S T p l ls) : Bt w S' T p l ls := by
  induction h with
  | miss p l => exact .miss p l
  | leaf p l => exact .leaf p l
  | arr p l R m c C T q lo ls hp hR hm hc hb hk _ ih => exact .arr p l R m c C T q lo ls (hSS _ hp) (hSS _ hR) hm hc hb hk ih
  | obj p l R m c C T q lo ls hp hR hm hc hb hk _ ih => exact .obj p l R m c C T q lo ls (hSS _ hp) (hSS _ hR) hm hc hb hk ih
theorem Bt.kept {w w' : World} {S : Nat → Prop} (hK : Kp S w w') {T p : Nat} {l : Int} {ls : List (Nat × Int)} (h : Bt w S T p l ls) : Bt w' S T p l ls := by
  induction h with
  | miss p l => exact .miss p l
  | leaf p l => exact .leaf p l
  | arr p l R m c C T q lo ls hp hR hm hc hb hk _ ih => exact .arr p l R m c C T q lo ls hp hR hm ((cell_of_block (hK p hp) 0).trans hc) ((hK R hR).trans hb) hk ih
  | obj p l R m c C T q lo ls hp hR hm hc hb hk _ ih => exact .obj p l R m c C T q lo ls hp hR hm ((cell_of_block (hK p hp) 0).trans hc) ((hK R hR).trans hb) hk ih

/-- What a run of appends to the list of declarations leaves. -/
structure Fd (B : Nat) (v : Value) (n : Nat) (xs : List Value) (ls : List (Nat × Int)) (w : World) (v' : Value) (w' : World) : Prop where
  own : w'.ownsRow B 61 4 v' (n + ls.length) (xs ++ ls.flatMap dec)
  bel : Below B w w'
  same : Same (fun b => v.ownBlock = some b) w w'
  blk : ∀ b, v'.ownBlock = some b → v.ownBlock = some b ∨ w.heap.size ≤ b
theorem Fd.refl {B n : Nat} {v : Value} {xs : List Value} {w : World} (h : w.ownsRow B 61 4 v n xs) : Fd B v n xs [] w v w := ⟨by simpa using h, Below.refl _ _, Same.refl _ _, fun b hb => .inl hb⟩
theorem Fd.trans {B n : Nat} {v v1 v2 : Value} {xs : List Value} {ls ls2 : List (Nat × Int)} {w w1 w2 : World} (h : Fd B v n xs ls w v1 w1) (k : Fd B v1 (n + ls.length) (xs ++ ls.flatMap dec) ls2 w1 v2 w2) : Fd B v n xs (ls ++ ls2) w v2 w2 := by
  refine ⟨?_, h.bel.trans k.bel, ⟨Nat.le_trans h.same.1 k.same.1, fun b hb hx => ?_⟩, fun b hb => ?_⟩
  · have := k.own
    simpa [Nat.add_assoc] using this
  · rw [k.same.2 b (Nat.lt_of_lt_of_le hb h.same.1) (fun e => by rcases h.blk b e with e | e; exact hx e; omega)]
    exact h.same.2 b hb hx
  · rcases k.blk b hb with e | e
    · exact h.blk b e
    · exact .inr (Nat.le_trans h.same.1 e)
theorem Fd.pre {B n : Nat} {v v1 : Value} {xs : List Value} {ls : List (Nat × Int)} {w w1 w2 : World} (h : Fd B v n xs ls w1 v1 w2) (hb : Below w.heap.size w w1) (hB : B ≤ w.heap.size) : Fd B v n xs ls w v1 w2 :=
  ⟨h.own, (hb.mono hB).trans h.bel, (Same.of_below hb).trans h.same, fun b e => by rcases h.blk b e with e | e; exact .inl e; exact .inr (Nat.le_trans hb.size e)⟩
theorem Fd.post {B n : Nat} {v v1 : Value} {xs : List Value} {ls : List (Nat × Int)} {w w1 w2 : World} (h : Fd B v n xs ls w v1 w1) (hb : Below w1.heap.size w1 w2) (hB : B ≤ w1.heap.size) : Fd B v n xs ls w v1 w2 :=
  ⟨h.own.kept ⟨hb.os, hb.tape, hb.output, hb.size, fun k hk _ => hb.block k hk⟩ (row := none) (by
      by_cases e : v1.ownBlock = none
      · exact .inl e
      · exact .inr e), h.bel.trans (hb.mono hB), h.same.trans (Same.of_below hb), h.blk⟩
def Fnd (B : Nat) (v : Value) (n : Nat) (xs : List Value) (ls : List (Nat × Int)) (w : World) (e : Ending) (w' : World) : Prop := ∃ v', e = .returned v' ∧ Fd B v n xs ls w v' w'
theorem cells_new (w : World) (l : List Value) (t : TypeId) : ∀ j u, l[j]? = some u → (w.alloc (.cells l.toArray t)).cell? ((⟨w.heap.size, 0, none⟩ : Addr).add j) = some u := by
  intro j u h
  have ea : (⟨w.heap.size, 0, none⟩ : Addr).add j = ⟨w.heap.size, j, none⟩ := by
    unfold Addr.add
    split
    · rename_i e; subst e; rfl
    · simp
  rw [ea, (Blk.new w l.toArray t).cell]
  simpa using h
theorem new_dec (w : World) (o : Obj) (x : Nat × Int) : ∀ j u, (dec x)[j]? = some u → ((w.alloc o).alloc (.cells #[.iface 50 (ptr x.1), .int .i32 x.2, .nilIface, .int .i32 0] 61)).cell? ((⟨w.heap.size + 1, 0, none⟩ : Addr).add j) = some u := by
  have h := cells_new (w.alloc o) (dec x) 61
  rw [show (w.alloc o).heap.size = w.heap.size + 1 by simp] at h
  exact h
theorem own_form {w : World} {B e size n : Nat} {v : Value} {xs : List Value} (h : w.ownsRow B e size v n xs) : ∃ a c, v = .slice a n c := by
  rcases h.2 with ⟨rfl, rfl⟩ | ⟨g, cap, cur, rfl, _⟩
  · exact ⟨_, _, rfl⟩
  · exact ⟨_, _, rfl⟩
theorem find_miss (B : Nat) (w : World) (p : Nat) (l : Int) (v : Value) (n : Nat) (xs : List Value) (hB : B ≤ w.heap.size) (ho : w.ownsRow B 61 4 v n xs) :
    Calls Try.prog 40 #[.agg #[.iface 69 (ptr p), .int .i32 l], v] w (Fnd B v n xs [] w) := by
  obtain ⟨a, c, rfl⟩ := own_form ho
  have H := Lib.hid ho
  clear ho
  unfold ptr
  go_enter Try.func40, Try.ntmps40
  go_wp2_with fail
  go_ret
  exact ⟨_, rfl, (Fd.refl H.out).post ((Below.refl _ _).alloc (Nat.le_refl _) _) hB⟩
set_option maxHeartbeats 1000000 in
theorem find_leaf (B : Nat) (w : World) (p : Nat) (l : Int) (v : Value) (n : Nat) (xs : List Value) (hB : B ≤ w.heap.size) (ho : w.ownsRow B 61 4 v n xs) (hn : n + 1 ≤ 20000) :
    Calls Try.prog 40 #[.agg #[.iface 50 (ptr p), .int .i32 l], v] w (Fnd B v n xs [(p, l)] w) := by
  obtain ⟨i0, hi, hz0, hz1, hz2⟩ := info_parts info61
  obtain ⟨a, c, rfl⟩ := own_form ho
  have H := Lib.hid ho
  clear ho
  have hnew := new_dec w (.cells #[.iface 50 (ptr p), .int .i32 l] 59) (p, l)
  unfold ptr at hnew ⊢
  go_enter Try.func40, Try.ntmps40
  go_wp2_with (first | (at_builtin; (refine wpList_append_own_at _ rfl _ _ 49 rfl B 61 i0 (.agg #[.nilIface, .int .i32 0, .nilIface, .int .i32 0]) 4 48 Try.underlying49 hi hz0 hz1 hz2 rfl (by decide) _ _ _ rfl ((H.out.alloc _).alloc _) ⟨w.heap.size + 1, 0, none⟩ 1 1 (dec (p, l)) rfl rfl hnew (fun x hx => by simp [dec] at hx; rcases hx with rfl | rfl | rfl | rfl <;> rfl) (by unfold maxLen; omega) (by omega) (by simp; omega) ?_); intro v' w3 hown' hgrow3 hnil3 hat3))
  go_wp2_with fail
  go_ret
  refine ⟨_, rfl, hown', ?_, ?_, ?_⟩
  · exact Below.grown (((Below.refl B w).alloc hB _).alloc (by simp; omega) _) hgrow3 (by simp; omega) (fun k hk => (H.out.lt k hk).1)
  · refine ⟨by have := hgrow3.size; simp at this; omega, fun b hb hx => ?_⟩
    rw [hgrow3.block b (by simp; omega) (fun e => hx e.symm), Below.heap_alloc _ _ _ (by simp; omega), Below.heap_alloc _ _ _ hb]
  · intro b hb
    replace hb : v'.ownBlock = some b := hb
    rcases hat3 with e | e
    · exact .inl (e.symm.trans hb)
    · have := Option.some.inj (hb.symm.trans e)
      simp at this
      exact .inr (by omega)
end Go.Proofs.Ytiejadamfgbidab.find
