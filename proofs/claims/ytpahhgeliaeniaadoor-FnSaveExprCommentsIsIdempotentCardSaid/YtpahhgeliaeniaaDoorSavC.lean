/- Rows of ranges and of texts, the map's own law. No program's code is walked. -/
import Derived.Test.YtpahhgeliaeniaaDoorSavB
import Derived.Maps.OwnSet
import Derived.Maps.Views
import Derived.Maps.OwnRows
import Derived.DeepKeys4
namespace Go.Proofs.YtpahhgeliaeniaaDoor.sav
open Go.ChangeShapes Go.WideShapes Go.ChangeAt Go.RowKit Go.Mine Go.Maps
set_option linter.unusedVariables false
set_option linter.unusedSimpArgs false
set_option maxRecDepth 100000

theorem laidOut : laidOutB Tryd.prog = true := by kernel_rfl
theorem lawK : Keyed Tryd.prog 28 := Keyed.of_law (deep_law_laid laidOut (m := 8) (by decide) (of_decide_eq_true (by kernel_rfl)) (by kernel_rfl) (by kernel_rfl))
noncomputable def kl (i : Int) : Lit := (keyOf Tryd.prog 28 (.agg #[.int .i32 i])).getD (.bool true)
theorem kl_of {i : Int} (h : (keyOf Tryd.prog 28 (.agg #[.int .i32 i])).isSome = true) : keyOf Tryd.prog 28 (.agg #[.int .i32 i]) = some (kl i) := by
  obtain ⟨l, hl⟩ := Option.isSome_iff_exists.1 h
  unfold kl
  rw [hl]
  rfl
theorem kl0 : keyOf Tryd.prog 28 (.agg #[.int .i32 0]) = some (kl 0) := kl_of (by kernel_rfl)
theorem kl7 : keyOf Tryd.prog 28 (.agg #[.int .i32 7]) = some (kl 7) := kl_of (by kernel_rfl)
theorem kl07 : kl 0 ≠ kl 7 := fun h => by
  have := lawK.inj kl0 (by rw [h]; exact kl7)
  simp at this
/-- A value of the map is kept as it is. -/
def R (v : Value) : Option (DataW Value × List MemPlace) := some (.held v, [])
theorem R_inv {v : Value} {d : Value} {ps : List MemPlace} (h : R v = some (.held d, ps)) : v = d := by
  unfold R at h
  injection h with h
  injection h with h _
  injection h
abbrev Owns (w : World) (m n : Nat) (D : DataW Value) : Prop := w.ownsMap Tryd.prog 28 R m n D
theorem Owns.same {w w' : World} {m n : Nat} {D : DataW Value} {X : Nat → Prop} (h : Owns w m n D) (hs : Same X w w') (hx : ¬ X m) : Owns w' m n D := by
  obtain ⟨es, clock, hb, rest⟩ := h
  exact ⟨es, clock, (hs.2 m (lt_of_block hb) hx).trans hb, rest⟩
theorem Owns.below {w w' : World} {m n : Nat} {D : DataW Value} (h : Owns w m n D) (hs : Below w.heap.size w w') : Owns w' m n D := Owns.same h (Same.of_below (X := fun _ => False) hs) id
theorem Owns.ne {w : World} {m n : Nat} {D : DataW Value} (h : Owns w m n D) {p : Nat} {C : Array Value} {t : TypeId} (hp : Blk w p C t) : p ≠ m := by
  rintro rfl
  obtain ⟨es, clock, hb, rest⟩ := h
  unfold Blk at hp
  rw [hb] at hp
  cases hp
theorem same_grown {w w' : World} {m : Nat} (h : w.grownBy w' (some m)) : Same (· = m) w w' := ⟨h.size, fun k hk hx => h.block k hk (by simpa using hx)⟩
/-- A row of n ranges. -/
def Rng (g n : Nat) (f : Nat → Nat × Nat) (w : World) : Prop :=
  ∃ C, Blk w g C 30 ∧ C.size = 2 * n ∧ ∀ j, j < n → C[2 * j]? = some (.int .i32 ((f j).1 : Int)) ∧ C[2 * j + 1]? = some (.int .i32 ((f j).2 : Int))
theorem Rng.same {g n : Nat} {f : Nat → Nat × Nat} {w w' : World} {X : Nat → Prop} (h : Rng g n f w) (hs : Same X w w') (hx : ¬ X g) : Rng g n f w' := by
  obtain ⟨C, h1, h2⟩ := h
  exact ⟨C, h1.same hs hx, h2⟩
theorem Rng.below {g n : Nat} {f : Nat → Nat × Nat} {w w' : World} (h : Rng g n f w) (hs : Below w.heap.size w w') : Rng g n f w' := by
  obtain ⟨C, h1, h2⟩ := h
  exact ⟨C, h1.below hs, h2⟩
theorem Rng.lt {g n : Nat} {f : Nat → Nat × Nat} {w : World} (h : Rng g n f w) : g < w.heap.size := by
  obtain ⟨C, h1, h2⟩ := h
  exact h1.lt
theorem Rng.at {g n : Nat} {f : Nat → Nat × Nat} {w : World} (h : Rng g n f w) {j : Nat} (hj : j < n) : w.cell? ⟨g, j * 2, none⟩ = some (.int .i32 ((f j).1 : Int)) ∧ w.cell? ⟨g, j * 2 + 1, none⟩ = some (.int .i32 ((f j).2 : Int)) := by
  obtain ⟨C, h1, h2, h3⟩ := h
  rw [h1.cell, h1.cell, Nat.mul_comm j 2]
  exact h3 j hj
theorem Rng.free {g n : Nat} {f : Nat → Nat × Nat} {w : World} (h : Rng g n f w) (o : Nat) : w.frozen? ⟨g, o, none⟩ = false := by
  obtain ⟨C, h1, _⟩ := h
  exact h1.free o
/-- The j-th range set. -/
def upd (f : Nat → Nat × Nat) (j : Nat) (x : Nat × Nat) : Nat → Nat × Nat := fun i => if i = j then x else f i
theorem Rng.put {g n : Nat} {f : Nat → Nat × Nat} {w : World} (h : Rng g n f w) {j : Nat} (hj : j < n) (s l : Nat) :
    Rng g n (upd f j (s, l)) ((w.setCell ⟨g, j * 2, none⟩ (.int .i32 (s : Int))).setCell ⟨g, j * 2 + 1, none⟩ (.int .i32 (l : Int))) := by
  obtain ⟨C, h1, h2, h3⟩ := h
  refine ⟨_, (h1.set _ _).set _ _, by simpa using h2, fun i hi => ?_⟩
  have := h3 i hi
  rw [Array.getElem?_setIfInBounds, Array.getElem?_setIfInBounds, Array.getElem?_setIfInBounds, Array.getElem?_setIfInBounds]
  simp only [Array.size_setIfInBounds]
  unfold upd
  by_cases e : i = j
  · subst e
    rw [if_pos rfl, if_neg (by omega), if_pos (by omega), if_pos (by omega), if_pos (by omega), if_pos (by omega)]
    exact ⟨rfl, rfl⟩
  · rw [if_neg e, if_neg (by omega), if_neg (by omega), if_neg (by omega), if_neg (by omega)]
    exact this
theorem madeZ (N i : Nat) (h : i < N) : (madeCells #[.int .i32 0, .int .i32 0] N)[i]? = some (.int .i32 0) := by
  unfold madeCells
  have h2 : i % 2 = 0 ∨ i % 2 = 1 := by omega
  rcases h2 with h2 | h2 <;> simp [h, h2]
theorem Rng.made (n : Nat) (w : World) : Rng w.heap.size n (fun _ => (0, 0)) (w.alloc (.cells (madeCells #[.int .i32 0, .int .i32 0] (n * 2)) 30)) :=
  ⟨_, Blk.new _ _ _, by rw [size_madeCells]; omega, fun j hj => ⟨madeZ _ _ (by omega), madeZ _ _ (by omega)⟩⟩
/-- The texts of the ranges. -/
def txt (c : ByteArray) (f : Nat → Nat × Nat) (j : Nat) : ByteArray := c.extract (f j).1 ((f j).1 + (f j).2)
def txs (c : ByteArray) (f : Nat → Nat × Nat) (n : Nat) : List Value := (List.range n).map fun j => .string (txt c f j)
theorem txs_len (c : ByteArray) (f : Nat → Nat × Nat) (n : Nat) : (txs c f n).length = n := by simp [txs]
theorem txs_at (c : ByteArray) (f : Nat → Nat × Nat) {n j : Nat} (h : j < n) : (txs c f n)[j]? = some (.string (txt c f j)) := by simp [txs, h]
end Go.Proofs.YtpahhgeliaeniaaDoor.sav
