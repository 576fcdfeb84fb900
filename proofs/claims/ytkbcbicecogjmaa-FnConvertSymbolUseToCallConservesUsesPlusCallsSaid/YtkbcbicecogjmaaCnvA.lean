/- The keys of the two maps, and what the maps hold in plain words. No program's code is walked. -/
import Derived.Test.YtkbcbicecogjmaaRows
import Derived.Test.YtkbcbicecogjmaaLib
import Derived.Maps.OwnSet
import Derived.Maps.OwnOps
import Derived.Maps.Views
import Derived.DeepKeys4
namespace Go.Proofs.Ytkbcbicecogjmaa.cnv
open Go.ChangeShapes Go.WideShapes Go.ChangeAt Go.RowKit Go.Mine Go.Maps
set_option linter.unusedVariables false
set_option linter.unusedSimpArgs false
set_option maxRecDepth 100000

theorem laidOut : laidOutB Try.prog = true := by kernel_rfl
theorem lawK : Keyed Try.prog 34 := Keyed.of_law (deep_law_laid laidOut (m := 8) (by decide) (of_decide_eq_true (by kernel_rfl)) (by kernel_rfl) (by kernel_rfl))
@[reducible] def ref (k : Int) : Value := .agg #[.int .u32 0, .int .u32 k]
noncomputable def kl (k : Nat) : Lit := (keyOf Try.prog 34 (ref k)).getD (.bool true)
theorem kl_some {k : Nat} (h : (keyOf Try.prog 34 (ref k)).isSome = true) : keyOf Try.prog 34 (ref k) = some (kl k) := by
  obtain ⟨l, hl⟩ := Option.isSome_iff_exists.1 h
  unfold kl
  rw [hl]
  rfl
theorem kl_is {k : Nat} (hk : k < 4) : keyOf Try.prog 34 (ref k) = some (kl k) := by
  have h : k = 0 ∨ k = 1 ∨ k = 2 ∨ k = 3 := by omega
  rcases h with rfl | rfl | rfl | rfl
  · exact kl_some (by kernel_rfl)
  · exact kl_some (by kernel_rfl)
  · exact kl_some (by kernel_rfl)
  · exact kl_some (by kernel_rfl)
theorem kl_key {k : Nat} (hk : k < 4) : WideAt.IsKeyLit (kl k) := lawK.key (kl_is hk)
theorem kl_ne {i k : Nat} (hi : i < 4) (hk : k < 4) (h : i ≠ k) : kl i ≠ kl k := fun e => by
  have := lawK.inj (kl_is hi) (by rw [e]; exact kl_is hk)
  simp at this
  exact h (by omega)
/-- A value of the map is kept as it is. -/
def R (v : Value) : Option (DataW Value × List MemPlace) := some (.held v, [])
theorem R_inv {v : Value} {d : Value} {ps : List MemPlace} (h : R v = some (.held d, ps)) : v = d := by
  unfold R at h
  injection h with h
  injection h with h _
  injection h
abbrev Owns (w : World) (m n : Nat) (D : DataW Value) : Prop := w.ownsMap Try.prog 34 R m n D
theorem Owns.same {w w' : World} {m n : Nat} {D : DataW Value} {X : Nat → Prop} (h : Owns w m n D) (hs : Same X w w') (hx : ¬ X m) : Owns w' m n D := by
  obtain ⟨es, clock, hb, rest⟩ := h
  exact ⟨es, clock, (hs.2 m (lt_of_block hb) hx).trans hb, rest⟩
theorem Owns.below {w w' : World} {m n : Nat} {D : DataW Value} (h : Owns w m n D) (hs : Below w.heap.size w w') : Owns w' m n D := Owns.same h (Same.of_below (X := fun _ => False) hs) id
theorem Owns.ne {w : World} {m n : Nat} {D : DataW Value} (h : Owns w m n D) {p : Nat} {C : Array Value} {t : TypeId} (hp : Blk w p C t) : p ≠ m := by
  rintro rfl
  obtain ⟨es, clock, hb, rest⟩ := h
  unfold Blk at hp
  rw [hb] at hp
  cases hp
theorem same_grown {w w' : World} {m : Nat} (h : w.grownBy w' (some m)) : Same (· = m) w w' := ⟨h.size, fun k hk hx => h.block k hk (by simpa using hx)⟩
theorem below_grown {B : Nat} {w w' : World} {m : Nat} (h : w.grownBy w' (some m)) (hB : B ≤ m) (hs : B ≤ w.heap.size) : Below B w w' := (Below.refl B w).grown h hs (fun k hk => by injection hk with hk; omega)

/-- What the map says of the four references. -/
def cnt (p : Nat → Bool) : Nat := (p 0).toNat + (p 1).toNat + (p 2).toNat + (p 3).toNat
def put {α : Type} (f : Nat → α) (k : Nat) (v : α) : Nat → α := fun i => if i = k then v else f i
theorem put_same {α : Type} (f : Nat → α) (k : Nat) (v : α) : put f k v k = v := if_pos rfl
theorem put_other {α : Type} (f : Nat → α) {k i : Nat} (v : α) (h : i ≠ k) : put f k v i = f i := if_neg h
structure Fits (z : Value) (D : DataW Value) (p : Nat → Bool) (f : Nat → Value) : Prop where
  tidy : Tidy D
  has : ∀ k, k < 4 → Maps.has D (kl k) = p k
  atk : ∀ k, k < 4 → D.atKey (kl k) (.held z) = .held (f k)
  size : Maps.size D = cnt p
theorem Fits.empty (z : Value) : Fits z (.map []) (fun _ => false) (fun _ => z) := ⟨tidy_empty, fun _ _ => rfl, fun _ _ => rfl, rfl⟩
theorem cnt_put (p : Nat → Bool) {k : Nat} (hk : k < 4) (b : Bool) : cnt (put p k b) + (p k).toNat = cnt p + b.toNat := by
  match k, hk with
  | 0, _ => simp [cnt, put]; omega
  | 1, _ => simp [cnt, put]; omega
  | 2, _ => simp [cnt, put]; omega
  | 3, _ => simp [cnt, put]; omega
theorem Fits.put {z : Value} {D : DataW Value} {p : Nat → Bool} {f : Nat → Value} (h : Fits z D p f) {k : Nat} (hk : k < 4) (v : Value) : Fits z (D.put (kl k) (.held v)) (cnv.put p k true) (cnv.put f k v) := by
  refine ⟨h.tidy.put (kl_key hk) _, fun i hi => ?_, fun i hi => ?_, ?_⟩
  · by_cases e : i = k
    · subst e; rw [put_same]; exact has_put_same h.tidy.isMap (kl_key hi) _
    · rw [put_other _ _ e, has_put_other (kl_ne hi hk e)]; exact h.has i hi
  · by_cases e : i = k
    · subst e; rw [put_same]; exact atKey_put_same h.tidy.isMap (kl_key hi) _ _
    · rw [put_other _ _ e, atKey_put_other (kl_ne hi hk e)]; exact h.atk i hi
  · rw [size_put h.tidy, h.has k hk, h.size]
    have := cnt_put p hk true
    cases hp : p k <;> simp [hp] at this ⊢ <;> omega
theorem Fits.del {z : Value} {D : DataW Value} {p : Nat → Bool} {f : Nat → Value} (h : Fits z D p f) {k : Nat} (hk : k < 4) : Fits z (D.del (kl k)) (cnv.put p k false) (cnv.put f k z) := by
  refine ⟨h.tidy.del _, fun i hi => ?_, fun i hi => ?_, ?_⟩
  · by_cases e : i = k
    · subst e; rw [put_same]; exact has_del_same
    · rw [put_other _ _ e, has_del_other (kl_ne hi hk e)]; exact h.has i hi
  · by_cases e : i = k
    · subst e; rw [put_same]; exact atKey_del_same _
    · rw [put_other _ _ e, atKey_del_other (kl_ne hi hk e)]; exact h.atk i hi
  · have h1 := size_del (k := kl k) h.tidy
    rw [h.has k hk, h.size] at h1
    have := cnt_put p hk false
    cases hp : p k <;> simp [hp] at this h1 ⊢ <;> omega
theorem Fits.congr {z : Value} {D : DataW Value} {p p' : Nat → Bool} {f f' : Nat → Value} (h : Fits z D p f) (hp : ∀ k, k < 4 → p k = p' k) (hf : ∀ k, k < 4 → f k = f' k) : Fits z D p' f' :=
  ⟨h.tidy, fun k hk => (h.has k hk).trans (hp k hk), fun k hk => by rw [h.atk k hk, hf k hk], by rw [h.size]; unfold cnt; rw [hp 0 (by decide), hp 1 (by decide), hp 2 (by decide), hp 3 (by decide)]⟩
@[reducible] def use (n : Int) : Value := .agg #[.int .u32 n]
@[reducible] def cal (c g : Int) : Value := .agg #[.int .u32 c, .int .u32 g]
/-- The uses that are left; the calls. -/
def Uses (D : DataW Value) (u : Nat → Nat) : Prop := Fits (use 0) D (fun k => decide (0 < u k)) (fun k => use (u k))
def Cals (D : DataW Value) (c g : Nat → Nat) : Prop := Fits (cal 0 0) D (fun k => decide (0 < c k)) (fun k => cal (c k) (g k))
theorem Uses.put {D : DataW Value} {u : Nat → Nat} (h : Uses D u) {k v : Nat} (hk : k < 4) (hv : 0 < v) : Uses (D.put (kl k) (.held (use v))) (cnv.put u k v) :=
  (Fits.put h hk (use v)).congr (fun i hi => by unfold cnv.put; by_cases e : i = k <;> simp [e, hv]) (fun i hi => by unfold cnv.put; by_cases e : i = k <;> simp [e])
theorem Uses.del {D : DataW Value} {u : Nat → Nat} (h : Uses D u) {k : Nat} (hk : k < 4) : Uses (D.del (kl k)) (cnv.put u k 0) :=
  (Fits.del h hk).congr (fun i hi => by unfold cnv.put; by_cases e : i = k <;> simp [e]) (fun i hi => by unfold cnv.put; by_cases e : i = k <;> simp [e])
theorem Cals.put {D : DataW Value} {c g : Nat → Nat} (h : Cals D c g) {k v x : Nat} (hk : k < 4) (hv : 0 < v) : Cals (D.put (kl k) (.held (cal v x))) (cnv.put c k v) (cnv.put g k x) :=
  (Fits.put h hk (cal v x)).congr (fun i hi => by unfold cnv.put; by_cases e : i = k <;> simp [e, hv]) (fun i hi => by unfold cnv.put; by_cases e : i = k <;> simp [e])
theorem zeroU : (Try.prog.info? 32).map (·.zero) = some (some (use 0)) := by kernel_rfl
theorem zeroC : (Try.prog.info? 50).map (·.zero) = some (some (cal 0 0)) := by kernel_rfl
theorem look_uses {w : World} {m N : Nat} {D : DataW Value} {u : Nat → Nat} (ho : Owns w m N D) (h : Uses D u) {k : Nat} (hk : k < 4) :
    (Instr.lookup 30 (.map (some m)) (ref k) true).run Try.prog w = .ok (.tuple #[use (u k), .bool (decide (0 < u k))]) w := by
  obtain ⟨v, ps, h1, h2⟩ := World.ownsMap.look_ok ho lawK Try.underlying30 (run_zero_of w zeroU) (zd := .held (use 0)) (zp := []) rfl (kl_is hk)
  rw [Fits.atk h k hk] at h2
  rw [h1, R_inv h2, Fits.has h k hk]
theorem look_cals {w : World} {m N : Nat} {D : DataW Value} {c g : Nat → Nat} (ho : Owns w m N D) (h : Cals D c g) {k : Nat} (hk : k < 4) :
    (Instr.lookup 40 (.map (some m)) (ref k) true).run Try.prog w = .ok (.tuple #[cal (c k) (g k), .bool (decide (0 < c k))]) w := by
  obtain ⟨v, ps, h1, h2⟩ := World.ownsMap.look_ok ho lawK Try.underlying40 (run_zero_of w zeroC) (zd := .held (cal 0 0)) (zp := []) rfl (kl_is hk)
  rw [Fits.atk h k hk] at h2
  rw [h1, R_inv h2, Fits.has h k hk]
theorem at_uses {w : World} {m N : Nat} {D : DataW Value} {u : Nat → Nat} (ho : Owns w m N D) (h : Uses D u) {k : Nat} (hk : k < 4) :
    (Instr.lookup 30 (.map (some m)) (ref k) false).run Try.prog w = .ok (use (u k)) w := by
  obtain ⟨v, ps, h1, h2⟩ := World.ownsMap.lookup ho lawK Try.underlying30 (run_zero_of w zeroU) (zd := .held (use 0)) (zp := []) rfl (kl_is hk)
  rw [Fits.atk h k hk] at h2
  rw [h1, R_inv h2]
theorem at_cals {w : World} {m N : Nat} {D : DataW Value} {c g : Nat → Nat} (ho : Owns w m N D) (h : Cals D c g) {k : Nat} (hk : k < 4) :
    (Instr.lookup 40 (.map (some m)) (ref k) false).run Try.prog w = .ok (cal (c k) (g k)) w := by
  obtain ⟨v, ps, h1, h2⟩ := World.ownsMap.lookup ho lawK Try.underlying40 (run_zero_of w zeroC) (zd := .held (cal 0 0)) (zp := []) rfl (kl_is hk)
  rw [Fits.atk h k hk] at h2
  rw [h1, R_inv h2]
theorem len_uses {w : World} {m N : Nat} {D : DataW Value} {u : Nat → Nat} (ho : Owns w m N D) (h : Uses D u) (ty : TypeId) :
    (Builtin.len_ #[30] ty #[.map (some m)]).run Try.prog w = .ok (.int .i64 (cnt fun k => decide (0 < u k))) w := by
  rw [World.ownsMap.len ho Try.underlying30 ty, Fits.size h]
theorem len_cals {w : World} {m N : Nat} {D : DataW Value} {c g : Nat → Nat} (ho : Owns w m N D) (h : Cals D c g) (ty : TypeId) :
    (Builtin.len_ #[40] ty #[.map (some m)]).run Try.prog w = .ok (.int .i64 (cnt fun k => decide (0 < c k))) w := by
  rw [World.ownsMap.len ho Try.underlying40 ty, Fits.size h]
end Go.Proofs.Ytkbcbicecogjmaa.cnv
