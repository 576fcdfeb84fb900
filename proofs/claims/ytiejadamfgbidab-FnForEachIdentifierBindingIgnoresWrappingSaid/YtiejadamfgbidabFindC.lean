/- The leaves' list while 'zzDecodeBinding' runs; its cases without children. No conditions beyond their hypotheses. -/
import Derived.Test.YtiejadamfgbidabFindB
namespace Go.Proofs.Ytiejadamfgbidab.find
open Go.ChangeShapes Go.WideShapes Go.ChangeAt Go.RowKit Go.Mine
set_option linter.unusedVariables false
set_option maxRecDepth 100000

theorem info21 : (Try.prog.info? 21).map (fun i => (i.zero, i.size, i.bytes)) = some (some (.int .i32 0), 1, 4) := by kernel_rfl
theorem info73 : (Try.prog.info? 73).map (fun i => (i.zero, i.size, i.bytes)) = some (some (.agg #[.nilIface, .int .i32 0, .nilIface, .int .i32 0, .int .i32 0]), 5, 56) := by kernel_rfl
theorem info79 : (Try.prog.info? 79).map (fun i => (i.zero, i.size)) = some (some (.agg #[.nilIface, .int .i32 0, .nilIface, .int .i32 0, .nilIface, .int .i32 0, .int .i32 0, .int .i32 0, .bool false, .bool false, .bool false]), 11) := by kernel_rfl
def lv (x : Nat × Int) : Value := .int .i32 x.2
/-- What a run of appends to the list of leaves leaves. -/
structure Lf (B : Nat) (v : Value) (n : Nat) (xs : List Value) (ls : List (Nat × Int)) (w : World) (v' : Value) (w' : World) : Prop where
  own : w'.ownsRow B 21 1 v' (n + ls.length) (xs ++ ls.map lv)
  bel : Below B w w'
  same : Same (fun b => v.ownBlock = some b) w w'
  blk : ∀ b, v'.ownBlock = some b → v.ownBlock = some b ∨ w.heap.size ≤ b
theorem own_below {w w' : World} {B e size n : Nat} {v : Value} {xs : List Value} (h : w.ownsRow B e size v n xs) (hb : Below w.heap.size w w') : w'.ownsRow B e size v n xs :=
  h.kept ⟨hb.os, hb.tape, hb.output, hb.size, fun k hk _ => hb.block k hk⟩ (row := none) (by
      by_cases e : v.ownBlock = none
      · exact .inl e
      · exact .inr e)
theorem Lf.refl {B n : Nat} {v : Value} {xs : List Value} {w : World} (h : w.ownsRow B 21 1 v n xs) : Lf B v n xs [] w v w := ⟨by simpa using h, Below.refl _ _, Same.refl _ _, fun b hb => .inl hb⟩
theorem Lf.trans {B n : Nat} {v v1 v2 : Value} {xs : List Value} {ls ls2 : List (Nat × Int)} {w w1 w2 : World} (h : Lf B v n xs ls w v1 w1) (k : Lf B v1 (n + ls.length) (xs ++ ls.map lv) ls2 w1 v2 w2) : Lf B v n xs (ls ++ ls2) w v2 w2 := by
  refine ⟨?_, h.bel.trans k.bel, ⟨Nat.le_trans h.same.1 k.same.1, fun b hb hx => ?_⟩, fun b hb => ?_⟩
  · have := k.own
    simpa [Nat.add_assoc] using this
  · rw [k.same.2 b (Nat.lt_of_lt_of_le hb h.same.1) (fun e => by rcases h.blk b e with e | e; exact hx e; omega)]
    exact h.same.2 b hb hx
  · rcases k.blk b hb with e | e
    · exact h.blk b e
    · exact .inr (Nat.le_trans h.same.1 e)
theorem Lf.pre {B n : Nat} {v v1 : Value} {xs : List Value} {ls : List (Nat × Int)} {w w1 w2 : World} (h : Lf B v n xs ls w1 v1 w2) (hb : Below w.heap.size w w1) (hB : B ≤ w.heap.size) : Lf B v n xs ls w v1 w2 :=
  ⟨h.own, (hb.mono hB).trans h.bel, (Same.of_below hb).trans h.same, fun b e => by rcases h.blk b e with e | e; exact .inl e; exact .inr (Nat.le_trans hb.size e)⟩
theorem Lf.post {B n : Nat} {v v1 : Value} {xs : List Value} {ls : List (Nat × Int)} {w w1 w2 : World} (h : Lf B v n xs ls w v1 w1) (hb : Below w1.heap.size w1 w2) (hB : B ≤ w1.heap.size) : Lf B v n xs ls w v1 w2 :=
  ⟨own_below h.own hb, h.bel.trans (hb.mono hB), h.same.trans (Same.of_below hb), h.blk⟩
/-- A store into a block of another element type, made since w. -/
theorem Lf.store {B n : Nat} {v v1 : Value} {xs : List Value} {ls : List (Nat × Int)} {w w1 : World} (h : Lf B v n xs ls w v1 w1) (hB : B ≤ w.heap.size) {q : Nat} {C : Array Value} {t : TypeId} (hq : Blk w1 q C t) (ht : t ≠ 21) (hw : w.heap.size ≤ q) (o : Nat) (u : Value) : Lf B v n xs ls w v1 (w1.setCell ⟨q, o, none⟩ u) := by
  refine ⟨?_, h.bel.setCell (p := ⟨q, o, none⟩) (by show B ≤ q; omega) u, h.same.setNew (p := ⟨q, o, none⟩) hw u, h.blk⟩
  obtain ⟨h1, h2⟩ := h.own
  refine ⟨h1, ?_⟩
  rcases h2 with h2 | ⟨g, cap, cur, hv, hb, hg, rest⟩
  · exact .inl h2
  · refine .inr ⟨g, cap, cur, hv, hb, ?_, rest⟩
    have hgb : Blk w1 g cur 21 := hg
    exact hgb.setOther (a := ⟨q, o, none⟩) (fun e => by
      have e : g = q := e
      subst e
      unfold Blk at hq hgb
      rw [hq] at hgb
      injection hgb with e
      injection e with _ e
      exact ht e) u
/-- What zzDecodeBinding leaves. -/
def Dec (B len pos : Nat) (v : Value) (n : Nat) (xs : List Value) (w : World) (e : Ending) (w' : World) : Prop :=
  ∃ (S : Nat → Prop) (T p : Nat) (l : Int) (ls : List (Nat × Int)) (pos' : Nat) (a' : Option Addr) (c' : Nat), e = .returned (.tuple #[.agg #[.iface T (.pointer (some ⟨p, 0, none⟩)), .int .i32 l], .int .i64 (pos' : Int), .slice a' (n + ls.length) c']) ∧
    Bt w' S T p l ls ∧ (∀ b, S b → w.heap.size ≤ b ∧ b < w'.heap.size) ∧ (∀ b, (Value.slice a' (n + ls.length) c').ownBlock = some b → ¬ S b) ∧ Lf B v n xs ls w (.slice a' (n + ls.length) c') w' ∧ pos ≤ pos' ∧ (pos' ≤ len ∨ pos' = pos) ∧ ls.length ≤ pos' - pos
theorem byte_at {a : Option Addr} {len c : Nat} {z : List Int} {w : World} (h : IntRow .u8 w a len c z) {pos : Nat} (hlt : pos < len) : ∃ (b off : Nat) (f : Int), a = some ⟨b, off, none⟩ ∧ (0 ≤ f ∧ f ≤ 255) ∧ w.cell? ⟨b, off + pos, none⟩ = some (.int .u8 f) := by
  obtain ⟨b, off, e, hb, hc⟩ := h.at hlt
  have q : pos < z.length := by rw [h.1]; exact hlt
  have hw := h.2.2.2.1 (z.getD pos 0) (by simp [q])
  exact ⟨b, off, _, e, bounds_u8 hw, hc⟩
theorem next39 (a : Option Addr) (len c : Nat) (z : List Int) (pos : Nat) (w : World) (h : IntRow .u8 w a len c z) (hl : len ≤ 4096) (hp : pos ≤ len) :
    Calls Try.prog 39 #[.slice a len c, .int .i64 (pos : Int)] w fun e w' => (∃ (f : Int) (pos' : Nat), e = .returned (.tuple #[.int .u8 f, .int .i64 (pos' : Int)]) ∧ (0 ≤ f ∧ f ≤ 255) ∧ pos ≤ pos' ∧ pos' ≤ len) ∧ w = w' := by
  by_cases hlt : pos < len
  · obtain ⟨b, off, f, rfl, hr, hc⟩ := byte_at h hlt
    have hlc := cell_lt hc
    clear h
    go_enter Try.func39, Try.ntmps39
    go_wp2
    go_ret2
    exact ⟨⟨_, pos + 1, rfl, hr, by omega, by omega⟩, rfl⟩
  · clear h
    go_enter Try.func39, Try.ntmps39
    go_wp2
    go_ret2
    exact ⟨⟨_, pos, rfl, by omega, by omega, by omega⟩, rfl⟩
end Go.Proofs.Ytiejadamfgbidab.find
