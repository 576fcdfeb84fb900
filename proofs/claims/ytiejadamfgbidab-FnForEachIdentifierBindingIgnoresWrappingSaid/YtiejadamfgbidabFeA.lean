/- Binding trees in memory as 'zzBuildBinding' lays them: a slice of children may be nil, a child's own location is any number. No conditions beyond the hypotheses. -/
import Derived.Test.YtiejadamfgbidabFindF
namespace Go.Proofs.Ytiejadamfgbidab.fore
open Go.ChangeShapes Go.WideShapes Go.ChangeAt Go.RowKit Go.Mine
open find (Kp ptr)
set_option linter.unusedVariables false
set_option linter.unusedSimpArgs false
set_option maxRecDepth 100000

/-- The slice of m children in the block R: nil where there is none. -/
def Sl (w : World) (S : Nat → Prop) (a : Option Addr) (m : Nat) (R : Nat) (C : Array Value) (E : TypeId) : Prop := 0 < m → a = some ⟨R, 0, none⟩ ∧ S R ∧ Blk w R C E
/-- A binding tree whose blocks lie in S: type, place, location, leaves. -/
inductive Bu (w : World) (S : Nat → Prop) : Nat → Nat → Int → List (Nat × Int) → Prop where
  | miss (p : Nat) (l : Int) : Bu w S 69 p l []
  | leaf (p : Nat) (l : Int) : Bu w S 50 p l [(p, l)]
  | arr (p : Nat) (l : Int) (a : Option Addr) (R m c : Nat) (C : Array Value) (T q : Nat → Nat) (lo u : Nat → Int) (ls : Nat → List (Nat × Int)) : S p → m ≤ 8 → w.cell? ⟨p, 0, none⟩ = some (.slice a m c) → Sl w S a m R C 73 →
      (∀ i, i < m → C[i * 5]? = some (.iface (T i) (ptr (q i))) ∧ C[i * 5 + 1]? = some (.int .i32 (lo i)) ∧ C[i * 5 + 2]? = some .nilIface ∧ C[i * 5 + 3]? = some (.int .i32 0) ∧ C[i * 5 + 4]? = some (.int .i32 (u i))) →
      (∀ i, i < m → Bu w S (T i) (q i) (lo i) (ls i)) → Bu w S 68 p l ((List.range m).flatMap ls)
  | obj (p : Nat) (l : Int) (a : Option Addr) (R m c : Nat) (C : Array Value) (T q : Nat → Nat) (lo u : Nat → Int) (ls : Nat → List (Nat × Int)) : S p → m ≤ 8 → w.cell? ⟨p, 0, none⟩ = some (.slice a m c) → Sl w S a m R C 79 →
      (∀ i, i < m → C[i * 11]? = some .nilIface ∧ C[i * 11 + 1]? = some (.int .i32 0) ∧ C[i * 11 + 2]? = some (.iface (T i) (ptr (q i))) ∧ C[i * 11 + 3]? = some (.int .i32 (lo i)) ∧ C[i * 11 + 4]? = some .nilIface ∧ C[i * 11 + 5]? = some (.int .i32 0) ∧
        C[i * 11 + 6]? = some (.int .i32 (u i)) ∧ C[i * 11 + 7]? = some (.int .i32 0) ∧ C[i * 11 + 8]? = some (.bool false) ∧ C[i * 11 + 9]? = some (.bool false) ∧ C[i * 11 + 10]? = some (.bool false)) →
      (∀ i, i < m → Bu w S (T i) (q i) (lo i) (ls i)) → Bu w S 77 p l ((List.range m).flatMap ls)
theorem Sl.mono {w : World} {S S' : Nat → Prop} (hSS : ∀ b, S b → S' b) {a : Option Addr} {m R : Nat} {C : Array Value} {E : TypeId} (h : Sl w S a m R C E) : Sl w S' a m R C E := fun hm => ⟨(h hm).1, hSS _ (h hm).2.1, (h hm).2.2⟩
theorem Sl.kept {w w' : World} {S : Nat → Prop} (hK : Kp S w w') {a : Option Addr} {m R : Nat} {C : Array Value} {E : TypeId} (h : Sl w S a m R C E) : Sl w' S a m R C E := fun hm => ⟨(h hm).1, (h hm).2.1, (hK R (h hm).2.1).trans (h hm).2.2⟩
theorem Bu.mono {w : World} {S S' : Nat → Prop} (hSS : ∀ b, S b → S' b) {T p : Nat} {l : Int} {ls : List (Nat × Int)} (h : Bu w S T p l ls) : Bu w S' T p l ls := by
  induction h with
  | miss p l => exact .miss p l
  | leaf p l => exact .leaf p l
  | arr p l a R m c C T q lo u ls hp hm hc hb hk _ ih => exact .arr p l a R m c C T q lo u ls (hSS _ hp) hm hc (hb.mono hSS) hk ih
  | obj p l a R m c C T q lo u ls hp hm hc hb hk _ ih => exact .obj p l a R m c C T q lo u ls (hSS _ hp) hm hc (hb.mono hSS) hk ih
theorem Bu.kept {w w' : World} {S : Nat → Prop} (hK : Kp S w w') {T p : Nat} {l : Int} {ls : List (Nat × Int)} (h : Bu w S T p l ls) : Bu w' S T p l ls := by
  induction h with
  | miss p l => exact .miss p l
  | leaf p l => exact .leaf p l
  | arr p l a R m c C T q lo u ls hp hm hc hb hk _ ih => exact .arr p l a R m c C T q lo u ls hp hm ((cell_of_block (hK p hp) 0).trans hc) (hb.kept hK) hk ih
  | obj p l a R m c C T q lo u ls hp hm hc hb hk _ ih => exact .obj p l a R m c C T q lo u ls hp hm ((cell_of_block (hK p hp) 0).trans hc) (hb.kept hK) hk ih
/-- What zzBuildBinding leaves. -/
def Bd (len pos : Nat) (w : World) (e : Ending) (w' : World) : Prop :=
  ∃ (S : Nat → Prop) (T p : Nat) (l : Int) (ls : List (Nat × Int)) (pos' : Nat), e = .returned (.tuple #[.agg #[.iface T (.pointer (some ⟨p, 0, none⟩)), .int .i32 l], .int .i64 (pos' : Int)]) ∧
    Bu w' S T p l ls ∧ (∀ b, S b → w.heap.size ≤ b ∧ b < w'.heap.size) ∧ Below w.heap.size w w' ∧ pos < pos' ∧ pos' ≤ len ∧ ls.length ≤ pos' - pos
abbrev bargs (b off len c pos : Nat) : Array Value := #[.slice (some ⟨b, off, none⟩) len c, .int .i64 (pos : Int)]
set_option maxHeartbeats 1000000 in
theorem build_miss (b off len c pos : Nat) (w : World) (k : Int) (hc : w.cell? ⟨b, off + pos, none⟩ = some (.int .u8 k)) (hk0 : 0 ≤ k) (hk : k % 4 = 0) (h : pos < len) (hp : len ≤ 65536) :
    Calls Try.prog 25 (bargs b off len c pos) w (Bd len pos w) := by
  have hl := cell_lt hc
  have hl1 := Nat.lt_succ_of_lt hl
  go_enter Try.func25, Try.ntmps25
  go_wp2_with fail
  refine bodyPost_ret (v := .tuple #[.agg #[.iface 69 (.pointer (some ⟨w.heap.size + 2, 0, none⟩)), .int .i32 (pos : Int)], .int .i64 ((pos + 1 : Nat) : Int)]) (by simp [results, Try.results25, go_sem]) rfl ⟨fun _ => False, 69, w.heap.size + 2, pos, [], pos + 1, rfl, .miss _ _, fun b hb => hb.elim, ?_, by omega, by omega, Nat.zero_le _⟩
  go_light
  repeat (first | with_reducible exact Below.refl _ _ | with_reducible refine Below.drew ?_ | with_reducible refine Below.alloc ?_ (by simp <;> omega) _ | with_reducible refine Below.setCell ?_ (by simp <;> omega) _)
set_option maxHeartbeats 1000000 in
theorem build_leaf (b off len c pos : Nat) (w : World) (k : Int) (hc : w.cell? ⟨b, off + pos, none⟩ = some (.int .u8 k)) (hk0 : 0 ≤ k) (hk : k % 4 = 1) (h : pos < len) (hp : len ≤ 65536) :
    Calls Try.prog 25 (bargs b off len c pos) w (Bd len pos w) := by
  have hl := cell_lt hc
  have hl1 := Nat.lt_succ_of_lt hl
  go_enter Try.func25, Try.ntmps25
  go_wp2_with fail
  refine bodyPost_ret (v := .tuple #[.agg #[.iface 50 (.pointer (some ⟨w.heap.size + 2, 0, none⟩)), .int .i32 (pos : Int)], .int .i64 ((pos + 1 : Nat) : Int)]) (by simp [results, Try.results25, go_sem]) rfl ⟨fun _ => False, 50, w.heap.size + 2, pos, [(w.heap.size + 2, (pos : Int))], pos + 1, rfl, .leaf _ _, fun b hb => hb.elim, ?_, by omega, by omega, by simp⟩
  go_light
  repeat (first | with_reducible exact Below.refl _ _ | with_reducible refine Below.drew ?_ | with_reducible refine Below.alloc ?_ (by simp <;> omega) _ | with_reducible refine Below.setCell ?_ (by simp <;> omega) _)
end Go.Proofs.Ytiejadamfgbidab.fore
