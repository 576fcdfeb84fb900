/- A tree of scopes in memory: what it is, and that it stays one behind each store of 'buildScopes' and 'RecursiveSetStrictMode'. No conditions beyond their hypotheses. -/
import Derived.Test.YtiejadamfgbidabRows
import Derived.Test.YtiejadamfgbidabLib
namespace Go.Proofs.Ytiejadamfgbidab.scopes
open Go.ChangeShapes Go.WideShapes Go.ChangeAt Go.RowKit Go.Mine
set_option linter.unusedVariables false
set_option maxRecDepth 100000

def pt (x : Nat) : Value := .pointer (some ⟨x, 0, none⟩)
/-- The cells of a scope: its parent, its children, its mode; all else is zero. -/
def scA (par kids : Value) (m : Int) : Array Value :=
  #[.pointer none, par, kids, .map none, .slice none 0 0, .slice none 0 0, .int .i32 0, .int .i32 0, .int .u32 0, .int .u32 0, .bool false, .bool false, .bool false, .bool false, .int .u8 m, .int .u8 0]
theorem scA_par (p v : Value) (m : Int) (u : Value) : (scA p v m).setIfInBounds 1 u = scA u v m := rfl
theorem scA_kids (p v : Value) (m : Int) (u : Value) : (scA p v m).setIfInBounds 2 u = scA p u m := rfl
theorem scA_mode (p v : Value) (m k : Int) : (scA p v m).setIfInBounds 14 (.int .u8 k) = scA p v k := rfl
def rowL (R n : Nat) : List Value := (List.range n).map fun j => pt (R + 1 + j)
theorem rowL_len (R n : Nat) : (rowL R n).length = n := by simp [rowL]
theorem rowL_at (R n j : Nat) (h : j < n) : (rowL R n)[j]? = some (pt (R + 1 + j)) := by simp [rowL, h]
/-- The children of scope j among the scopes below i. -/
def kids (z : List Int) (i j : Nat) : List Nat := (List.range i).filter fun c => decide (1 ≤ c ∧ z.getD c 0 = (j : Int))
theorem kids_mem {z : List Int} {i j c : Nat} : c ∈ kids z i j ↔ c < i ∧ 1 ≤ c ∧ z.getD c 0 = (j : Int) := by simp [kids]
theorem kids_one (z : List Int) (j : Nat) : kids z 1 j = [] := by
  rw [List.eq_nil_iff_forall_not_mem]
  intro c hc
  have := kids_mem.1 hc
  omega
theorem kids_yes {z : List Int} {i j : Nat} (h : 1 ≤ i) (e : z.getD i 0 = (j : Int)) : kids z (i + 1) j = kids z i j ++ [i] := by
  unfold kids
  rw [List.range_succ, List.filter_append]
  congr 1
  rw [List.filter_cons, if_pos (decide_eq_true ⟨h, e⟩), List.filter_nil]
theorem kids_no {z : List Int} {i j : Nat} (e : z.getD i 0 ≠ (j : Int)) : kids z (i + 1) j = kids z i j := by
  unfold kids
  rw [List.range_succ, List.filter_append, List.filter_cons, if_neg (by rw [decide_eq_true_eq]; exact fun h => e h.2), List.filter_nil, List.append_nil]
theorem kids_le (z : List Int) (i j : Nat) : (kids z i j).length ≤ i := by
  have h := List.length_filter_le (fun c => decide (1 ≤ c ∧ z.getD c 0 = (j : Int))) (List.range i)
  unfold kids
  simp only [List.length_range] at h
  exact h
def upd {α : Type} (f : Nat → α) (j : Nat) (u : α) : Nat → α := fun x => if x = j then u else f x
theorem upd_same {α : Type} (f : Nat → α) (j : Nat) (u : α) : upd f j u j = u := if_pos rfl
theorem upd_other {α : Type} (f : Nat → α) {j x : Nat} (u : α) (h : x ≠ j) : upd f j u x = f x := if_neg h

/-- n scopes from block R + 1 on; a row of pointers to them in block R; the children's rows lie behind them. -/
structure Sc (R n i : Nat) (z : List Int) (md : Nat → Int) (par kv : Nat → Value) (w0 wr : World) : Prop where
  row : Blk wr R (rowL R n).toArray 92
  big : R + 1 + n ≤ wr.heap.size
  sc : ∀ j, j < n → Blk wr (R + 1 + j) (scA (par j) (kv j) (md j)) 103
  own : ∀ j, j < n → wr.ownsRow (R + 1 + n) 92 1 (kv j) (kids z i j).length ((kids z i j).map fun c => pt (R + 1 + c))
  nil : ∀ j, j < n → kids z i j = [] → kv j = .slice none 0 0
  bel : Below w0.heap.size w0 wr

theorem own_set {w : World} {B e n : Nat} {v : Value} {xs : List Value} (h : w.ownsRow B e 1 v n xs) (a : Addr) (ha : a.block < B) (u : Value) : (w.setCell a u).ownsRow B e 1 v n xs := by
  refine h.kept (row := some a.block) ⟨rfl, rfl, rfl, by simp [World.setCell], fun k _ hne => Below.heap_setCell _ _ _ _ (fun e => hne (by rw [e]))⟩ ?_
  right
  intro e
  have := (h.lt _ e).1
  omega
variable {R n i : Nat} {z : List Int} {md : Nat → Int} {par kv : Nat → Value} {w0 wr : World}
theorem Sc.drew (h : Sc R n i z md par kv w0 wr) : Sc R n i z md par kv w0 wr.drew := ⟨h.row, h.big, h.sc, h.own, h.nil, h.bel.drew⟩
theorem Sc.alloc (h : Sc R n i z md par kv w0 wr) (o : Obj) : Sc R n i z md par kv w0 (wr.alloc o) :=
  ⟨h.row.alloc o, by rw [World.size_alloc]; have := h.big; omega, fun j hj => (h.sc j hj).alloc o, fun j hj => (h.own j hj).alloc o, h.nil, h.bel.alloc h.bel.size o⟩
theorem Sc.setPar (h : Sc R n i z md par kv w0 wr) (hR : w0.heap.size ≤ R) {j : Nat} (hj : j < n) (u : Value) : Sc R n i z md (upd par j u) kv w0 (wr.setCell ⟨R + 1 + j, 1, none⟩ u) := by
  refine ⟨h.row.setOther (a := ⟨R + 1 + j, 1, none⟩) (by show R ≠ R + 1 + j; omega) u, by rw [size_set]; exact h.big, fun x hx => ?_, fun x hx => own_set (h.own x hx) _ (by show R + 1 + j < _; omega) u, h.nil, h.bel.setCell (by show _ ≤ R + 1 + j; omega) u⟩
  by_cases e : x = j
  · subst e
    rw [upd_same, ← scA_par (par x)]
    exact (h.sc x hx).set 1 u
  · rw [upd_other _ _ e]
    exact (h.sc x hx).setOther (a := ⟨R + 1 + j, 1, none⟩) (by show R + 1 + x ≠ R + 1 + j; omega) u
theorem Sc.setMode (h : Sc R n i z md par kv w0 wr) (hR : w0.heap.size ≤ R) {j : Nat} (hj : j < n) (k : Int) : Sc R n i z (upd md j k) par kv w0 (wr.setCell ⟨R + 1 + j, 14, none⟩ (.int .u8 k)) := by
  refine ⟨h.row.setOther (a := ⟨R + 1 + j, 14, none⟩) (by show R ≠ R + 1 + j; omega) _, by rw [size_set]; exact h.big, fun x hx => ?_, fun x hx => own_set (h.own x hx) _ (by show R + 1 + j < _; omega) _, h.nil, h.bel.setCell (by show _ ≤ R + 1 + j; omega) _⟩
  by_cases e : x = j
  · subst e
    rw [upd_same, ← scA_mode (par x) (kv x) (md x)]
    exact (h.sc x hx).set 14 _
  · rw [upd_other _ _ e]
    exact (h.sc x hx).setOther (a := ⟨R + 1 + j, 14, none⟩) (by show R + 1 + x ≠ R + 1 + j; omega) _
theorem Sc.first (h : Sc R n i z md par kv w0 wr) {j g : Nat} (hj : j < n) (hg : (kv j).ownBlock = some g) : ∃ c, z.getD c 0 = (j : Int) ∧ wr.cell? ⟨g, 0, none⟩ = some (pt (R + 1 + c)) := by
  cases hk : kids z i j with
  | nil => rw [h.nil j hj hk] at hg; simp [Value.ownBlock] at hg
  | cons c r =>
    have hc := (h.own j hj).cells hg 0 (pt (R + 1 + c)) (by rw [hk]; rfl)
    exact ⟨c, (kids_mem.1 (hk ▸ List.mem_cons_self : c ∈ kids z i j)).2.2, by simpa [Addr.add] using hc⟩
theorem Sc.apart (h : Sc R n i z md par kv w0 wr) {j p : Nat} (hj : j < n) (hp : p < n) (hne : j ≠ p) : (kv j).ownBlock = none ∨ (kv j).ownBlock ≠ (kv p).ownBlock := by
  cases hg : (kv j).ownBlock with
  | none => exact .inl rfl
  | some g =>
    right
    intro e
    obtain ⟨c, h1, h2⟩ := h.first hj hg
    obtain ⟨c', h3, h4⟩ := h.first hp e.symm
    rw [h2] at h4
    simp only [pt, Option.some.injEq, Value.pointer.injEq, Addr.mk.injEq, and_true] at h4
    have : c = c' := by omega
    subst this
    rw [h1] at h3
    omega
theorem Sc.app {w3 : World} (h : Sc R n i z md par kv w0 wr) (hR : w0.heap.size ≤ R) {p : Nat} (hi : 1 ≤ i) (hin : i < n) (hp : p < n) (hz : z.getD i 0 = (p : Int)) {v' : Value} (hg : wr.grownBy w3 (kv p).ownBlock)
    (ho : w3.ownsRow (R + 1 + n) 92 1 v' ((kids z i p).length + 1) (((kids z i p).map fun c => pt (R + 1 + c)) ++ [pt (R + 1 + i)])) : Sc R n (i + 1) z md par (upd kv p v') w0 (w3.setCell ⟨R + 1 + p, 2, none⟩ v') := by
  have hlow : ∀ k, k < R + 1 + n → w3.heap[k]? = wr.heap[k]? := fun k hk => hg.block k (Nat.lt_of_lt_of_le hk h.big) (fun e => by have := ((h.own p hp).lt k e.symm).1; omega)
  have hb3 : Below w0.heap.size w0 w3 := h.bel.grown hg (Nat.le_trans h.bel.size (Nat.le_refl _)) (fun k hk => by have := ((h.own p hp).lt k hk).1; omega)
  have blk : ∀ {k : Nat} {C : Array Value} {t : TypeId}, k < R + 1 + n → Blk wr k C t → Blk w3 k C t := fun hk hb => (hlow _ hk).trans hb
  refine ⟨(blk (by omega) h.row).setOther (a := ⟨R + 1 + p, 2, none⟩) (by show R ≠ R + 1 + p; omega) _, by rw [size_set]; exact Nat.le_trans h.big hg.size, fun x hx => ?_, fun x hx => ?_, fun x hx hk => ?_, hb3.setCell (by show _ ≤ R + 1 + p; omega) _⟩
  · by_cases e : x = p
    · subst e
      rw [upd_same, ← scA_kids (par x) (kv x)]
      exact (blk (by omega) (h.sc x hx)).set 2 v'
    · rw [upd_other _ _ e]
      exact (blk (by omega) (h.sc x hx)).setOther (a := ⟨R + 1 + p, 2, none⟩) (by show R + 1 + x ≠ R + 1 + p; omega) _
  · by_cases e : x = p
    · subst e
      rw [upd_same, kids_yes hi hz, List.length_append, List.map_append]
      exact own_set ho _ (by show R + 1 + x < _; omega) _
    · rw [upd_other _ _ e, kids_no (fun e2 => e (by rw [hz] at e2; omega))]
      exact own_set ((h.own x hx).kept hg (h.apart hx hp e)) _ (by show R + 1 + p < _; omega) _
  · by_cases e : x = p
    · subst e
      rw [kids_yes hi hz] at hk
      simp at hk
    · rw [upd_other _ _ e]
      rw [kids_no (fun e2 => e (by rw [hz] at e2; omega))] at hk
      exact h.nil x hx hk
end Go.Proofs.Ytiejadamfgbidab.scopes
