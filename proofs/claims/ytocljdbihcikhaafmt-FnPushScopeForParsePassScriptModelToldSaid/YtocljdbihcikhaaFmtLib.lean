/- Plain helpers of this seat's proofs, over any program: how an argument that is a slice reads ('RowOf'), and small lemmas. No conditions. -/
import Derived.WalkKit
import Derived.ProofKit
import Derived.OpenShut
import Derived.ShutString
import Derived.ChangeOld
import Derived.Below
import Derived.Deep.Light
import Derived.Deep.Grids
import Derived.SliceStrings
import Derived.Laws.Cover2
import Derived.Lib.Hide
import Derived.Deep.OwnRows
import Derived.WalkLawsBesides
import Derived.WalkSpells
import Derived.OneCell
namespace Go.Mine
open Go.ChangeShapes Go.WideShapes Go.ChangeAt Go.RowKit

theorem ret_bool {b : Bool} (h : b = true) : Ending.returned (.bool b) = .returned (.bool true) := by rw [h]
theorem ret_bool2 {a b : Bool} (h : a = b) : Ending.returned (.bool a) = .returned (.bool b) := by rw [h]
theorem ret_int {k : IntKind} {a b : Int} (h : a = b) : Ending.returned (.int k a) = .returned (.int k b) := by rw [h]

/-- What is known of a slice that came in: its elements 'zs', one cell each, the first of them at the slice's own address. -/
def RowOf {α : Type} (mk : α → Value) (d : α) (ok : α → Prop) (w : World) (a : Option Addr) (len cap : Nat) (zs : List α) : Prop :=
  zs.length = len ∧ len ≤ cap ∧ cap ≤ maxLen ∧ (∀ z ∈ zs, ok z) ∧
  ((a = none ∧ len = 0 ∧ cap = 0) ∨ ∃ b off s, a = some ⟨b, off, s⟩ ∧ (0 < len → s = none ∧ b < w.heap.size) ∧ ∀ i, i < len → w.cell? ⟨b, off + i, none⟩ = some (mk (zs.getD i d)))

abbrev IntRow (k : IntKind) := RowOf (Value.int k) 0 (fun n : Int => (Lit.int k n).wf = true)
abbrev BoolRow := RowOf Value.bool false (fun _ : Bool => True)
abbrev StrRow := RowOf Value.string ByteArray.empty (fun s : ByteArray => s.size ≤ maxLen)

theorem cell_lt {w : World} {p : Addr} {v : Value} (h : w.cell? p = some v) : p.block < w.heap.size := by
  apply Classical.byContradiction
  intro hn
  have : w.heap[p.block]? = none := by simp; omega
  simp [World.cell?, this] at h

section
variable {H : Type} {enc : TypeId × Value → H} {P : Program} {w : World} {base : Nat} {held : Bool}

theorem rowOf_mk {α : Type} {mk : α → Value} {d : α} {ok : α → Prop} {x : Addr} {len cap : Nat} {zs : List α} (hl : len ≤ cap) (hm : cap ≤ maxLen) (hz : zs.length = cap)
    (hc : ∀ i, i < zs.length → w.cell? (x.add i) = some (mk (zs.getD i d))) (hok : ∀ z ∈ zs, ok z) : RowOf mk d ok w (some x) len cap (zs.take len) := by
  refine ⟨by simp; omega, hl, hm, fun z hz => hok z (List.mem_of_mem_take hz), .inr ⟨x.block, x.off, x.spot, rfl, fun h0 => ?_, fun i hi => ?_⟩⟩
  · have h := hc 0 (by omega)
    have hs := World.cell?_spot h
    exact ⟨by simpa [Addr.add] using hs, by simpa [Addr.add] using cell_lt h⟩
  · have h := hc i (by omega)
    have hs := World.cell?_spot (hc 0 (by omega))
    obtain ⟨b, o, s⟩ := x
    have hs' : s = none := by simpa [Addr.add] using hs
    subst hs'
    have e : (zs.take len).getD i d = zs.getD i d := by simp [hi]
    have e2 : (Addr.mk b o none).add i = ⟨b, o + i, none⟩ := by
      by_cases h0 : i = 0
      · subst h0; simp [Addr.add]
      · simp [Addr.add, h0]
    rw [e, ← e2]
    exact h

theorem rowOf_ints {t e : TypeId} {k : IntKind} {a : Option Addr} {len cap : Nat} {d : DataW H} {ps : List MemPlace} (ht : P.underlying t = some (.slice e)) (he : P.underlying e = some (.int k)) (hc : P.cellsOf e = 1)
    (h : DataW.Trod enc P w base (fun _ => true) held t (.slice a len cap) d ps) : ∃ zs, IntRow k w a len cap zs := by
  obtain ⟨fuel, hf⟩ := h
  rcases open_ints ht he hc hf with ⟨hcs, _⟩ | ⟨x, l, c, zs, hcs, _, hl, hm, hz, _, hcell, hwz⟩
  · simp [Value.cells] at hcs
    obtain ⟨rfl, rfl, rfl⟩ := hcs
    exact ⟨[], rfl, Nat.le_refl _, Nat.zero_le _, by simp, .inl ⟨rfl, rfl, rfl⟩⟩
  · simp [Value.cells] at hcs
    obtain ⟨rfl, rfl, rfl⟩ := hcs
    exact ⟨_, rowOf_mk hl hm (by simpa using hz) hcell hwz⟩

theorem rowOf_strs {t e : TypeId} {a : Option Addr} {len cap : Nat} {d : DataW H} {ps : List MemPlace} (ht : P.underlying t = some (.slice e)) (he : P.underlying e = some .string) (hc : P.cellsOf e = 1)
    (h : DataW.Trod enc P w base (fun _ => true) held t (.slice a len cap) d ps) : ∃ zs, StrRow w a len cap zs := by
  obtain ⟨fuel, hf⟩ := h
  rcases open_strings ht he hc hf with ⟨hcs, _⟩ | ⟨x, l, c, zs, hcs, _, hl, hm, hz, _, hcell, hwz⟩
  · simp [Value.cells] at hcs
    obtain ⟨rfl, rfl, rfl⟩ := hcs
    exact ⟨[], rfl, Nat.le_refl _, Nat.zero_le _, by simp, .inl ⟨rfl, rfl, rfl⟩⟩
  · simp [Value.cells] at hcs
    obtain ⟨rfl, rfl, rfl⟩ := hcs
    exact ⟨_, rowOf_mk hl hm (by simpa using hz) hcell hwz⟩

theorem rowOf_bools {t e : TypeId} {a : Option Addr} {len cap : Nat} {d : DataW H} {ps : List MemPlace} (ht : P.underlying t = some (.slice e)) (he : P.underlying e = some .bool) (hc : P.cellsOf e = 1)
    (h : DataW.Trod enc P w base (fun _ => true) held t (.slice a len cap) d ps) : ∃ zs, BoolRow w a len cap zs := by
  obtain ⟨fuel, hf⟩ := h
  rcases Go.Deep.open_bools ht he hc hf with ⟨hcs, _⟩ | ⟨x, l, c, B, hcs, _, hl, hm, _, hcell⟩
  · simp [Value.cells] at hcs
    obtain ⟨rfl, rfl, rfl⟩ := hcs
    exact ⟨[], rfl, Nat.le_refl _, Nat.zero_le _, by simp, .inl ⟨rfl, rfl, rfl⟩⟩
  · simp [Value.cells] at hcs
    obtain ⟨rfl, rfl, rfl⟩ := hcs
    exact ⟨_, rowOf_mk (zs := (List.range cap).map B) hl hm (by simp) (fun i hi => by rw [hcell i (by simpa using hi)]; simp at hi; simp [hi]) (fun _ _ => trivial)⟩
end

theorem RowOf.below {α : Type} {mk : α → Value} {d : α} {ok : α → Prop} {w w' : World} {a : Option Addr} {len cap : Nat} {zs : List α} (h : RowOf mk d ok w a len cap zs) (hb : Below w.heap.size w w') : RowOf mk d ok w' a len cap zs := by
  obtain ⟨h1, h2, h3, h4, h5⟩ := h
  refine ⟨h1, h2, h3, h4, ?_⟩
  rcases h5 with h5 | ⟨b, off, s, h5, h6, h7⟩
  · exact .inl h5
  · refine .inr ⟨b, off, s, h5, fun h0 => ⟨(h6 h0).1, Nat.lt_of_lt_of_le (h6 h0).2 hb.size⟩, fun i hi => ?_⟩
    rw [hb.cell (p := ⟨b, off + i, none⟩) (h6 (by omega)).2, h7 i hi]

theorem RowOf.len {α : Type} {mk : α → Value} {d : α} {ok : α → Prop} {w : World} {a : Option Addr} {len cap : Nat} {zs : List α} (h : RowOf mk d ok w a len cap zs) : zs.length = len := h.1

theorem RowOf.at {α : Type} {mk : α → Value} {d : α} {ok : α → Prop} {w : World} {a : Option Addr} {len cap : Nat} {zs : List α} (h : RowOf mk d ok w a len cap zs) {i : Nat} (hi : i < len) :
    ∃ b off, a = some ⟨b, off, none⟩ ∧ b < w.heap.size ∧ w.cell? ⟨b, off + i, none⟩ = some (mk (zs.getD i d)) := by
  obtain ⟨h1, h2, h3, h4, h5⟩ := h
  rcases h5 with ⟨_, h5, _⟩ | ⟨b, off, s, h5, h6, h7⟩
  · omega
  · obtain ⟨rfl, h8⟩ := h6 (by omega)
    exact ⟨b, off, h5, h8, h7 i hi⟩

/-- A row that a loop has filled so far: the first k are copied, the others are zero. -/
def fillTo (zs : List Value) (z : Value) (k : Nat) : Array Value := (zs.take k ++ List.replicate (zs.length - k) z).toArray
theorem fill_start (zs : List Value) (z : Value) : madeCells #[z] zs.length = fillTo zs z 0 := by
  apply Array.toList_inj.1
  rw [toList_madeCells_one]
  simp [fillTo]
theorem fill_end (zs : List Value) (z : Value) : fillTo zs z zs.length = zs.toArray := by simp [fillTo]
theorem fill_set {zs : List Value} {z v : Value} {k : Nat} (hk : k < zs.length) (hv : zs[k]? = some v) : (fillTo zs z k).setIfInBounds k v = fillTo zs z (k + 1) := by
  apply Array.toList_inj.1
  simp only [fillTo, Array.toList_setIfInBounds]
  apply List.ext_getElem?
  intro i
  rw [List.getElem?_set]
  have m1 : min k zs.length = k := by omega
  have m2 : min (k + 1) zs.length = k + 1 := by omega
  simp only [List.length_append, List.length_take, List.length_replicate, List.getElem?_append, List.getElem?_take, List.getElem?_replicate, m1, m2]
  by_cases h1 : k = i
  · subst h1
    have hv' : zs[k] = v := by rw [List.getElem?_eq_getElem hk] at hv; exact Option.some.inj hv
    simp [hk, hv']; omega
  · by_cases h2 : i < k
    · simp [h1, h2, Nat.lt_succ_of_lt h2]
    · have h3 : ¬ i < k + 1 := by omega
      by_cases h4 : i < zs.length
      · have h5 : i - k < zs.length - k := by omega
        have h6 : i - (k + 1) < zs.length - (k + 1) := by omega
        simp [h1, h2, h3, h5, h6]
      · have h5 : ¬ i - k < zs.length - k := by omega
        have h6 : ¬ i - (k + 1) < zs.length - (k + 1) := by omega
        simp [h1, h2, h3, h5, h6]
theorem fill_size (zs : List Value) (z : Value) {k : Nat} (h : k ≤ zs.length) : (fillTo zs z k).size = zs.length := by simp [fillTo]; omega

theorem rowOf_new {α : Type} (mk : α → Value) (d : α) (ok : α → Prop) (w : World) (E : TypeId) (zs : List α) (h : zs.length ≤ maxLen) (hok : ∀ z ∈ zs, ok z) :
    RowOf mk d ok (w.alloc (.cells (zs.map mk).toArray E)) (some ⟨w.heap.size, 0, none⟩) zs.length zs.length zs := by
  refine ⟨rfl, Nat.le_refl _, h, hok, .inr ⟨_, _, _, rfl, fun _ => ⟨rfl, by simp⟩, fun i hi => ?_⟩⟩
  simp [go_sem, hi]

/-- What a copy of a slice is: its own row in new memory (nil stays nil), the same elements; nothing that was there has turned. -/
def Cloned {α : Type} (mk : α → Value) (d : α) (ok : α → Prop) (w : World) (a : Option Addr) (len : Nat) (zs : List α) (e : Ending) (w' : World) : Prop :=
  ∃ a' : Option Addr, e = .returned (.slice a' len len) ∧ RowOf mk d ok w' a' len len zs ∧ (a' = none ↔ a = none) ∧ (∀ x, a' = some x → w.heap.size ≤ x.block ∧ x.off = 0 ∧ x.spot = none ∧ x.block < w'.heap.size) ∧ Below w.heap.size w w'

/- A type assertion with comma-ok to a pointer type: three ways. -/
section
variable {P : Program}
theorem run_assert_yes {t e : TypeId} (xT : TypeId) (v : Value) (w : World) (h : P.underlying t = some (.pointer e)) : (Instr.typeAssert (.iface t v) xT t true).run P w = .ok (.tuple #[v, .bool true]) w := by
  simp [Instr.typeAssert, run_underlying h]
theorem run_zero_of {t : TypeId} {z : Value} (w : World) (hz : (P.info? t).map (·.zero) = some (some z)) : (zeroValue t).run P w = .ok z w := by
  obtain ⟨i, hi, hz⟩ := Option.map_eq_some_iff.1 hz
  simp [zeroValue, typeInfo, hi, hz]
theorem run_assert_no {t e : TypeId} (xT T : TypeId) (v : Value) (w : World) (h : P.underlying t = some (.pointer e)) (hz : (P.info? t).map (·.zero) = some (some (.pointer none))) (hne : T ≠ t) : (Instr.typeAssert (.iface T v) xT t true).run P w = .ok (.tuple #[.pointer none, .bool false]) w := by
  simp [Instr.typeAssert, run_underlying h, hne, run_zero_of w hz]
theorem run_assert_nil {t e : TypeId} (xT : TypeId) (w : World) (h : P.underlying t = some (.pointer e)) (hz : (P.info? t).map (·.zero) = some (some (.pointer none))) : (Instr.typeAssert .nilIface xT t true).run P w = .ok (.tuple #[.pointer none, .bool false]) w := by
  simp [Instr.typeAssert, run_underlying h, run_zero_of w hz]
end

/-- The blocks of w lie in w' as they were, but for those in X (the boxes of local variables). -/
def Same (X : Nat → Prop) (w w' : World) : Prop := w.heap.size ≤ w'.heap.size ∧ ∀ k, k < w.heap.size → ¬ X k → w'.heap[k]? = w.heap[k]?
theorem Same.refl (X : Nat → Prop) (w : World) : Same X w w := ⟨Nat.le_refl _, fun _ _ _ => rfl⟩
theorem Same.trans {X : Nat → Prop} {a b c : World} (h : Same X a b) (k : Same X b c) : Same X a c :=
  ⟨Nat.le_trans h.1 k.1, fun i hi hx => (k.2 i (Nat.lt_of_lt_of_le hi h.1) hx).trans (h.2 i hi hx)⟩
theorem Same.of_below {X : Nat → Prop} {w w' : World} (h : Below w.heap.size w w') : Same X w w' := ⟨h.size, fun k hk _ => h.block k hk⟩
theorem Same.mono {X Y : Nat → Prop} {w w' : World} (h : Same Y w w') (hXY : ∀ k, Y k → X k) : Same X w w' := ⟨h.1, fun k hk hx => h.2 k hk (fun hy => hx (hXY k hy))⟩
theorem Same.drew {X : Nat → Prop} {a w : World} (h : Same X a w) : Same X a w.drew := h
theorem Same.drewN {X : Nat → Prop} {a w : World} (h : Same X a w) (n : Nat) : Same X a (w.drewN n) := h
theorem Same.alloc {X : Nat → Prop} {a w : World} (h : Same X a w) (o : Obj) : Same X a (w.alloc o) := h.trans (Same.of_below ((Below.refl _ _).alloc (Nat.le_refl _) o))
theorem Same.setCell {X : Nat → Prop} {a w : World} (h : Same X a w) {p : Addr} (hp : X p.block) (u : Value) : Same X a (w.setCell p u) :=
  h.trans ⟨by simp [World.setCell], fun k _ hx => Below.heap_setCell _ _ _ _ (fun e => hx (e ▸ hp))⟩
theorem Same.setNew {X : Nat → Prop} {a w : World} (h : Same X a w) {p : Addr} (hp : a.heap.size ≤ p.block) (u : Value) : Same X a (w.setCell p u) :=
  ⟨Nat.le_trans h.1 (by simp [World.setCell]), fun k hk hx => (Below.heap_setCell _ _ _ _ (by omega)).trans (h.2 k hk hx)⟩
theorem cell_of_block {w w' : World} {p : Nat} (h : w'.heap[p]? = w.heap[p]?) (o : Nat) : w'.cell? ⟨p, o, none⟩ = w.cell? ⟨p, o, none⟩ := by
  unfold World.cell?; rw [h]
theorem Same.cell {X : Nat → Prop} {w w' : World} (h : Same X w w') {p o : Nat} {v : Value} (hx : ¬ X p) (hc : w.cell? ⟨p, o, none⟩ = some v) : w'.cell? ⟨p, o, none⟩ = some v := by
  rw [cell_of_block (h.2 p (cell_lt hc) hx) o, hc]
/-- In every later world (but for the blocks in X) the function f, called with args, returns R and leaves what was there as it was. -/
def Says (P : Program) (X : Nat → Prop) (f : Nat) (args : Array Value) (R : Value) (w : World) : Prop :=
  ∀ w', Same X w w' → Calls P f args w' fun e w'' => e = .returned R ∧ Below w'.heap.size w' w''
theorem Says.later {P : Program} {X : Nat → Prop} {f : Nat} {args : Array Value} {R : Value} {w w' : World} (h : Says P X f args R w) (hb : Same X w w') : Says P X f args R w' :=
  fun w'' hb' => h w'' (hb.trans hb')
theorem Says.weaken {P : Program} {X Y : Nat → Prop} {f : Nat} {args : Array Value} {R : Value} {w : World} (h : Says P X f args R w) (hYX : ∀ k, Y k → X k) : Says P Y f args R w :=
  fun w' hb => h w' (hb.mono hYX)
theorem below2 {w w1 w2 : World} (h1 : Below w.heap.size w w1) (h2 : Below w1.heap.size w1 w2) : Below w.heap.size w w2 := h1.trans (h2.mono h1.size)
theorem below3 {w w1 w2 w3 : World} (h1 : Below w.heap.size w w1) (h2 : Below w1.heap.size w1 w2) (h3 : Below w2.heap.size w2 w3) : Below w.heap.size w w3 := below2 (below2 h1 h2) h3
theorem below4 {w w1 w2 w3 w4 : World} (h1 : Below w.heap.size w w1) (h2 : Below w1.heap.size w1 w2) (h3 : Below w2.heap.size w2 w3) (h4 : Below w3.heap.size w3 w4) : Below w.heap.size w w4 := below2 (below3 h1 h2 h3) h4
theorem below_drewN' {w : World} (n : Nat) : Below w.heap.size w (w.drewN n) := below_drewN (Below.refl _ _) n
theorem Below.cellAt {w w' : World} {p o : Nat} {v : Value} (hb : Below w.heap.size w w') (h : w.cell? ⟨p, o, none⟩ = some v) : w'.cell? ⟨p, o, none⟩ = some v := (hb.cell (p := ⟨p, o, none⟩) (cell_lt h)).trans h

/-- Block p of w holds the cells C (of type t), none of them frozen. -/
def Blk (w : World) (p : Nat) (C : Array Value) (t : TypeId) : Prop := w.heap[p]? = some (.cells C t (0, 0))
theorem Blk.lt {w : World} {p : Nat} {C : Array Value} {t : TypeId} (h : Blk w p C t) : p < w.heap.size := lt_of_block h
theorem Blk.cell {w : World} {p : Nat} {C : Array Value} {t : TypeId} (h : Blk w p C t) (o : Nat) : w.cell? ⟨p, o, none⟩ = C[o]? := by unfold Blk at h; simp [World.cell?, h]
theorem Blk.free {w : World} {p : Nat} {C : Array Value} {t : TypeId} (h : Blk w p C t) (o : Nat) : w.frozen? ⟨p, o, none⟩ = false := by unfold Blk at h; simp [World.frozen?, h]
theorem Blk.set {w : World} {p : Nat} {C : Array Value} {t : TypeId} (h : Blk w p C t) (o : Nat) (u : Value) : Blk (w.setCell ⟨p, o, none⟩ u) p (C.setIfInBounds o u) t := by
  have hlt := h.lt
  unfold Blk at h ⊢
  have h' : w.heap[p] = .cells C t (0, 0) := by simpa [Array.getElem?_eq_getElem hlt] using h
  show (w.heap.modify p _)[p]? = _
  rw [Array.getElem?_eq_getElem (by simpa using hlt), Array.getElem_modify_self, h']
  rfl
theorem Blk.setOther {w : World} {p : Nat} {C : Array Value} {t : TypeId} (h : Blk w p C t) {a : Addr} (ha : p ≠ a.block) (u : Value) : Blk (w.setCell a u) p C t := (Below.heap_setCell _ _ _ _ ha).trans h
theorem Blk.alloc {w : World} {p : Nat} {C : Array Value} {t : TypeId} (h : Blk w p C t) (o : Obj) : Blk (w.alloc o) p C t := (Below.heap_alloc _ _ _ h.lt).trans h
theorem Blk.same {X : Nat → Prop} {w w' : World} {p : Nat} {C : Array Value} {t : TypeId} (h : Blk w p C t) (hs : Same X w w') (hx : ¬ X p) : Blk w' p C t := (hs.2 p h.lt hx).trans h
theorem Blk.below {w w' : World} {p : Nat} {C : Array Value} {t : TypeId} (h : Blk w p C t) (hs : Below w.heap.size w w') : Blk w' p C t := (hs.block p h.lt).trans h
theorem Blk.new (w : World) (C : Array Value) (t : TypeId) : Blk (w.alloc (.cells C t)) w.heap.size C t := by
  show (w.heap.push _)[w.heap.size]? = _
  simp
theorem RowOf.same {α : Type} {mk : α → Value} {d : α} {ok : α → Prop} {X : Nat → Prop} {w w' : World} {a : Option Addr} {len cap : Nat} {zs : List α} (h : RowOf mk d ok w a len cap zs) (hs : Same X w w') (hx : ∀ x, a = some x → ¬ X x.block) : RowOf mk d ok w' a len cap zs := by
  obtain ⟨h1, h2, h3, h4, h5⟩ := h
  refine ⟨h1, h2, h3, h4, ?_⟩
  rcases h5 with h5 | ⟨b, off, s, h5, h6, h7⟩
  · exact .inl h5
  · exact .inr ⟨b, off, s, h5, fun h0 => ⟨(h6 h0).1, Nat.lt_of_lt_of_le (h6 h0).2 hs.1⟩, fun i hi => hs.cell (hx _ h5) (h7 i hi)⟩

theorem set2 (a b x y : Value) : ((#[a, b] : Array Value).setIfInBounds 0 x).setIfInBounds 1 y = #[x, y] := by simp
theorem size_set (w : World) (a : Addr) (v : Value) : (w.setCell a v).heap.size = w.heap.size := by simp [World.setCell]
/-- The world behind 'e = Expr{Data: &Node{..}}': the variable in block pe (two cells of type te) turned to a new node with the cells C. -/
def nxt (wr : World) (pe : Nat) (C : Array Value) (t T' : Nat) : World := ((wr.setCell ⟨pe, 0, none⟩ (.iface T' (.pointer (some ⟨wr.heap.size, 0, none⟩)))).setCell ⟨pe, 1, none⟩ (.int .i32 0)).alloc (.cells C t)
theorem nxt_same (wr : World) (pe : Nat) (C : Array Value) (t T' : Nat) : Same (· = pe) wr (nxt wr pe C t T') := by
  unfold nxt
  refine Same.alloc (Same.setCell (p := ⟨pe, 1, none⟩) (Same.setCell (p := ⟨pe, 0, none⟩) (Same.refl _ _) ?_ _) ?_ _) _
  · rfl
  · rfl
theorem nxt_sameX {X : Nat → Prop} (wr : World) (pe : Nat) (C : Array Value) (t T' : Nat) (hX : X pe) : Same X wr (nxt wr pe C t T') := by
  unfold nxt
  exact Same.alloc (Same.setCell (p := ⟨pe, 1, none⟩) (Same.setCell (p := ⟨pe, 0, none⟩) (Same.refl _ _) hX _) hX _) _
theorem nxt_blk {wr : World} {pe te : Nat} {D L : Value} (C : Array Value) (t T' : Nat) (h1 : Blk wr pe #[D, L] te) : Blk (nxt wr pe C t T') pe #[.iface T' (.pointer (some ⟨wr.heap.size, 0, none⟩)), .int .i32 0] te := by
  unfold nxt
  have h := (h1.set 0 (.iface T' (.pointer (some ⟨wr.heap.size, 0, none⟩)))).set 1 (.int .i32 0)
  rw [set2] at h
  exact h.alloc _
theorem nxt_node (wr : World) (pe : Nat) (C : Array Value) (t T' : Nat) : Blk (nxt wr pe C t T') wr.heap.size C t := by
  unfold nxt
  have h := Blk.new ((wr.setCell ⟨pe, 0, none⟩ (.iface T' (.pointer (some ⟨wr.heap.size, 0, none⟩)))).setCell ⟨pe, 1, none⟩ (.int .i32 0)) C t
  rw [size_set, size_set] at h
  exact h
theorem nxt_below {W wr : World} {pe B : Nat} (C : Array Value) (t T' : Nat) (hB : B ≤ pe) (h : pe < wr.heap.size) (h4 : Below B W wr) : Below B W (nxt wr pe C t T') := by
  unfold nxt
  exact ((h4.setCell hB _).setCell hB _).alloc (by rw [size_set, size_set]; omega) _
theorem bcell {w w' : World} {p o : Nat} {v : Value} (hb : Below w.heap.size w w') (h : w.cell? ⟨p, o, none⟩ = some v) : w'.cell? ⟨p, o, none⟩ = some v := (hb.cell (p := ⟨p, o, none⟩) (cell_lt h)).trans h
theorem elt_of {k : IntKind} {w : World} {a : Option Addr} {l c j : Nat} {z : List Int} {x : Int} (h : IntRow k w a l c z) (hj : j < l) (hx : x = z.getD j 0) : ∃ q : j < z.length, x = z[j] := by
  have q : j < z.length := by rw [h.1]; exact hj
  exact ⟨q, by rw [hx]; simp [q]⟩
theorem ne_of_elt {z0 z1 : List Int} {k : Nat} {x y : Int} (q0 : k < z0.length) (q1 : k < z1.length) (hx : x = z0[k]) (hy : y = z1[k]) (ht : (x != y) = true) : false = decide (z0 = z1) := by
  symm
  rw [decide_eq_false_iff_not]
  intro he
  subst he
  subst hx hy
  simp at ht
end Go.Mine
