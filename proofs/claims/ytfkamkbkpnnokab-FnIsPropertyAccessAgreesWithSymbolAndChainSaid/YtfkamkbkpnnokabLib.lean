/- Plain helpers of this seat's proofs, over any program: how an argument that is a slice reads ('RowOf'), and small lemmas. No conditions. -/
import Derived.WalkKit
import Derived.ProofKit
import Derived.OpenShut
import Derived.ShutString
import Derived.ChangeOld
import Derived.Below
import Derived.Deep.Light
import Derived.Deep.Grids
import Derived.SliceStrings
import Derived.Laws.Cover2
import Derived.Lib.Hide
import Derived.Deep.OwnRows
import Derived.WalkLawsBesides
import Derived.WalkSpells
namespace Go.Mine
open Go.ChangeShapes Go.WideShapes Go.ChangeAt Go.RowKit

theorem ret_bool {b : Bool} (h : b = true) : Ending.returned (.bool b) = .returned (.bool true) := by rw [h]
theorem ret_bool2 {a b : Bool} (h : a = b) : Ending.returned (.bool a) = .returned (.bool b) := by rw [h]
theorem ret_int {k : IntKind} {a b : Int} (h : a = b) : Ending.returned (.int k a) = .returned (.int k b) := by rw [h]

/-- What is known of a slice that came in: its elements 'zs', one cell each, the first of them at the slice's own address. -/
def RowOf {α : Type} (mk : α → Value) (d : α) (ok : α → Prop) (w : World) (a : Option Addr) (len cap : Nat) (zs : List α) : Prop :=
  zs.length = len ∧ len ≤ cap ∧ cap ≤ maxLen ∧ (∀ z ∈ zs, ok z) ∧
  ((a = none ∧ len = 0 ∧ cap = 0) ∨ ∃ b off s, a = some ⟨b, off, s⟩ ∧ (0 < len → s = none ∧ b < w.heap.size) ∧ ∀ i, i < len → w.cell? ⟨b, off + i, none⟩ = some (mk (zs.getD i d)))

abbrev IntRow (k : IntKind) := RowOf (Value.int k) 0 (fun n : Int => (Lit.int k n).wf = true)
abbrev BoolRow := RowOf Value.bool false (fun _ : Bool => True)
abbrev StrRow := RowOf Value.string ByteArray.empty (fun s : ByteArray => s.size ≤ maxLen)

theorem cell_lt {w : World} {p : Addr} {v : Value} (h : w.cell? p = some v) : p.block < w.heap.size := by
  apply Classical.byContradiction
  intro hn
  have : w.heap[p.block]? = none := by simp; omega
  simp [World.cell?, this] at h

section
variable {H : Type} {enc : TypeId × Value → H} {P : Program} {w : World} {base : Nat} {held : Bool}

theorem rowOf_mk {α : Type} {mk : α → Value} {d : α} {ok : α → Prop} {x : Addr} {len cap : Nat} {zs : List α} (hl : len ≤ cap) (hm : cap ≤ maxLen) (hz : zs.length = cap)
    (hc : ∀ i, i < zs.length → w.cell? (x.add i) = some (mk (zs.getD i d))) (hok : ∀ z ∈ zs, ok z) : RowOf mk d ok w (some x) len cap (zs.take len) := by
  refine ⟨by simp; omega, hl, hm, fun z hz => hok z (List.mem_of_mem_take hz), .inr ⟨x.block, x.off, x.spot, rfl, fun h0 => ?_, fun i hi => ?_⟩⟩
  · have h := hc 0 (by omega)
    have hs := World.cell?_spot h
    exact ⟨by simpa [Addr.add] using hs, by simpa [Addr.add] using cell_lt h⟩
  · have h := hc i (by omega)
    have hs := World.cell?_spot (hc 0 (by omega))
    obtain ⟨b, o, s⟩ := x
    have hs' : s = none := by simpa [Addr.add] using hs
    subst hs'
    have e : (zs.take len).getD i d = zs.getD i d := by simp [hi]
    have e2 : (Addr.mk b o none).add i = ⟨b, o + i, none⟩ := by
      by_cases h0 : i = 0
      · subst h0; simp [Addr.add]
      · simp [Addr.add, h0]
    rw [e, ← e2]
    exact h

theorem rowOf_ints {t e : TypeId} {k : IntKind} {a : Option Addr} {len cap : Nat} {d : DataW H} {ps : List MemPlace} (ht : P.underlying t = some (.slice e)) (he : P.underlying e = some (.int k)) (hc : P.cellsOf e = 1)
    (h : DataW.Trod enc P w base (fun _ => true) held t (.slice a len cap) d ps) : ∃ zs, IntRow k w a len cap zs := by
  obtain ⟨fuel, hf⟩ := h
  rcases open_ints ht he hc hf with ⟨hcs, _⟩ | ⟨x, l, c, zs, hcs, _, hl, hm, hz, _, hcell, hwz⟩
  · simp [Value.cells] at hcs
    obtain ⟨rfl, rfl, rfl⟩ := hcs
    exact ⟨[], rfl, Nat.le_refl _, Nat.zero_le _, by simp, .inl ⟨rfl, rfl, rfl⟩⟩
  · simp [Value.cells] at hcs
    obtain ⟨rfl, rfl, rfl⟩ := hcs
    exact ⟨_, rowOf_mk hl hm (by simpa using hz) hcell hwz⟩

theorem rowOf_strs {t e : TypeId} {a : Option Addr} {len cap : Nat} {d : DataW H} {ps : List MemPlace} (ht : P.underlying t = some (.slice e)) (he : P.underlying e = some .string) (hc : P.cellsOf e = 1)
    (h : DataW.Trod enc P w base (fun _ => true) held t (.slice a len cap) d ps) : ∃ zs, StrRow w a len cap zs := by
  obtain ⟨fuel, hf⟩ := h
  rcases open_strings ht he hc hf with ⟨hcs, _⟩ | ⟨x, l, c, zs, hcs, _, hl, hm, hz, _, hcell, hwz⟩
  · simp [Value.cells] at hcs
    obtain ⟨rfl, rfl, rfl⟩ := hcs
    exact ⟨[], rfl, Nat.le_refl _, Nat.zero_le _, by simp, .inl ⟨rfl, rfl, rfl⟩⟩
  · simp [Value.cells] at hcs
    obtain ⟨rfl, rfl, rfl⟩ := hcs
    exact ⟨_, rowOf_mk hl hm (by simpa using hz) hcell hwz⟩

theorem rowOf_bools {t e : TypeId} {a : Option Addr} {len cap : Nat} {d : DataW H} {ps : List MemPlace} (ht : P.underlying t = some (.slice e)) (he : P.underlying e = some .bool) (hc : P.cellsOf e = 1)
    (h : DataW.Trod enc P w base (fun _ => true) held t (.slice a len cap) d ps) : ∃ zs, BoolRow w a len cap zs := by
  obtain ⟨fuel, hf⟩ := h
  rcases Go.Deep.open_bools ht he hc hf with ⟨hcs, _⟩ | ⟨x, l, c, B, hcs, _, hl, hm, _, hcell⟩
  · simp [Value.cells] at hcs
    obtain ⟨rfl, rfl, rfl⟩ := hcs
    exact ⟨[], rfl, Nat.le_refl _, Nat.zero_le _, by simp, .inl ⟨rfl, rfl, rfl⟩⟩
  · simp [Value.cells] at hcs
    obtain ⟨rfl, rfl, rfl⟩ := hcs
    exact ⟨_, rowOf_mk (zs := (List.range cap).map B) hl hm (by simp) (fun i hi => by rw [hcell i (by simpa using hi)]; simp at hi; simp [hi]) (fun _ _ => trivial)⟩
end

theorem RowOf.below {α : Type} {mk : α → Value} {d : α} {ok : α → Prop} {w w' : World} {a : Option Addr} {len cap : Nat} {zs : List α} (h : RowOf mk d ok w a len cap zs) (hb : Below w.heap.size w w') : RowOf mk d ok w' a len cap zs := by
  obtain ⟨h1, h2, h3, h4, h5⟩ := h
  refine ⟨h1, h2, h3, h4, ?_⟩
  rcases h5 with h5 | ⟨b, off, s, h5, h6, h7⟩
  · exact .inl h5
  · refine .inr ⟨b, off, s, h5, fun h0 => ⟨(h6 h0).1, Nat.lt_of_lt_of_le (h6 h0).2 hb.size⟩, fun i hi => ?_⟩
    rw [hb.cell (p := ⟨b, off + i, none⟩) (h6 (by omega)).2, h7 i hi]

theorem RowOf.len {α : Type} {mk : α → Value} {d : α} {ok : α → Prop} {w : World} {a : Option Addr} {len cap : Nat} {zs : List α} (h : RowOf mk d ok w a len cap zs) : zs.length = len := h.1

theorem RowOf.at {α : Type} {mk : α → Value} {d : α} {ok : α → Prop} {w : World} {a : Option Addr} {len cap : Nat} {zs : List α} (h : RowOf mk d ok w a len cap zs) {i : Nat} (hi : i < len) :
    ∃ b off, a = some ⟨b, off, none⟩ ∧ b < w.heap.size ∧ w.cell? ⟨b, off + i, none⟩ = some (mk (zs.getD i d)) := by
  obtain ⟨h1, h2, h3, h4, h5⟩ := h
  rcases h5 with ⟨_, h5, _⟩ | ⟨b, off, s, h5, h6, h7⟩
  · omega
  · obtain ⟨rfl, h8⟩ := h6 (by omega)
    exact ⟨b, off, h5, h8, h7 i hi⟩

/-- A row that a loop has filled so far: the first k are copied, the others are zero. -/
def fillTo (zs : List Value) (z : Value) (k : Nat) : Array Value := (zs.take k ++ List.replicate (zs.length - k) z).toArray
theorem fill_start (zs : List Value) (z : Value) : madeCells #[z] zs.length = fillTo zs z 0 := by
  apply Array.toList_inj.1
  rw [toList_madeCells_one]
  simp [fillTo]
theorem fill_end (zs : List Value) (z : Value) : fillTo zs z zs.length = zs.toArray := by simp [fillTo]
theorem fill_set {zs : List Value} {z v : Value} {k : Nat} (hk : k < zs.length) (hv : zs[k]? = some v) : (fillTo zs z k).setIfInBounds k v = fillTo zs z (k + 1) := by
  apply Array.toList_inj.1
  simp only [fillTo, Array.toList_setIfInBounds]
  apply List.ext_getElem?
  intro i
  rw [List.getElem?_set]
  have m1 : min k zs.length = k := by omega
  have m2 : min (k + 1) zs.length = k + 1 := by omega
  simp only [List.length_append, List.length_take, List.length_replicate, List.getElem?_append, List.getElem?_take, List.getElem?_replicate, m1, m2]
  by_cases h1 : k = i
  · subst h1
    have hv' : zs[k] = v := by rw [List.getElem?_eq_getElem hk] at hv; exact Option.some.inj hv
    simp [hk, hv']; omega
  · by_cases h2 : i < k
    · simp [h1, h2, Nat.lt_succ_of_lt h2]
    · have h3 : ¬ i < k + 1 := by omega
      by_cases h4 : i < zs.length
      · have h5 : i - k < zs.length - k := by omega
        have h6 : i - (k + 1) < zs.length - (k + 1) := by omega
        simp [h1, h2, h3, h5, h6]
      · have h5 : ¬ i - k < zs.length - k := by omega
        have h6 : ¬ i - (k + 1) < zs.length - (k + 1) := by omega
        simp [h1, h2, h3, h5, h6]
theorem fill_size (zs : List Value) (z : Value) {k : Nat} (h : k ≤ zs.length) : (fillTo zs z k).size = zs.length := by simp [fillTo]; omega

theorem rowOf_new {α : Type} (mk : α → Value) (d : α) (ok : α → Prop) (w : World) (E : TypeId) (zs : List α) (h : zs.length ≤ maxLen) (hok : ∀ z ∈ zs, ok z) :
    RowOf mk d ok (w.alloc (.cells (zs.map mk).toArray E)) (some ⟨w.heap.size, 0, none⟩) zs.length zs.length zs := by
  refine ⟨rfl, Nat.le_refl _, h, hok, .inr ⟨_, _, _, rfl, fun _ => ⟨rfl, by simp⟩, fun i hi => ?_⟩⟩
  simp [go_sem, hi]

/-- What a copy of a slice is: its own row in new memory (nil stays nil), the same elements; nothing that was there has turned. -/
def Cloned {α : Type} (mk : α → Value) (d : α) (ok : α → Prop) (w : World) (a : Option Addr) (len : Nat) (zs : List α) (e : Ending) (w' : World) : Prop :=
  ∃ a' : Option Addr, e = .returned (.slice a' len len) ∧ RowOf mk d ok w' a' len len zs ∧ (a' = none ↔ a = none) ∧ (∀ x, a' = some x → w.heap.size ≤ x.block ∧ x.off = 0 ∧ x.spot = none) ∧ Below w.heap.size w w'

/- A type assertion with comma-ok to a pointer type: three ways. -/
section
variable {P : Program}
theorem run_assert_yes {t e : TypeId} (xT : TypeId) (v : Value) (w : World) (h : P.underlying t = some (.pointer e)) : (Instr.typeAssert (.iface t v) xT t true).run P w = .ok (.tuple #[v, .bool true]) w := by
  simp [Instr.typeAssert, run_underlying h]
theorem run_zero_of {t : TypeId} {z : Value} (w : World) (hz : (P.info? t).map (·.zero) = some (some z)) : (zeroValue t).run P w = .ok z w := by
  obtain ⟨i, hi, hz⟩ := Option.map_eq_some_iff.1 hz
  simp [zeroValue, typeInfo, hi, hz]
theorem run_assert_no {t e : TypeId} (xT T : TypeId) (v : Value) (w : World) (h : P.underlying t = some (.pointer e)) (hz : (P.info? t).map (·.zero) = some (some (.pointer none))) (hne : T ≠ t) : (Instr.typeAssert (.iface T v) xT t true).run P w = .ok (.tuple #[.pointer none, .bool false]) w := by
  simp [Instr.typeAssert, run_underlying h, hne, run_zero_of w hz]
theorem run_assert_nil {t e : TypeId} (xT : TypeId) (w : World) (h : P.underlying t = some (.pointer e)) (hz : (P.info? t).map (·.zero) = some (some (.pointer none))) : (Instr.typeAssert .nilIface xT t true).run P w = .ok (.tuple #[.pointer none, .bool false]) w := by
  simp [Instr.typeAssert, run_underlying h, run_zero_of w hz]
end
end Go.Mine
