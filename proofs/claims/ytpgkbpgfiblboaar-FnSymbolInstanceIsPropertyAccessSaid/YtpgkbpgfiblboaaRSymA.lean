/- A slice of seven-cell nodes that came in, and the contracts of the small functions of the package n011_37. No conditions beyond their hypotheses. -/
import Derived.Test.YtpgkbpgfiblboaaRRows
import Derived.Test.YtpgkbpgfiblboaaRLib
import Derived.Test.YtpgkbpgfiblboaaRAsserts
import Derived.Deep.Slices
import Derived.Deep.Fields
import Derived.ChangeSame
import Derived.Outline
namespace Go.Proofs.YtpgkbpgfiblboaaR.sym
open Go.ChangeShapes Go.WideShapes Go.ChangeAt Go.RowKit Go.Mine Go.Deep
set_option linter.unusedVariables false
set_option maxRecDepth 100000

section
variable {H : Type} {enc : TypeId × Value → H} {P : Program} {w : World} {base : Nat} {spare : Nat → Bool} {held : Bool}
theorem open_slice_fields {t e : TypeId} {fs : Array Field} {fuel : Nat} {cs : List Value} {x : DataW H × List MemPlace} (ht : P.underlying t = some (.slice e)) (he : P.underlying e = some (.struct fs))
    (hone : oneCellFields P fs = true) (hC : P.cellsOf e = fs.size) (h : DataW.trod enc P w base spare held fuel t cs = some x) :
    (cs = [.slice none 0 0] ∧ x = (.nil, [])) ∨
    ∃ (a : Addr) (len cap m : Nat) (D : Nat → DataW H) (Pl : Nat → List MemPlace), cs = [.slice (some a) len cap] ∧ base ≤ a.block ∧ len ≤ cap ∧ cap ≤ maxLen ∧ m = (if spare a.block then cap else len) ∧
      x = (.slice ((List.range len).map D) ((List.range (m - len)).map fun j => D (len + j)), MemPlace.row a (m * fs.size) ++ (List.range m).flatMap Pl) ∧
      ∀ i, i < m → ∃ (ys : List (DataW H × List MemPlace)) (n : Nat), D i = .agg (ys.map (·.1)) ∧ Pl i = ys.flatMap (·.2) ∧ ys.length = fs.size ∧
        ∀ (j : Nat) (f : Field), fs[j]? = some f → ∃ (v : Value) (y : DataW H × List MemPlace), w.cell? (a.add (i * fs.size + j)) = some v ∧ ys[j]? = some y ∧ DataW.trod enc P w base spare held n f.type [v] = some y := by
  rcases open_slice ht h with h0 | ⟨a, len, cap, m, n, D, Pl, hcs, hb, hl, hm, hmm, hx, hi⟩
  · exact .inl h0
  · refine .inr ⟨a, len, cap, m, D, Pl, hcs, hb, hl, hm, hmm, by rw [hC] at hx; exact hx, fun i him => ?_⟩
    obtain ⟨cs', hc, ht'⟩ := hi i him
    rw [hC] at hc
    obtain ⟨ys, n', hn', hy, hlen, hyl, hf⟩ := DataW.trod_struct he ht'
    obtain ⟨_, hcl, hat⟩ := World.cells?_some hc
    simp only [Prod.mk.injEq] at hy
    refine ⟨ys, n', hy.1, hy.2, hyl, fun j f hj => ?_⟩
    obtain ⟨ho, hk⟩ := hone_of hone j f hj
    have hjl : j < fs.size := (Array.getElem?_eq_some_iff.1 hj).1
    have hcell := hat j hjl
    have hv : cs'[j]? = some (cs'[j]'(by omega)) := List.getElem?_eq_getElem (by omega)
    have h1 := hf j f hj
    rw [ho, hk] at h1
    have hone' : (cs'.drop j).take 1 = [cs'[j]'(by omega)] := by
      rw [List.drop_eq_getElem_cons (by omega)]
      rfl
    rw [hone'] at h1
    have hys : ys[j]? = some (ys[j]'(by omega)) := List.getElem?_eq_getElem (by omega)
    refine ⟨_, _, ?_, hys, h1.trans hys⟩
    rw [← Go.Deep.add_add, hcell, hv]
end

/-- A node's seven cells from place o of block b on. -/
def Nd (w : World) (b o : Nat) : Prop := ∃ (k op ch x y z : Int) (f : Bool), (0 ≤ k ∧ k ≤ 255) ∧ (0 ≤ op ∧ op ≤ 255) ∧ (0 ≤ ch ∧ ch ≤ 255) ∧ (-2147483648 ≤ x ∧ x ≤ 2147483647) ∧ (-2147483648 ≤ y ∧ y ≤ 2147483647) ∧ (-2147483648 ≤ z ∧ z ≤ 2147483647) ∧
  w.cell? ⟨b, o, none⟩ = some (.int .u8 k) ∧ w.cell? ⟨b, o + 1, none⟩ = some (.int .u8 op) ∧ w.cell? ⟨b, o + 2, none⟩ = some (.bool f) ∧ w.cell? ⟨b, o + 3, none⟩ = some (.int .u8 ch) ∧
  w.cell? ⟨b, o + 4, none⟩ = some (.int .i32 x) ∧ w.cell? ⟨b, o + 5, none⟩ = some (.int .i32 y) ∧ w.cell? ⟨b, o + 6, none⟩ = some (.int .i32 z)
def NRow (w : World) (a : Option Addr) (n c : Nat) : Prop := n ≤ c ∧ c ≤ maxLen ∧ ((a = none ∧ n = 0 ∧ c = 0) ∨ ∃ b off s, a = some ⟨b, off, s⟩ ∧ (0 < n → s = none ∧ b < w.heap.size) ∧ ∀ i, i < n → Nd w b (off + i * 7))
theorem Nd.below {w w' : World} {b o : Nat} (h : Nd w b o) (hb : Below w.heap.size w w') : Nd w' b o := by
  obtain ⟨k, op, ch, x, y, z, f, h1, h2, h3, h4, h5, h6, c0, c1, c2, c3, c4, c5, c6⟩ := h
  exact ⟨k, op, ch, x, y, z, f, h1, h2, h3, h4, h5, h6, bcell hb c0, bcell hb c1, bcell hb c2, bcell hb c3, bcell hb c4, bcell hb c5, bcell hb c6⟩
theorem NRow.below {w w' : World} {a : Option Addr} {n c : Nat} (h : NRow w a n c) (hb : Below w.heap.size w w') : NRow w' a n c := by
  obtain ⟨h1, h2, h3⟩ := h
  refine ⟨h1, h2, ?_⟩
  rcases h3 with h3 | ⟨b, off, s, h3, h4, h5⟩
  · exact .inl h3
  · exact .inr ⟨b, off, s, h3, fun q => ⟨(h4 q).1, Nat.lt_of_lt_of_le (h4 q).2 hb.size⟩, fun i hi => (h5 i hi).below hb⟩
theorem NRow.at {w : World} {a : Option Addr} {n c : Nat} (h : NRow w a n c) {i : Nat} (hi : i < n) : ∃ b off, a = some ⟨b, off, none⟩ ∧ b < w.heap.size ∧ Nd w b (off + i * 7) := by
  obtain ⟨h1, h2, h3⟩ := h
  rcases h3 with ⟨_, h3, _⟩ | ⟨b, off, s, h3, h4, h5⟩
  · omega
  · obtain ⟨rfl, h8⟩ := h4 (by omega)
    exact ⟨b, off, h3, h8, h5 i hi⟩

theorem fields68 : ∃ g0 g1 g2 g3 g4 g5 g6 : Field, Try.prog.underlying 68 = some (.struct #[g0, g1, g2, g3, g4, g5, g6]) ∧ g0.type = 5 ∧ g1.type = 5 ∧ g2.type = 4 ∧ g3.type = 5 ∧ g4.type = 21 ∧ g5.type = 21 ∧ g6.type = 21 ∧ oneCellFields Try.prog #[g0, g1, g2, g3, g4, g5, g6] = true := by
  refine ⟨_, _, _, _, _, _, _, Try.underlying68, ?_, ?_, ?_, ?_, ?_, ?_, ?_, ?_⟩
  all_goals first | rfl | kernel_rfl
end Go.Proofs.YtpgkbpgfiblboaaR.sym
