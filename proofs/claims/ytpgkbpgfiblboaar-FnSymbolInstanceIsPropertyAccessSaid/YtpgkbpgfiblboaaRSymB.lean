/- A slice of nodes as it comes in; the contracts of the small functions of the package n011_37. No conditions beyond their hypotheses. -/
import Derived.Test.YtpgkbpgfiblboaaRSymA
import Derived.Deep.LoopGhost
namespace Go.Proofs.YtpgkbpgfiblboaaR.sym
open Go.ChangeShapes Go.WideShapes Go.ChangeAt Go.RowKit Go.Mine Go.Deep
set_option linter.unusedVariables false
set_option maxRecDepth 100000

theorem spot_none {w : World} {p : Addr} {v : Value} (h : w.cell? p = some v) : p.spot = none := World.cell?_spot h
theorem nrow_of {H : Type} {enc : TypeId × Value → H} {w : World} {base : Nat} {held : Bool} {a : Option Addr} {len cap : Nat} {d : DataW H} {ps : List MemPlace}
    (h : DataW.Trod enc Try.prog w base (fun _ => true) held 34 (.slice a len cap) d ps) : NRow w a len cap := by
  obtain ⟨g0, g1, g2, g3, g4, g5, g6, hs, t0, t1, t2, t3, t4, t5, t6, hone⟩ := fields68
  obtain ⟨fuel, hf⟩ := h
  have hC : Try.prog.cellsOf 68 = (#[g0, g1, g2, g3, g4, g5, g6] : Array Field).size := by show Try.prog.cellsOf 68 = 7; kernel_rfl
  rcases open_slice_fields Try.underlying34 hs hone hC hf with ⟨hcs, _⟩ | ⟨x, l, c, m, D, Pl, hcs, _, hl, hm, hmm, _, hi⟩
  · simp [Value.cells] at hcs
    obtain ⟨rfl, rfl, rfl⟩ := hcs
    exact ⟨Nat.le_refl _, Nat.zero_le _, .inl ⟨rfl, rfl, rfl⟩⟩
  · simp [Value.cells] at hcs
    obtain ⟨rfl, rfl, rfl⟩ := hcs
    have hmc : m = cap := by simpa using hmm
    subst hmc
    have key : ∀ i, i < len → x.spot = none ∧ x.block < w.heap.size ∧ Nd w x.block (x.off + i * 7) := by
      intro i hil
      obtain ⟨ys, nn, _, _, _, hf⟩ := hi i (by omega)
      obtain ⟨v0, y0, c0, _, h0⟩ := hf 0 g0 rfl
      obtain ⟨v1, y1, c1, _, h1⟩ := hf 1 g1 rfl
      obtain ⟨v2, y2, c2, _, h2⟩ := hf 2 g2 rfl
      obtain ⟨v3, y3, c3, _, h3⟩ := hf 3 g3 rfl
      obtain ⟨v4, y4, c4, _, h4⟩ := hf 4 g4 rfl
      obtain ⟨v5, y5, c5, _, h5⟩ := hf 5 g5 rfl
      obtain ⟨v6, y6, c6, _, h6⟩ := hf 6 g6 rfl
      rw [t0] at h0
      rw [t1] at h1
      rw [t2] at h2
      rw [t3] at h3
      rw [t4] at h4
      rw [t5] at h5
      rw [t6] at h6
      obtain ⟨k, e0, _, w0⟩ := DataW.trod_int Try.underlying5 h0
      obtain ⟨op, e1, _, w1⟩ := DataW.trod_int Try.underlying5 h1
      obtain ⟨f, e2, _⟩ := DataW.trod_bool Try.underlying4 h2
      obtain ⟨ch, e3, _, w3⟩ := DataW.trod_int Try.underlying5 h3
      obtain ⟨p, e4, _, w4⟩ := DataW.trod_int Try.underlying21 h4
      obtain ⟨q, e5, _, w5⟩ := DataW.trod_int Try.underlying21 h5
      obtain ⟨r, e6, _, w6⟩ := DataW.trod_int Try.underlying21 h6
      obtain rfl : v0 = _ := by simpa using e0
      obtain rfl : v1 = _ := by simpa using e1
      obtain rfl : v2 = _ := by simpa using e2
      obtain rfl : v3 = _ := by simpa using e3
      obtain rfl : v4 = _ := by simpa using e4
      obtain rfl : v5 = _ := by simpa using e5
      obtain rfl : v6 = _ := by simpa using e6
      have hsp : ∀ j, (x.add j).spot = none → x.spot = none ∨ j ≠ 0 := fun j hj => by
        by_cases hj0 : j = 0
        · subst hj0; exact .inl (by simpa [Addr.add] using hj)
        · exact .inr hj0
      have hx0 := hi 0 (by omega)
      obtain ⟨ys', nn', _, _, _, hf'⟩ := hx0
      obtain ⟨v0', y0', c0', _, _⟩ := hf' 0 g0 rfl
      have hspot : x.spot = none := by
        have := World.cell?_spot c0'
        simpa [Addr.add] using this
      have hblk : x.block < w.heap.size := by
        have := cell_lt c0'
        simpa [Addr.add] using this
      have cv : ∀ j u, w.cell? (x.add (i * 7 + j)) = some u → w.cell? ⟨x.block, x.off + i * 7 + j, none⟩ = some u := by
        intro j u hu
        obtain ⟨b, o, s⟩ := x
        have hs' : s = none := hspot
        subst hs'
        have ea : Addr.add ⟨b, o, none⟩ (i * 7 + j) = ⟨b, o + i * 7 + j, none⟩ := by
          unfold Addr.add
          split
          · rename_i hq
            have : o + i * 7 + j = o := by omega
            rw [this]
          · have : o + (i * 7 + j) = o + i * 7 + j := by omega
            rw [this]
        rw [← ea]
        exact hu
      exact ⟨hspot, hblk, k, op, ch, p, q, r, f, bounds_u8 w0, bounds_u8 w1, bounds_u8 w3, bounds_i32 w4, bounds_i32 w5, bounds_i32 w6, cv 0 _ c0, cv 1 _ c1, cv 2 _ c2, cv 3 _ c3, cv 4 _ c4, cv 5 _ c5, cv 6 _ c6⟩
    exact ⟨hl, hm, .inr ⟨x.block, x.off, x.spot, rfl, fun h0 => ⟨(key 0 h0).1, (key 0 h0).2.1⟩, fun i hil => (key i hil).2.2⟩⟩

theorem bytes_any (a0 : Option Addr) (l0 c0 : Nat) (w : World) (h0 : l0 ≤ maxLen) :
    Calls Try.prog 11 #[.slice a0 l0 c0] w fun e w' => (∃ r : Bool, e = .returned (.bool r)) ∧ w = w' := by
  unfold maxLen at h0
  go_enter Try.func11, Try.ntmps11
  go_wp2
  all_goals
    go_ret
    exact ⟨⟨_, rfl⟩, rfl⟩
theorem arity25 (k : Int) (w : World) : Calls Try.prog 25 #[.int .u8 k] w fun e w' => (∃ r : Nat, r ≤ 3 ∧ e = .returned (.int .i64 (r : Int))) ∧ w = w' := by
  go_enter Try.func25, Try.ntmps25
  go_wp2
  all_goals
    go_ret
    first
      | exact ⟨⟨0, by omega, rfl⟩, rfl⟩
      | exact ⟨⟨1, by omega, rfl⟩, rfl⟩
      | exact ⟨⟨2, by omega, rfl⟩, rfl⟩
      | exact ⟨⟨3, by omega, rfl⟩, rfl⟩
def ChildR (x y z : Int) (w : World) (e : Ending) (w' : World) : Prop := ∃ c : Int, e = .returned (.int .i32 c) ∧ (c = x ∨ c = y ∨ c = z) ∧ Below w.heap.size w w'
theorem child26 (k op ch x y z j : Int) (f : Bool) (w : World) : Calls Try.prog 26 #[.agg #[.int .u8 k, .int .u8 op, .bool f, .int .u8 ch, .int .i32 x, .int .i32 y, .int .i32 z], .int .i64 j] w (ChildR x y z w) := by
  by_cases h0 : j = 0
  · subst h0
    go_enter Try.func26, Try.ntmps26
    go_wp2
    go_ret
    exact ⟨_, rfl, .inl rfl, (Below.refl _ _).alloc (Nat.le_refl _) _⟩
  · have h0' : (j == 0) = false := by simpa using h0
    by_cases h1 : j = 1
    · subst h1
      clear h0 h0'
      go_enter Try.func26, Try.ntmps26
      go_wp2
      go_ret
      exact ⟨_, rfl, .inr (.inl rfl), (Below.refl _ _).alloc (Nat.le_refl _) _⟩
    · have h1' : (j == 1) = false := by simpa using h1
      clear h0 h1
      go_enter Try.func26, Try.ntmps26
      go_wp2
      go_ret
      exact ⟨_, rfl, .inr (.inr rfl), (Below.refl _ _).alloc (Nat.le_refl _) _⟩
theorem ok27 (n i : Nat) (c : Int) (w : World) (hn : n ≤ 4096) (hi : i < n) (h0 : -2147483648 ≤ c) (h1 : c ≤ 2147483647) :
    Calls Try.prog 27 #[.int .i64 (n : Int), .int .i64 (i : Int), .int .i32 c] w fun e w' => e = .returned (.bool (decide ((i : Int) < c ∧ c < (n : Int)))) ∧ w = w' := by
  have hc : ((i : Int) < c ∧ c < (n : Int)) ∨ c ≤ (i : Int) ∨ ((i : Int) < c ∧ (n : Int) ≤ c) := by omega
  rcases hc with ⟨h2, h3⟩ | h2 | ⟨h2, h3⟩
  · rw [decide_eq_true (⟨h2, h3⟩ : (i : Int) < c ∧ c < (n : Int))]
    go_enter Try.func27, Try.ntmps27
    go_wp2
    go_ret
    exact ⟨rfl, rfl⟩
  · rw [decide_eq_false (by omega : ¬ ((i : Int) < c ∧ c < (n : Int)))]
    have e1 : decide ((i : Int) < c) = false := decide_eq_false (by omega)
    go_enter Try.func27, Try.ntmps27
    go_wp2
    go_ret
    exact ⟨rfl, rfl⟩
  · rw [decide_eq_false (by omega : ¬ ((i : Int) < c ∧ c < (n : Int)))]
    have e1 : decide (c < (n : Int)) = false := decide_eq_false (by omega)
    go_enter Try.func27, Try.ntmps27
    go_wp2
    go_ret
    exact ⟨rfl, rfl⟩
end Go.Proofs.YtpgkbpgfiblboaaR.sym
