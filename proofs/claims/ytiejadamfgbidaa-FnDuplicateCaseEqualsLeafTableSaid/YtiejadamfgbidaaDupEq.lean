/- What 'duplicateCaseEquals' answers on leaves. No conditions beyond their hypotheses. -/
import Derived.Test.YtiejadamfgbidaaRows
import Derived.Test.YtiejadamfgbidaaLib
import Derived.Test.YtiejadamfgbidaaAsserts
import Derived.Test.YtiejadamfgbidaaDupLeaf
import Derived.Deep.RegionHeld3
import Derived.Deep.RegionWith
import Derived.Deep.QuietTactic
import Derived.BigQuiet
import Derived.Outline
namespace Go.Proofs.Ytiejadamfgbidaa.dup
open Go.ChangeShapes Go.WideShapes Go.ChangeAt Go.RowKit Go.Mine
set_option linter.unusedVariables false
set_option maxRecDepth 100000

theorem eq57 (a0 : Option Addr) (l0 c0 : Nat) (z0 : List Int) (a1 : Option Addr) (l1 c1 : Nat) (z1 : List Int) (w : World) (h0 : IntRow .u16 w a0 l0 c0 z0) (h1 : IntRow .u16 w a1 l1 c1 z1) :
    Calls Try.prog 57 #[.slice a0 l0 c0, .slice a1 l1 c1] w fun e w' => e = .returned (.bool (decide (z0 = z1))) ∧ w' = w := by
  have hl0 : l0 ≤ 9223372036854775807 := by have := h0.2.1; have := h0.2.2.1; unfold maxLen at this; omega
  have hl1 : l1 ≤ 9223372036854775807 := by have := h1.2.1; have := h1.2.2.1; unfold maxLen at this; omega
  have hz0 := Lib.hid h0.1
  have hz1 := Lib.hid h1.1
  have H0 := Lib.hid h0
  have H1 := Lib.hid h1
  clear h0 h1
  by_cases hne : l0 = l1
  · subst hne
    have hq : ((l0 : Int) == (l0 : Int)) = true := by simp
    go_enter Try.func57, Try.ntmps57
    go_wp2
    go_loop [14] (fun i => ∃ k : Nat, k ≤ l0 ∧ i = .int .i64 k ∧ Hid (z0.take k = z1.take k)) (fun i => l0 - (intOf i).toNat)
    case atStart => exact ⟨0, Nat.zero_le _, rfl, rfl⟩
    case round =>
      obtain ⟨k, hk0, rfl, hrel⟩ := hrel
      by_cases hlt0 : k < l0
      · obtain ⟨b0, o0, e0, hb0, hc0⟩ := H0.out.at hlt0
        obtain ⟨b1, o1, e1, hb1, hc1⟩ := H1.out.at hlt0
        subst e0 e1
        obtain ⟨x, hx⟩ : ∃ x, x = z0.getD k 0 := ⟨_, rfl⟩
        obtain ⟨y, hy⟩ : ∃ y, y = z1.getD k 0 := ⟨_, rfl⟩
        rw [← hx] at hc0
        rw [← hy] at hc1
        have Hx := Lib.hid (And.intro (elt_of H0.out hlt0 hx) (elt_of H1.out hlt0 hy))
        clear hx hy
        by_cases ht : (x != y) = true
        · go_wp2
          go_ret
          obtain ⟨⟨q0, hx⟩, ⟨q1, hy⟩⟩ := Hx.out
          exact ⟨ret_bool2 (ne_of_elt q0 q1 hx hy ht), rfl⟩
        · have ht : (x != y) = false := by simpa using ht
          go_wp2
          go_round
          case rel =>
            obtain ⟨⟨q0, hx⟩, ⟨q1, hy⟩⟩ := Hx.out
            exact ⟨k + 1, by omega, by go_num, (by show z0.take (k + 1) = z1.take (k + 1); rw [List.take_succ_eq_append_getElem q0, List.take_succ_eq_append_getElem q1, hrel.out, ← hx, ← hy]; simpa using ht)⟩
          case measure => simp [intOf]; omega
      · have hn : k = l0 := by omega
        subst hn
        go_wp2
        go_ret
        refine ⟨ret_bool2 ?_, rfl⟩
        have h := hrel.out
        rw [List.take_of_length_le (by rw [hz0.out]; omega), List.take_of_length_le (by rw [hz1.out]; omega)] at h
        simp [h]
  · have hq : ((l0 : Int) == (l1 : Int)) = false := by simp; omega
    go_enter Try.func57, Try.ntmps57
    go_wp2
    go_ret
    refine ⟨ret_bool2 ?_, rfl⟩
    symm
    rw [decide_eq_false_iff_not]
    intro he
    rw [← hz0.out, ← hz1.out, he] at hne
    exact hne rfl

theorem eq55 (a0 : Option Addr) (l0 c0 : Nat) (z0 : List Int) (a1 : Option Addr) (l1 c1 : Nat) (z1 : List Int) (w : World) (h0 : IntRow .u16 w a0 l0 c0 z0) (h1 : IntRow .u16 w a1 l1 c1 z1) :
    Calls Try.prog 55 #[.slice a0 l0 c0, .slice a1 l1 c1] w fun e w' => e = .returned (.bool (decide (z0 = z1))) ∧ ∃ n, w' = w.drewN n := by
  have hl0 : l0 ≤ 9223372036854775807 := by have := h0.2.1; have := h0.2.2.1; unfold maxLen at this; omega
  have hl1 : l1 ≤ 9223372036854775807 := by have := h1.2.1; have := h1.2.2.1; unfold maxLen at this; omega
  have hz0 := Lib.hid h0.1
  have hz1 := Lib.hid h1.1
  have H0 := Lib.hid h0
  have H1 := Lib.hid h1
  clear h0 h1
  by_cases hne : l0 = l1
  · subst hne
    have hq : ((l0 : Int) != (l0 : Int)) = false := by simp
    go_enter Try.func55, Try.ntmps55
    go_wp2
    go_loopw [5] (fun i wr => ∃ k n : Nat, k ≤ l0 ∧ i = .int .i64 k ∧ Hid (z0.take k = z1.take k) ∧ wr = w.drewN n) (fun i _ => l0 - (intOf i).toNat)
    case atStart => exact ⟨0, 0, Nat.zero_le _, rfl, rfl, rfl⟩
    case round =>
      obtain ⟨k, n, hk0, rfl, hrel, rfl⟩ := hrel
      by_cases hlt0 : k < l0
      · obtain ⟨b0, o0, e0, hb0, hc0⟩ := H0.out.at hlt0
        obtain ⟨b1, o1, e1, hb1, hc1⟩ := H1.out.at hlt0
        subst e0 e1
        obtain ⟨x, hx⟩ : ∃ x, x = z0.getD k 0 := ⟨_, rfl⟩
        obtain ⟨y, hy⟩ : ∃ y, y = z1.getD k 0 := ⟨_, rfl⟩
        rw [← hx] at hc0
        rw [← hy] at hc1
        have Hx := Lib.hid (And.intro (elt_of H0.out hlt0 hx) (elt_of H1.out hlt0 hy))
        clear hx hy
        by_cases ht : (x != y) = true
        · go_wp2
          go_quiet (fail)
          go_wp2
          go_ret
          obtain ⟨⟨q0, hx⟩, ⟨q1, hy⟩⟩ := Hx.out
          exact ⟨ret_bool2 (ne_of_elt q0 q1 hx hy ht), _, World.drewN_drewN _ _ _⟩
        · have ht : (x != y) = false := by simpa using ht
          go_wp2
          go_quiet (fail)
          go_wp2
          go_roundw
          case rel =>
            obtain ⟨⟨q0, hx⟩, ⟨q1, hy⟩⟩ := Hx.out
            exact ⟨k + 1, _, by omega, by go_num, (by show z0.take (k + 1) = z1.take (k + 1); rw [List.take_succ_eq_append_getElem q0, List.take_succ_eq_append_getElem q1, hrel.out, ← hx, ← hy]; simpa using ht), rfl⟩
          case measure => simp [intOf]; omega
      · have hn : k = l0 := by omega
        subst hn
        go_wp2
        go_ret
        refine ⟨ret_bool2 ?_, _, rfl⟩
        have h := hrel.out
        rw [List.take_of_length_le (by rw [hz0.out]; omega), List.take_of_length_le (by rw [hz1.out]; omega)] at h
        simp [h]
  · have hq : ((l0 : Int) != (l1 : Int)) = true := by simp; omega
    go_enter Try.func55, Try.ntmps55
    go_wp2
    go_ret
    refine ⟨ret_bool2 ?_, 0, rfl⟩
    symm
    rw [decide_eq_false_iff_not]
    intro he
    rw [← hz0.out, ← hz1.out, he] at hne
    exact hne rfl

set_option maxHeartbeats 2000000 in
theorem eq_inlR {X : Nat → Prop} {l1 l2 l3 : Int} {T T2 : Nat} {v v2 : Value} {w : World} {q : Nat} {r1 r2 : Bool} (hx : ¬ X q) (h : Says Try.prog X 54 #[.agg #[.iface T v, .int .i32 l1], .agg #[.iface T2 v2, .int .i32 l2]] (.tuple #[.bool r1, .bool r2]) w)
    (c0 : w.cell? ⟨q, 0, none⟩ = some (.iface T2 v2)) (c1 : w.cell? ⟨q, 1, none⟩ = some (.int .i32 l2)) :
    Says Try.prog X 54 #[.agg #[.iface T v, .int .i32 l1], .agg #[.iface 41 (.pointer (some ⟨q, 0, none⟩)), .int .i32 l3]] (.tuple #[.bool r1, .bool r2]) w := by
  intro w' hb
  have d0 := hb.cell hx c0
  have d1 := hb.cell hx c1
  have hq := cell_lt d0
  have H := Lib.hid fun o1 o2 => h ((((w'.alloc o1).alloc o2)).drew) (((hb.alloc o1).alloc o2).drew)
  have HB := Lib.hid fun o1 o2 => (((Below.refl w'.heap.size w').alloc (Nat.le_refl _) o1).alloc (by simp) o2).drew
  clear h c0 c1
  go_enter Try.func54, Try.ntmps54
  go_wp2_with fail
  go_region_with (first | (go_at_call 54; (with_reducible refine (H.out _ _).mono ?_); rintro e w2 ⟨rfl, hb2⟩; have B := Lib.hid hb2; clear hb2))
  all_goals (go_wp2; go_ret2; exact ⟨rfl, below2 (HB.out _ _) B.out⟩)
set_option maxHeartbeats 2000000 in
theorem eq_inlL {X : Nat → Prop} {l1 l2 l3 : Int} {T T2 : Nat} {v v2 : Value} {w : World} {q : Nat} {r1 r2 : Bool} (hx : ¬ X q) (hT : T2 ≠ 41) (h : Says Try.prog X 54 #[.agg #[.iface T v, .int .i32 l1], .agg #[.iface T2 v2, .int .i32 l2]] (.tuple #[.bool r1, .bool r2]) w)
    (c0 : w.cell? ⟨q, 0, none⟩ = some (.iface T v)) (c1 : w.cell? ⟨q, 1, none⟩ = some (.int .i32 l1)) :
    Says Try.prog X 54 #[.agg #[.iface 41 (.pointer (some ⟨q, 0, none⟩)), .int .i32 l3], .agg #[.iface T2 v2, .int .i32 l2]] (.tuple #[.bool r1, .bool r2]) w := by
  intro w' hb
  have d0 := hb.cell hx c0
  have d1 := hb.cell hx c1
  have hq := cell_lt d0
  have H := Lib.hid fun o1 o2 => h ((((w'.alloc o1).alloc o2)).drew) (((hb.alloc o1).alloc o2).drew)
  have HB := Lib.hid fun o1 o2 => (((Below.refl w'.heap.size w').alloc (Nat.le_refl _) o1).alloc (by simp) o2).drew
  clear h c0 c1
  go_enter Try.func54, Try.ntmps54
  go_wp2_with fail
  go_region_with (first | (go_at_call 54; (with_reducible refine (H.out _ _).mono ?_); rintro e w2 ⟨rfl, hb2⟩; have B := Lib.hid hb2; clear hb2))
  all_goals (go_wp2; go_ret2; exact ⟨rfl, below2 (HB.out _ _) B.out⟩)

/-- A leaf that is not a string, met by one of another kind. -/
theorem eq_other {X : Nat → Prop} (l1 l2 : Int) {T T2 : Nat} (v v2 : Value) (w : World) (hT2 : T2 ≠ 41) (hne : T ≠ T2) (hT : T = 93 ∨ T = 96 ∨ T = 48 ∨ T = 98 ∨ T = 101 ∨ T = 32 ∨ T = 147) :
    Says Try.prog X 54 #[.agg #[.iface T v, .int .i32 l1], .agg #[.iface T2 v2, .int .i32 l2]] (.tuple #[.bool false, .bool false]) w := by
  intro w' hb
  have HB := Lib.hid fun o1 o2 => (((Below.refl w'.heap.size w').alloc (Nat.le_refl _) o1).alloc (by simp) o2)
  rcases hT with rfl | rfl | rfl | rfl | rfl | rfl | rfl
  all_goals
    have hne2 := hne.symm
    clear hne
    go_enter Try.func54, Try.ntmps54
    go_wp2
    try (go_quiet (fail))
    try go_wp2
    go_ret2
    first | exact ⟨rfl, HB.out _ _⟩ | exact ⟨rfl, below_drewN (HB.out _ _) _⟩
theorem eq_same {X : Nat → Prop} (l1 l2 : Int) (v v2 : Value) (w : World) (T : Nat) (hT : T = 93 ∨ T = 96) :
    Says Try.prog X 54 #[.agg #[.iface T v, .int .i32 l1], .agg #[.iface T v2, .int .i32 l2]] (.tuple #[.bool true, .bool false]) w := by
  intro w' hb
  have HB := Lib.hid fun o1 o2 => (((Below.refl w'.heap.size w').alloc (Nat.le_refl _) o1).alloc (by simp) o2)
  rcases hT with rfl | rfl
  all_goals
    go_enter Try.func54, Try.ntmps54
    go_wp2
    go_ret2
    exact ⟨rfl, HB.out _ _⟩
theorem eq_arr {X : Nat → Prop} (l1 l2 : Int) (v v2 : Value) (w : World) :
    Says Try.prog X 54 #[.agg #[.iface 147 v, .int .i32 l1], .agg #[.iface 147 v2, .int .i32 l2]] (.tuple #[.bool false, .bool false]) w := by
  intro w' hb
  have HB := Lib.hid fun o1 o2 => (((Below.refl w'.heap.size w').alloc (Nat.le_refl _) o1).alloc (by simp) o2)
  go_enter Try.func54, Try.ntmps54
  go_wp2
  go_ret2
  exact ⟨rfl, HB.out _ _⟩
theorem eq_bool {X : Nat → Prop} (l1 l2 : Int) (b b2 : Bool) {w : World} {p q : Nat} (hp : ¬ X p) (hq : ¬ X q) (c0 : w.cell? ⟨p, 0, none⟩ = some (.bool b)) (c1 : w.cell? ⟨q, 0, none⟩ = some (.bool b2)) :
    Says Try.prog X 54 #[.agg #[.iface 48 (.pointer (some ⟨p, 0, none⟩)), .int .i32 l1], .agg #[.iface 48 (.pointer (some ⟨q, 0, none⟩)), .int .i32 l2]] (.tuple #[.bool (b == b2), .bool false]) w := by
  intro w' hb
  have d0 := hb.cell hp c0
  have d1 := hb.cell hq c1
  have kp := cell_lt d0
  have kq := cell_lt d1
  have HB := Lib.hid fun o1 o2 => (((Below.refl w'.heap.size w').alloc (Nat.le_refl _) o1).alloc (by simp) o2)
  clear c0 c1
  go_enter Try.func54, Try.ntmps54
  go_wp2
  go_quiet (fail)
  go_wp2
  go_ret2
  exact ⟨rfl, below_drewN (HB.out _ _) _⟩
theorem eq_num {X : Nat → Prop} (l1 l2 : Int) (b b2 : Nat) {w : World} {p q : Nat} (hp : ¬ X p) (hq : ¬ X q) (c0 : w.cell? ⟨p, 0, none⟩ = some (.float .f64 b)) (c1 : w.cell? ⟨q, 0, none⟩ = some (.float .f64 b2)) :
    Says Try.prog X 54 #[.agg #[.iface 98 (.pointer (some ⟨p, 0, none⟩)), .int .i32 l1], .agg #[.iface 98 (.pointer (some ⟨q, 0, none⟩)), .int .i32 l2]] (.tuple #[.bool (FloatKind.f64.format.order b b2 == some .eq), .bool false]) w := by
  intro w' hb
  have d0 := hb.cell hp c0
  have d1 := hb.cell hq c1
  have kp := cell_lt d0
  have kq := cell_lt d1
  have HB := Lib.hid fun o1 o2 => (((Below.refl w'.heap.size w').alloc (Nat.le_refl _) o1).alloc (by simp) o2)
  clear c0 c1
  go_enter Try.func54, Try.ntmps54
  go_wp2
  go_quiet (fail)
  go_wp2
  go_ret2
  exact ⟨rfl, below_drewN (HB.out _ _) _⟩
theorem guard55 : Try.prog.eqGuardType Try.prog.depth 55 = false := by kernel_rfl
theorem st55 : Try.prog.underlying 55 = some (.struct (Try.prog.fieldsOf 55)) := by kernel_rfl
theorem held55 : Try.prog.stoodInHeld 55 = false := by kernel_rfl
theorem eql55 (w : World) (a b c d : Int) : (binOp .eql 55 (.agg #[.int .u32 a, .int .u32 b]) (.agg #[.int .u32 c, .int .u32 d])).run Try.prog w = .ok (.bool ((a == c) && (b == d))) w := by
  have hf : (Try.prog.fieldsOf 55).toList.map (fun f => (f.name, f.type, f.offset)) = [("SourceIndex", 53, 0), ("InnerIndex", 53, 1)] := by kernel_rfl
  rw [run_eql_struct, run_equalIn_agg w 9999 55 _ _ st55 held55]
  generalize (Try.prog.fieldsOf 55).toList = fs at hf
  obtain ⟨f, fs1, rfl, g1, hf⟩ := List.map_eq_cons_iff.1 hf
  obtain ⟨g, fs2, rfl, g2, hf⟩ := List.map_eq_cons_iff.1 hf
  obtain rfl := List.map_eq_nil_iff.1 hf
  simp only [Prod.mk.injEq] at g1 g2
  obtain ⟨h1, h2, h3⟩ := g1
  obtain ⟨h4, h5, h6⟩ := g2
  have hp1 : ∀ (x y : Value) (w : World), (part 53 #[x, y] 0).run Try.prog w = .ok x w := fun x y w => by kernel_rfl
  have hp2 : ∀ (x y : Value) (w : World), (part 53 #[x, y] 1).run Try.prog w = .ok y w := fun x y w => by kernel_rfl
  have he := fun (w : World) (a b : Int) => run_equalIn_int (P := Try.prog) w 9998 53 .u32 .u32 a b Try.underlying53
  by_cases k1 : a = c <;> by_cases k2 : b = d <;> simp [Op.eqFields, h1, h2, h3, h4, h5, h6, hp1, hp2, he, k1, k2]
theorem eq_id {X : Nat → Prop} (l1 l2 : Int) (b b2 : Int) {w : World} {p q : Nat} (hp : ¬ X p) (hq : ¬ X q) (c0 : w.cell? ⟨p, 0, none⟩ = some (.int .u32 0)) (c1 : w.cell? ⟨q, 0, none⟩ = some (.int .u32 0)) (c2 : w.cell? ⟨p, 1, none⟩ = some (.int .u32 b)) (c3 : w.cell? ⟨q, 1, none⟩ = some (.int .u32 b2)) :
    Says Try.prog X 54 #[.agg #[.iface 32 (.pointer (some ⟨p, 0, none⟩)), .int .i32 l1], .agg #[.iface 32 (.pointer (some ⟨q, 0, none⟩)), .int .i32 l2]] (.tuple #[.bool (b == b2), .bool false]) w := by
  intro w' hb
  have d0 := hb.cell hp c0
  have d1 := hb.cell hq c1
  have d2 := hb.cell hp c2
  have d3 := hb.cell hq c3
  have kp := cell_lt d0
  have kq := cell_lt d1
  have HB := Lib.hid fun o1 o2 => (((Below.refl w'.heap.size w').alloc (Nat.le_refl _) o1).alloc (by simp) o2)
  clear c0 c1 c2 c3
  have hg := guard55
  have he := eql55
  go_enter Try.func54, Try.ntmps54
  go_wp2
  go_quiet (fail)
  go_wp2
  go_ret2
  exact ⟨rfl, below_drewN (HB.out _ _) _⟩
theorem eq_str {X : Nat → Prop} (l1 l2 : Int) (a : Option Addr) (n c : Nat) (z : List Int) (a' : Option Addr) (n' c' : Nat) (z' : List Int) {w : World} {p q : Nat} (hp : ¬ X p) (hq : ¬ X q) (c0 : w.cell? ⟨p, 0, none⟩ = some (.slice a n c)) (c1 : w.cell? ⟨q, 0, none⟩ = some (.slice a' n' c'))
    (h0 : IntRow .u16 w a n c z) (h1 : IntRow .u16 w a' n' c' z') (ha : ∀ x, a = some x → ¬ X x.block) (ha' : ∀ x, a' = some x → ¬ X x.block) :
    Says Try.prog X 54 #[.agg #[.iface 101 (.pointer (some ⟨p, 0, none⟩)), .int .i32 l1], .agg #[.iface 101 (.pointer (some ⟨q, 0, none⟩)), .int .i32 l2]] (.tuple #[.bool (decide (z = z')), .bool false]) w := by
  intro w' hb
  have d0 := hb.cell hp c0
  have d1 := hb.cell hq c1
  have kp := cell_lt d0
  have kq := cell_lt d1
  have HB := Lib.hid fun o1 o2 => (((Below.refl w'.heap.size w').alloc (Nat.le_refl _) o1).alloc (by simp) o2)
  have H := Lib.hid fun o1 o2 m => eq57 a n c z a' n' c' z' (((w'.alloc o1).alloc o2).drewN m) (h0.same (((hb.alloc o1).alloc o2).drewN m) ha) (h1.same (((hb.alloc o1).alloc o2).drewN m) ha')
  clear c0 c1 h0 h1
  go_enter Try.func54, Try.ntmps54
  go_wp2_with fail
  go_quiet ((go_at_call 57; exact Calls.quiet_of_same (H.out _ _ _)))
  go_wp2
  go_ret2
  exact ⟨rfl, below_drewN (HB.out _ _) _⟩
end Go.Proofs.Ytiejadamfgbidaa.dup
