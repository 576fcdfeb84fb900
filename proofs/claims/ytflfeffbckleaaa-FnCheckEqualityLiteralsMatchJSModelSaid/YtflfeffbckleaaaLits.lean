/- The literals of the package n011_90: how they are made, and the small functions upon them. No conditions beyond their hypotheses. -/
import Derived.Test.YtflfeffbckleaaaRows
import Derived.Test.YtflfeffbckleaaaLib
import Derived.Test.YtflfeffbckleaaaAsserts
import Derived.Deep.RegionHeld3
import Derived.Deep.RegionWith
import Derived.Deep.QuietTactic
import Derived.BigQuiet
import Derived.Outline
namespace Go.Proofs.Ytflfeffbckleaaa.lits
open Go.ChangeShapes Go.WideShapes Go.ChangeAt Go.RowKit Go.Mine
set_option linter.unusedVariables false
set_option maxRecDepth 100000

/-- What node a literal of kind k is. -/
def Cases (k : Int) (b : Bool) (x : Nat) (s : ByteArray) (sv : Value) (w : World) (p T : Nat) : Prop :=
  (k = 0 ∧ T = 74) ∨ (k = 1 ∧ T = 75) ∨ (k = 2 ∧ T = 77 ∧ w.cell? ⟨p, 0, none⟩ = some (.bool b)) ∨ (k = 3 ∧ T = 80 ∧ w.cell? ⟨p, 0, none⟩ = some (.float .f64 x)) ∨
  (k = 4 ∧ T = 83 ∧ w.cell? ⟨p, 0, none⟩ = some (.string s)) ∨ (k = 5 ∧ T = 87 ∧ w.cell? ⟨p, 0, none⟩ = some sv)
def Made (k : Int) (b : Bool) (x : Nat) (s : ByteArray) (sv : Value) (w : World) (e : Ending) (w' : World) : Prop :=
  ∃ T p, e = .returned (.agg #[.iface T (.pointer (some ⟨p, 0, none⟩)), .int .i32 0]) ∧ Below w.heap.size w w' ∧ p < w'.heap.size ∧ Cases k b x s sv w' p T
theorem cases_below {k : Int} {b : Bool} {x : Nat} {s : ByteArray} {sv : Value} {w w' : World} {p T : Nat} (h : Cases k b x s sv w p T) (hb : Below w.heap.size w w') : Cases k b x s sv w' p T := by
  rcases h with h | h | ⟨h1, h2, h3⟩ | ⟨h1, h2, h3⟩ | ⟨h1, h2, h3⟩ | ⟨h1, h2, h3⟩
  · exact .inl h
  · exact .inr (.inl h)
  · exact .inr (.inr (.inl ⟨h1, h2, bcell hb h3⟩))
  · exact .inr (.inr (.inr (.inl ⟨h1, h2, bcell hb h3⟩)))
  · exact .inr (.inr (.inr (.inr (.inl ⟨h1, h2, bcell hb h3⟩))))
  · exact .inr (.inr (.inr (.inr (.inr ⟨h1, h2, bcell hb h3⟩))))
theorem in47 (w : World) : Calls Try.prog 47 #[] w fun e w' => e = .returned (.agg #[.iface 74 (.pointer (some ⟨w.heap.size + 1, 0, none⟩)), .int .i32 0]) ∧ ∃ o1 C t, w' = (w.alloc o1).alloc (.cells C t) := by
  go_enter Try.func47, Try.ntmps47
  go_wp2
  exact bodyPost_ret (v := .agg #[.iface 74 (.pointer (some ⟨w.heap.size + 1, 0, none⟩)), .int .i32 0]) (by simp [results, Try.results47, go_sem]) rfl ⟨rfl, _, _, _, rfl⟩
theorem in48 (w : World) : Calls Try.prog 48 #[] w fun e w' => e = .returned (.agg #[.iface 75 (.pointer (some ⟨w.heap.size + 1, 0, none⟩)), .int .i32 0]) ∧ ∃ o1 C t, w' = (w.alloc o1).alloc (.cells C t) := by
  go_enter Try.func48, Try.ntmps48
  go_wp2
  exact bodyPost_ret (v := .agg #[.iface 75 (.pointer (some ⟨w.heap.size + 1, 0, none⟩)), .int .i32 0]) (by simp [results, Try.results48, go_sem]) rfl ⟨rfl, _, _, _, rfl⟩
theorem in49 (b : Bool) (w : World) : Calls Try.prog 49 #[.bool b] w fun e w' => e = .returned (.agg #[.iface 77 (.pointer (some ⟨w.heap.size + 1, 0, none⟩)), .int .i32 0]) ∧ ∃ o1 C t, w' = (w.alloc o1).alloc (.cells C t) ∧ C[0]? = some (.bool b) := by
  go_enter Try.func49, Try.ntmps49
  go_wp2
  exact bodyPost_ret (v := .agg #[.iface 77 (.pointer (some ⟨w.heap.size + 1, 0, none⟩)), .int .i32 0]) (by simp [results, Try.results49, go_sem]) rfl ⟨rfl, _, _, _, rfl, rfl⟩
theorem in50 (x : Nat) (w : World) : Calls Try.prog 50 #[.float .f64 x] w fun e w' => e = .returned (.agg #[.iface 80 (.pointer (some ⟨w.heap.size + 1, 0, none⟩)), .int .i32 0]) ∧ ∃ o1 C t, w' = (w.alloc o1).alloc (.cells C t) ∧ C[0]? = some (.float .f64 x) := by
  go_enter Try.func50, Try.ntmps50
  go_wp2
  exact bodyPost_ret (v := .agg #[.iface 80 (.pointer (some ⟨w.heap.size + 1, 0, none⟩)), .int .i32 0]) (by simp [results, Try.results50, go_sem]) rfl ⟨rfl, _, _, _, rfl, rfl⟩
theorem in51 (s : ByteArray) (w : World) : Calls Try.prog 51 #[.string s] w fun e w' => e = .returned (.agg #[.iface 83 (.pointer (some ⟨w.heap.size + 1, 0, none⟩)), .int .i32 0]) ∧ ∃ o1 C t, w' = (w.alloc o1).alloc (.cells C t) ∧ C[0]? = some (.string s) := by
  go_enter Try.func51, Try.ntmps51
  go_wp2
  exact bodyPost_ret (v := .agg #[.iface 83 (.pointer (some ⟨w.heap.size + 1, 0, none⟩)), .int .i32 0]) (by simp [results, Try.results51, go_sem]) rfl ⟨rfl, _, _, _, rfl, rfl⟩
theorem in52 (sa : Option Addr) (sl sc : Nat) (w : World) : Calls Try.prog 52 #[.slice sa sl sc] w fun e w' => e = .returned (.agg #[.iface 87 (.pointer (some ⟨w.heap.size + 1, 0, none⟩)), .int .i32 0]) ∧ ∃ o1 C t, w' = (w.alloc o1).alloc (.cells C t) ∧ C[0]? = some (.slice sa sl sc) := by
  go_enter Try.func52, Try.ntmps52
  go_wp2
  exact bodyPost_ret (v := .agg #[.iface 87 (.pointer (some ⟨w.heap.size + 1, 0, none⟩)), .int .i32 0]) (by simp [results, Try.results52, go_sem]) rfl ⟨rfl, _, _, _, rfl, rfl⟩
set_option maxHeartbeats 1000000 in
theorem mk0 (a0 : Int) (b : Bool) (x : Nat) (s : ByteArray) (sa : Option Addr) (sl sc : Nat) (w : World) (h0 : 0 ≤ a0) (h : a0 % 6 = 0) :
    Calls Try.prog 13 #[.int .u8 a0, .bool b, .float .f64 x, .string s, .slice sa sl sc] w (Made 0 b x s (.slice sa sl sc) w) := by
  go_enter Try.func13, Try.ntmps13
  go_wp2_with (first | (go_at_call 47; refine (in47 _).mono ?_; rintro e w' ⟨rfl, o1, C, t, rfl⟩))
  refine bodyPost_ret (v := .agg #[_, .int .i32 0]) (by simp [results, Try.results13, go_sem]; try (first | exact ⟨rfl, rfl⟩ | rfl)) rfl ⟨_, _, rfl, ?_, (by simp <;> omega), (.inl ⟨rfl, rfl⟩)⟩
  go_light
  repeat (first | with_reducible exact Below.refl _ _ | with_reducible refine Below.drew ?_ | with_reducible refine Below.alloc ?_ (by simp <;> omega) _ | with_reducible refine Below.setCell ?_ (by simp <;> omega) _)
set_option maxHeartbeats 1000000 in
theorem mk1 (a0 : Int) (b : Bool) (x : Nat) (s : ByteArray) (sa : Option Addr) (sl sc : Nat) (w : World) (h0 : 0 ≤ a0) (h : a0 % 6 = 1) :
    Calls Try.prog 13 #[.int .u8 a0, .bool b, .float .f64 x, .string s, .slice sa sl sc] w (Made 1 b x s (.slice sa sl sc) w) := by
  go_enter Try.func13, Try.ntmps13
  go_wp2_with (first | (go_at_call 48; refine (in48 _).mono ?_; rintro e w' ⟨rfl, o1, C, t, rfl⟩))
  refine bodyPost_ret (v := .agg #[_, .int .i32 0]) (by simp [results, Try.results13, go_sem]; try (first | exact ⟨rfl, rfl⟩ | rfl)) rfl ⟨_, _, rfl, ?_, (by simp <;> omega), (.inr (.inl ⟨rfl, rfl⟩))⟩
  go_light
  repeat (first | with_reducible exact Below.refl _ _ | with_reducible refine Below.drew ?_ | with_reducible refine Below.alloc ?_ (by simp <;> omega) _ | with_reducible refine Below.setCell ?_ (by simp <;> omega) _)
set_option maxHeartbeats 1000000 in
theorem mk2 (a0 : Int) (b : Bool) (x : Nat) (s : ByteArray) (sa : Option Addr) (sl sc : Nat) (w : World) (h0 : 0 ≤ a0) (h : a0 % 6 = 2) :
    Calls Try.prog 13 #[.int .u8 a0, .bool b, .float .f64 x, .string s, .slice sa sl sc] w (Made 2 b x s (.slice sa sl sc) w) := by
  go_enter Try.func13, Try.ntmps13
  go_wp2_with (first | (go_at_call 49; refine (in49 b _).mono ?_; rintro e w' ⟨rfl, o1, C, t, rfl, hC⟩; have HC := Lib.hid hC; clear hC))
  refine bodyPost_ret (v := .agg #[_, .int .i32 0]) (by simp [results, Try.results13, go_sem]; try (first | exact ⟨rfl, rfl⟩ | rfl)) rfl ⟨_, _, rfl, ?_, (by simp <;> omega), (.inr (.inr (.inl ⟨rfl, rfl, by simp [go_sem, HC.out]⟩)))⟩
  go_light
  repeat (first | with_reducible exact Below.refl _ _ | with_reducible refine Below.drew ?_ | with_reducible refine Below.alloc ?_ (by simp <;> omega) _ | with_reducible refine Below.setCell ?_ (by simp <;> omega) _)
set_option maxHeartbeats 1000000 in
theorem mk3 (a0 : Int) (b : Bool) (x : Nat) (s : ByteArray) (sa : Option Addr) (sl sc : Nat) (w : World) (h0 : 0 ≤ a0) (h : a0 % 6 = 3) :
    Calls Try.prog 13 #[.int .u8 a0, .bool b, .float .f64 x, .string s, .slice sa sl sc] w (Made 3 b x s (.slice sa sl sc) w) := by
  go_enter Try.func13, Try.ntmps13
  go_wp2_with (first | (go_at_call 50; refine (in50 x _).mono ?_; rintro e w' ⟨rfl, o1, C, t, rfl, hC⟩; have HC := Lib.hid hC; clear hC))
  refine bodyPost_ret (v := .agg #[_, .int .i32 0]) (by simp [results, Try.results13, go_sem]; try (first | exact ⟨rfl, rfl⟩ | rfl)) rfl ⟨_, _, rfl, ?_, (by simp <;> omega), (.inr (.inr (.inr (.inl ⟨rfl, rfl, by simp [go_sem, HC.out]⟩))))⟩
  go_light
  repeat (first | with_reducible exact Below.refl _ _ | with_reducible refine Below.drew ?_ | with_reducible refine Below.alloc ?_ (by simp <;> omega) _ | with_reducible refine Below.setCell ?_ (by simp <;> omega) _)
set_option maxHeartbeats 1000000 in
theorem mk4 (a0 : Int) (b : Bool) (x : Nat) (s : ByteArray) (sa : Option Addr) (sl sc : Nat) (w : World) (h0 : 0 ≤ a0) (h : a0 % 6 = 4) :
    Calls Try.prog 13 #[.int .u8 a0, .bool b, .float .f64 x, .string s, .slice sa sl sc] w (Made 4 b x s (.slice sa sl sc) w) := by
  go_enter Try.func13, Try.ntmps13
  go_wp2_with (first | (go_at_call 51; refine (in51 s _).mono ?_; rintro e w' ⟨rfl, o1, C, t, rfl, hC⟩; have HC := Lib.hid hC; clear hC))
  refine bodyPost_ret (v := .agg #[_, .int .i32 0]) (by simp [results, Try.results13, go_sem]; try (first | exact ⟨rfl, rfl⟩ | rfl)) rfl ⟨_, _, rfl, ?_, (by simp <;> omega), (.inr (.inr (.inr (.inr (.inl ⟨rfl, rfl, by simp [go_sem, HC.out]⟩)))))⟩
  go_light
  repeat (first | with_reducible exact Below.refl _ _ | with_reducible refine Below.drew ?_ | with_reducible refine Below.alloc ?_ (by simp <;> omega) _ | with_reducible refine Below.setCell ?_ (by simp <;> omega) _)
set_option maxHeartbeats 1000000 in
theorem mk5 (a0 : Int) (b : Bool) (x : Nat) (s : ByteArray) (sa : Option Addr) (sl sc : Nat) (w : World) (h0 : 0 ≤ a0) (h : a0 % 6 = 5) :
    Calls Try.prog 13 #[.int .u8 a0, .bool b, .float .f64 x, .string s, .slice sa sl sc] w (Made 5 b x s (.slice sa sl sc) w) := by
  go_enter Try.func13, Try.ntmps13
  go_wp2_with (first | (go_at_call 52; refine (in52 sa sl sc _).mono ?_; rintro e w' ⟨rfl, o1, C, t, rfl, hC⟩; have HC := Lib.hid hC; clear hC))
  refine bodyPost_ret (v := .agg #[_, .int .i32 0]) (by simp [results, Try.results13, go_sem]; try (first | exact ⟨rfl, rfl⟩ | rfl)) rfl ⟨_, _, rfl, ?_, (by simp <;> omega), (.inr (.inr (.inr (.inr (.inr ⟨rfl, rfl, by simp [go_sem, HC.out]⟩)))))⟩
  go_light
  repeat (first | with_reducible exact Below.refl _ _ | with_reducible refine Below.drew ?_ | with_reducible refine Below.alloc ?_ (by simp <;> omega) _ | with_reducible refine Below.setCell ?_ (by simp <;> omega) _)
theorem mk_any (a0 : Int) (b : Bool) (x : Nat) (s : ByteArray) (sa : Option Addr) (sl sc : Nat) (w : World) (h0 : 0 ≤ a0) : Calls Try.prog 13 #[.int .u8 a0, .bool b, .float .f64 x, .string s, .slice sa sl sc] w (Made (a0 % 6) b x s (.slice sa sl sc) w) := by
  have hc : a0 % 6 = 0 ∨ a0 % 6 = 1 ∨ a0 % 6 = 2 ∨ a0 % 6 = 3 ∨ a0 % 6 = 4 ∨ a0 % 6 = 5 := by omega
  rcases hc with h | h | h | h | h | h
  · rw [h]; exact mk0 a0 b x s sa sl sc w h0 h
  · rw [h]; exact mk1 a0 b x s sa sl sc w h0 h
  · rw [h]; exact mk2 a0 b x s sa sl sc w h0 h
  · rw [h]; exact mk3 a0 b x s sa sl sc w h0 h
  · rw [h]; exact mk4 a0 b x s sa sl sc w h0 h
  · rw [h]; exact mk5 a0 b x s sa sl sc w h0 h
theorem eq55 (a0 : Option Addr) (l0 c0 : Nat) (z0 : List Int) (a1 : Option Addr) (l1 c1 : Nat) (z1 : List Int) (w : World) (h0 : IntRow .u16 w a0 l0 c0 z0) (h1 : IntRow .u16 w a1 l1 c1 z1) :
    Calls Try.prog 55 #[.slice a0 l0 c0, .slice a1 l1 c1] w fun e w' => e = .returned (.bool (decide (z0 = z1))) ∧ w' = w := by
  have hl0 : l0 ≤ 9223372036854775807 := by have := h0.2.1; have := h0.2.2.1; unfold maxLen at this; omega
  have hl1 : l1 ≤ 9223372036854775807 := by have := h1.2.1; have := h1.2.2.1; unfold maxLen at this; omega
  have hz0 := Lib.hid h0.1
  have hz1 := Lib.hid h1.1
  have H0 := Lib.hid h0
  have H1 := Lib.hid h1
  clear h0 h1
  by_cases hne : l0 = l1
  · subst hne
    have hq : ((l0 : Int) == (l0 : Int)) = true := by simp
    go_enter Try.func55, Try.ntmps55
    go_wp2
    go_loop [14] (fun i => ∃ k : Nat, k ≤ l0 ∧ i = .int .i64 k ∧ Hid (z0.take k = z1.take k)) (fun i => l0 - (intOf i).toNat)
    case atStart => exact ⟨0, Nat.zero_le _, rfl, rfl⟩
    case round =>
      obtain ⟨k, hk0, rfl, hrel⟩ := hrel
      by_cases hlt0 : k < l0
      · obtain ⟨b0, o0, e0, hb0, hc0⟩ := H0.out.at hlt0
        obtain ⟨b1, o1, e1, hb1, hc1⟩ := H1.out.at hlt0
        subst e0 e1
        obtain ⟨x, hx⟩ : ∃ x, x = z0.getD k 0 := ⟨_, rfl⟩
        obtain ⟨y, hy⟩ : ∃ y, y = z1.getD k 0 := ⟨_, rfl⟩
        rw [← hx] at hc0
        rw [← hy] at hc1
        have Hx := Lib.hid (And.intro (elt_of H0.out hlt0 hx) (elt_of H1.out hlt0 hy))
        clear hx hy
        by_cases ht : (x != y) = true
        · go_wp2
          go_ret
          obtain ⟨⟨q0, hx⟩, ⟨q1, hy⟩⟩ := Hx.out
          exact ⟨ret_bool2 (ne_of_elt q0 q1 hx hy ht), rfl⟩
        · have ht : (x != y) = false := by simpa using ht
          go_wp2
          go_round
          case rel =>
            obtain ⟨⟨q0, hx⟩, ⟨q1, hy⟩⟩ := Hx.out
            exact ⟨k + 1, by omega, by go_num, (by show z0.take (k + 1) = z1.take (k + 1); rw [List.take_succ_eq_append_getElem q0, List.take_succ_eq_append_getElem q1, hrel.out, ← hx, ← hy]; simpa using ht)⟩
          case measure => simp [intOf]; omega
      · have hn : k = l0 := by omega
        subst hn
        go_wp2
        go_ret
        refine ⟨ret_bool2 ?_, rfl⟩
        have h := hrel.out
        rw [List.take_of_length_le (by rw [hz0.out]; omega), List.take_of_length_le (by rw [hz1.out]; omega)] at h
        simp [h]
  · have hq : ((l0 : Int) == (l1 : Int)) = false := by simp; omega
    go_enter Try.func55, Try.ntmps55
    go_wp2
    go_ret
    refine ⟨ret_bool2 ?_, rfl⟩
    symm
    rw [decide_eq_false_iff_not]
    intro he
    rw [← hz0.out, ← hz1.out, he] at hne
    exact hne rfl

theorem eq57 (a0 : Option Addr) (l0 c0 : Nat) (z0 : List Int) (a1 : Option Addr) (l1 c1 : Nat) (z1 : List Int) (w : World) (h0 : IntRow .u16 w a0 l0 c0 z0) (h1 : IntRow .u16 w a1 l1 c1 z1) :
    Calls Try.prog 57 #[.slice a0 l0 c0, .slice a1 l1 c1] w fun e w' => e = .returned (.bool (decide (z0 = z1))) ∧ ∃ n, w' = w.drewN n := by
  have hl0 : l0 ≤ 9223372036854775807 := by have := h0.2.1; have := h0.2.2.1; unfold maxLen at this; omega
  have hl1 : l1 ≤ 9223372036854775807 := by have := h1.2.1; have := h1.2.2.1; unfold maxLen at this; omega
  have hz0 := Lib.hid h0.1
  have hz1 := Lib.hid h1.1
  have H0 := Lib.hid h0
  have H1 := Lib.hid h1
  clear h0 h1
  by_cases hne : l0 = l1
  · subst hne
    have hq : ((l0 : Int) != (l0 : Int)) = false := by simp
    go_enter Try.func57, Try.ntmps57
    go_wp2
    go_loopw [5] (fun i wr => ∃ k n : Nat, k ≤ l0 ∧ i = .int .i64 k ∧ Hid (z0.take k = z1.take k) ∧ wr = w.drewN n) (fun i _ => l0 - (intOf i).toNat)
    case atStart => exact ⟨0, 0, Nat.zero_le _, rfl, rfl, rfl⟩
    case round =>
      obtain ⟨k, n, hk0, rfl, hrel, rfl⟩ := hrel
      by_cases hlt0 : k < l0
      · obtain ⟨b0, o0, e0, hb0, hc0⟩ := H0.out.at hlt0
        obtain ⟨b1, o1, e1, hb1, hc1⟩ := H1.out.at hlt0
        subst e0 e1
        obtain ⟨x, hx⟩ : ∃ x, x = z0.getD k 0 := ⟨_, rfl⟩
        obtain ⟨y, hy⟩ : ∃ y, y = z1.getD k 0 := ⟨_, rfl⟩
        rw [← hx] at hc0
        rw [← hy] at hc1
        have Hx := Lib.hid (And.intro (elt_of H0.out hlt0 hx) (elt_of H1.out hlt0 hy))
        clear hx hy
        by_cases ht : (x != y) = true
        · go_wp2
          go_quiet (fail)
          go_wp2
          go_ret
          obtain ⟨⟨q0, hx⟩, ⟨q1, hy⟩⟩ := Hx.out
          exact ⟨ret_bool2 (ne_of_elt q0 q1 hx hy ht), _, World.drewN_drewN _ _ _⟩
        · have ht : (x != y) = false := by simpa using ht
          go_wp2
          go_quiet (fail)
          go_wp2
          go_roundw
          case rel =>
            obtain ⟨⟨q0, hx⟩, ⟨q1, hy⟩⟩ := Hx.out
            exact ⟨k + 1, _, by omega, by go_num, (by show z0.take (k + 1) = z1.take (k + 1); rw [List.take_succ_eq_append_getElem q0, List.take_succ_eq_append_getElem q1, hrel.out, ← hx, ← hy]; simpa using ht), rfl⟩
          case measure => simp [intOf]; omega
      · have hn : k = l0 := by omega
        subst hn
        go_wp2
        go_ret
        refine ⟨ret_bool2 ?_, _, rfl⟩
        have h := hrel.out
        rw [List.take_of_length_le (by rw [hz0.out]; omega), List.take_of_length_le (by rw [hz1.out]; omega)] at h
        simp [h]
  · have hq : ((l0 : Int) != (l1 : Int)) = true := by simp; omega
    go_enter Try.func57, Try.ntmps57
    go_wp2
    go_ret
    refine ⟨ret_bool2 ?_, 0, rfl⟩
    symm
    rw [decide_eq_false_iff_not]
    intro he
    rw [← hz0.out, ← hz1.out, he] at hne
    exact hne rfl


theorem prim53 (T : Nat) (v : Value) (w : World) (hT : T = 74 ∨ T = 75 ∨ T = 77 ∨ T = 80 ∨ T = 83 ∨ T = 87) : Calls Try.prog 53 #[.iface T v] w fun e w' => e = .returned (.bool true) ∧ w' = w := by
  rcases hT with rfl | rfl | rfl | rfl | rfl | rfl
  all_goals
    go_enter Try.func53, Try.ntmps53
    go_wp2
    go_ret
    exact ⟨rfl, rfl⟩
theorem kind15 (st : Bool) (w : World) : Calls Try.prog 15 #[.bool st] w fun e w' => e = .returned (.int .u8 (if st then 1 else 0)) ∧ w' = w := by
  cases st
  all_goals
    go_enter Try.func15, Try.ntmps15
    go_wp2
    go_ret
    exact ⟨rfl, rfl⟩
theorem one58 (b : Bool) (w : World) : Calls Try.prog 58 #[.bool b] w fun e w' => e = .returned (.float .f64 (if b then 4607182418800017408 else 0)) ∧ w' = w := by
  cases b
  all_goals
    go_enter Try.func58, Try.ntmps58
    go_wp2
    go_ret
    exact ⟨rfl, rfl⟩
def rad (a : ByteArray) : Bool := if h : 2 ≤ a.size then (a[0].toNat : Int) == 48 else false
theorem ret2 {a b c d : Bool} (h : a = c) (k : b = d) : Ending.returned (.tuple #[.bool a, .bool b]) = .returned (.tuple #[.bool c, .bool d]) := by rw [h, k]
theorem rad_lt {a : ByteArray} (h : (a.size : Int) < 2) : rad a = false := by simp [rad]; omega
theorem rad_ge {a : ByteArray} (h : 2 ≤ (a.size : Int)) (h' : 0 < a.size) : rad a = ((a[0].toNat : Int) == 48) := by
  unfold rad; rw [dif_pos (by omega)]
theorem big_eq (a : ByteArray) (w : World) (ha : a.size ≤ maxLen) : Calls Try.prog 54 #[.string a, .string a] w fun e w' => e = .returned (.tuple #[.bool true, .bool true]) ∧ w' = w := by
  unfold maxLen at ha
  go_enter Try.func54, Try.ntmps54
  go_wp2
  go_ret2
  exact ⟨rfl, rfl⟩
theorem big_ne (a b : ByteArray) (w : World) (ha : a.size ≤ maxLen) (hb : b.size ≤ maxLen) (h : (a.toList == b.toList) = false) : Calls Try.prog 54 #[.string a, .string b] w fun e w' => e = .returned (.tuple #[.bool false, .bool (!rad a && !rad b)]) ∧ w' = w := by
  unfold maxLen at ha hb
  go_enter Try.func54, Try.ntmps54
  go_wp2
  all_goals
    go_ret2
    refine ⟨ret2 rfl ?_, rfl⟩
    go_light
    first
      | (rw [rad_lt (a := a) ‹_›, rad_lt (a := b) ‹_›]; rfl)
      | (rw [rad_lt (a := a) ‹_›, rad_ge (a := b) ‹_› ‹_›]; clear h; simp_all; done)
      | (rw [rad_lt (a := a) ‹_›, rad_ge (a := b) ‹_› ‹_›]; clear h; simp_all; omega)
      | (rw [rad_ge (a := a) ‹_› ‹_›, rad_lt (a := b) ‹_›]; clear h; simp_all; done)
      | (rw [rad_ge (a := a) ‹_› ‹_›, rad_lt (a := b) ‹_›]; clear h; simp_all; omega)
      | (rw [rad_ge (a := a) ‹_› ‹_›, rad_ge (a := b) ‹_› ‹_›]; clear h; simp_all; done)
      | (rw [rad_ge (a := a) ‹_› ‹_›, rad_ge (a := b) ‹_› ‹_›]; clear h; simp_all; omega)
      | (rw [rad_ge (a := a) ‹_› ‹_›]; clear h; simp_all; done)
      | (rw [rad_ge (a := a) ‹_› ‹_›]; clear h; simp_all; omega)
theorem rad56 (a : ByteArray) (w : World) (ha : a.size ≤ maxLen) : Calls Try.prog 56 #[.string a] w fun e w' => e = .returned (.bool (rad a)) ∧ w' = w := by
  unfold maxLen at ha
  go_enter Try.func56, Try.ntmps56
  go_wp2
  all_goals
    go_ret
    refine ⟨ret_bool2 ?_, rfl⟩
    go_light
    first
      | (rw [rad_lt ‹_›]; done)
      | (rw [rad_lt ‹_›]; rfl)
      | (rw [rad_lt ‹_›]; simp_all; done)
      | (rw [rad_ge ‹_› ‹_›]; done)
      | (rw [rad_ge ‹_› (by omega)]; done)
      | (rw [rad_ge ‹_› ‹_›]; simp_all; done)
      | (rw [rad_ge ‹_› (by omega)]; simp_all; done)
      | (rw [rad_ge ‹_› ‹_›]; rfl)
theorem bytes11 (a0 : Bool) (a1 : Int) (a2 : Bool) (a3 : Nat) (a4 : ByteArray) (a5 : Option Addr) (l5 c5 : Nat) (a6 : Int) (a7 : Bool) (a8 : Nat) (a9 : ByteArray) (a10 : Option Addr) (l10 c10 : Nat) (w : World) (h4 : a4.size ≤ maxLen) (h5 : l5 ≤ maxLen) (h9 : a9.size ≤ maxLen) (h10 : l10 ≤ maxLen) :
    Calls Try.prog 11 #[.bool a0, .int .u8 a1, .bool a2, .float .f64 a3, .string a4, .slice a5 l5 c5, .int .u8 a6, .bool a7, .float .f64 a8, .string a9, .slice a10 l10 c10] w fun e w' => (∃ r : Bool, e = .returned (.bool r)) ∧ w = w' := by
  unfold maxLen at h4 h5 h9 h10
  go_enter Try.func11, Try.ntmps11
  go_wp2
  all_goals
    go_ret
    exact ⟨⟨_, rfl⟩, rfl⟩
end Go.Proofs.Ytflfeffbckleaaa.lits
