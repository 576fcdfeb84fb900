/- The walk of the law 'FnDuplicateCaseEqualsLeafTable': it returns true and leaves what was there as it was. No conditions. -/
import Derived.Test.YtiejadamfgbidaaRows
import Derived.Test.YtiejadamfgbidaaLib
import Derived.Test.YtiejadamfgbidaaAsserts
import Derived.Test.YtiejadamfgbidaaClones
import Derived.Test.YtiejadamfgbidaaDupLeaf
import Derived.Test.YtiejadamfgbidaaDupEq
import Derived.Outline
namespace Go.Proofs.Ytiejadamfgbidaa.fnDuplicateCaseEqualsLeafTable
open Go.ChangeShapes Go.WideShapes Go.ChangeAt Go.RowKit Go.Mine dup
set_option linter.unusedVariables false
set_option maxRecDepth 100000

def leqv (ka kb : Int) (na nb : Nat) (ba bb : Bool) (za zb : List Int) (ra rb : Int) : Bool :=
  if ka = kb then (if ka = 6 then false else if ka = 2 then ba == bb else if ka = 3 then (FloatKind.f64.format.order na nb == some .eq) else if ka = 4 then decide (za = zb) else if ka = 5 then ra == rb else true) else false
abbrev NoX : Nat → Prop := fun _ => False
theorem cases_below {k : Int} {x : Nat} {b : Bool} {sv : Value} {r : Int} {w w' : World} {p T : Nat} (h : Cases k x b sv r w p T) (hb : Below w.heap.size w w') : Cases k x b sv r w' p T := by
  rcases h with h | h | ⟨h1, h2, h3⟩ | ⟨h1, h2, h3⟩ | ⟨h1, h2, h3⟩ | ⟨h1, h2, h3, h4⟩ | h
  · exact .inl h
  · exact .inr (.inl h)
  · exact .inr (.inr (.inl ⟨h1, h2, bcell hb h3⟩))
  · exact .inr (.inr (.inr (.inl ⟨h1, h2, bcell hb h3⟩)))
  · exact .inr (.inr (.inr (.inr (.inl ⟨h1, h2, bcell hb h3⟩))))
  · exact .inr (.inr (.inr (.inr (.inr (.inl ⟨h1, h2, bcell hb h3, bcell hb h4⟩)))))
  · exact .inr (.inr (.inr (.inr (.inr (.inr h)))))
theorem cases_T {k : Int} {x : Nat} {b : Bool} {sv : Value} {r : Int} {w : World} {p T : Nat} (h : Cases k x b sv r w p T) : T ≠ 41 := by
  rcases h with ⟨_, rfl⟩ | ⟨_, rfl⟩ | ⟨_, rfl, _⟩ | ⟨_, rfl, _⟩ | ⟨_, rfl, _⟩ | ⟨_, rfl, _⟩ | ⟨_, rfl⟩ <;> decide
theorem eq_leaf {ka kb : Int} {na nb : Nat} {ba bb : Bool} {a a' : Option Addr} {n n' c c' : Nat} {za zb : List Int} {ra rb : Int} {w : World} {p q T T2 : Nat} (l1 l2 : Int) (h : Cases ka na ba (.slice a n c) ra w p T) (h' : Cases kb nb bb (.slice a' n' c') rb w q T2)
    (r0 : IntRow .u16 w a n c za) (r1 : IntRow .u16 w a' n' c' zb) :
    Says Try.prog NoX 54 #[.agg #[.iface T (.pointer (some ⟨p, 0, none⟩)), .int .i32 l1], .agg #[.iface T2 (.pointer (some ⟨q, 0, none⟩)), .int .i32 l2]] (.tuple #[.bool (leqv ka kb na nb ba bb za zb ra rb), .bool false]) w := by
  rcases h with ⟨rfl, rfl⟩ | ⟨rfl, rfl⟩ | ⟨rfl, rfl, h3⟩ | ⟨rfl, rfl, h3⟩ | ⟨rfl, rfl, h3⟩ | ⟨rfl, rfl, h3, h4⟩ | ⟨rfl, rfl⟩ <;>
  rcases h' with ⟨rfl, rfl⟩ | ⟨rfl, rfl⟩ | ⟨rfl, rfl, k3⟩ | ⟨rfl, rfl, k3⟩ | ⟨rfl, rfl, k3⟩ | ⟨rfl, rfl, k3, k4⟩ | ⟨rfl, rfl⟩
  all_goals first
    | exact eq_other l1 l2 _ _ w (by decide) (by decide) (by decide)
    | exact eq_same l1 l2 _ _ w _ (by decide)
    | exact eq_arr l1 l2 _ _ w
    | exact eq_bool l1 l2 ba bb (fun h => h) (fun h => h) h3 k3
    | exact eq_num l1 l2 na nb (fun h => h) (fun h => h) h3 k3
    | exact eq_id l1 l2 ra rb (fun h => h) (fun h => h) h3 k3 h4 k4
    | exact eq_str l1 l2 a n c za a' n' c' zb (fun h => h) (fun h => h) h3 k3 r0 r1 (fun _ _ h => h) (fun _ _ h => h)

theorem bytes_any (a0 a1 : Int) (a2 a3 : Nat) (a4 a5 : Bool) (a6 : Option Addr) (l6 c6 : Nat) (a7 : Option Addr) (l7 c7 : Nat) (a8 a9 : Int) (a10 a11 : Bool) (w : World) (h6 : l6 ≤ maxLen) (h7 : l7 ≤ maxLen) :
    Calls Try.prog 31 #[.int .u8 a0, .int .u8 a1, .float .f64 a2, .float .f64 a3, .bool a4, .bool a5, .slice a6 l6 c6, .slice a7 l7 c7, .int .u32 a8, .int .u32 a9, .bool a10, .bool a11] w fun e w' => (∃ r : Bool, e = .returned (.bool r)) ∧ w = w' := by
  unfold maxLen at h6 h7
  go_enter Try.func31, Try.ntmps31
  go_wp2
  all_goals
    go_ret
    exact ⟨⟨_, rfl⟩, rfl⟩
set_option maxHeartbeats 1000000 in
theorem outer35 {R S : Bool} {T T2 : Nat} {v v2 : Value} {l1 l2 : Int} {w : World} (h : Says Try.prog NoX 54 #[.agg #[.iface T v, .int .i32 l1], .agg #[.iface T2 v2, .int .i32 l2]] (.tuple #[.bool R, .bool S]) w) :
    Says Try.prog NoX 35 #[.agg #[.iface T v, .int .i32 l1], .agg #[.iface T2 v2, .int .i32 l2]] (.tuple #[.bool R, .bool S]) w := by
  intro w' hb
  have H := Lib.hid fun o1 o2 => h ((w'.alloc o1).alloc o2) ((hb.alloc o1).alloc o2)
  have HB := Lib.hid fun o1 o2 => (((Below.refl w'.heap.size w').alloc (Nat.le_refl _) o1).alloc (by simp) o2)
  clear h
  go_enter Try.func35, Try.ntmps35
  go_wp2_with fail
  refine (H.out _ _).mono ?_
  rintro e w2 ⟨rfl, hb2⟩
  have B := Lib.hid hb2
  clear hb2
  go_wp2_with fail
  go_ret2
  exact ⟨rfl, below2 (HB.out _ _) B.out⟩
set_option maxHeartbeats 4000000 in
theorem model36 (ka kb : Int) (na nb : Nat) (ba bb : Bool) (a : Option Addr) (n c : Nat) (za : List Int) (a' : Option Addr) (n' c' : Nat) (zb : List Int) (ra rb : Int) (w : World) (h0 : 0 ≤ ka) (h1 : 0 ≤ kb) (r0 : IntRow .u16 w a n c za) (r1 : IntRow .u16 w a' n' c' zb) :
    Calls Try.prog 36 #[.int .u8 ka, .int .u8 kb, .float .f64 na, .float .f64 nb, .bool ba, .bool bb, .slice a n c, .slice a' n' c', .int .u32 ra, .int .u32 rb] w fun e w' => e = .returned (.bool (leqv (ka % 7) (kb % 7) na nb ba bb za zb ra rb)) ∧ Below w.heap.size w w' := by
  have HE := Lib.hid (eq55 a n c za a' n' c' zb w r0 r1)
  clear r0 r1
  by_cases hne : ka % 7 = kb % 7
  · have E := Lib.hid hne
    have hc : ka % 7 = 0 ∨ ka % 7 = 1 ∨ ka % 7 = 2 ∨ ka % 7 = 3 ∨ ka % 7 = 4 ∨ ka % 7 = 5 ∨ ka % 7 = 6 := by omega
    have hq : (ka % 7 != kb % 7) = false := by simp [hne]
    rcases hc with h | h | h | h | h | h | h
    all_goals
      have h2 : kb % 7 = _ := hne.symm.trans h
      rw [h, h2] at hq
      rw [h, h2]
      clear hne
      go_enter Try.func36, Try.ntmps36
      first
        | (go_wp2_with fail
           go_ret
           exact ⟨rfl, Below.refl _ _⟩)
        | (go_wp2_with fail
           refine HE.out.mono ?_
           rintro e w' ⟨rfl, m, rfl⟩
           go_wp2_with fail
           go_ret
           exact ⟨rfl, below_drewN (Below.refl _ _) _⟩)
  · have hq : (ka % 7 != kb % 7) = true := by simpa using hne
    have E := Lib.hid hne
    clear hne
    go_enter Try.func36, Try.ntmps36
    go_wp2_with fail
    go_ret
    refine ⟨ret_bool2 ?_, Below.refl _ _⟩
    unfold leqv
    rw [if_neg E.out]

def Wrapd (T : Nat) (v : Value) (l : Int) (b : Bool) (w : World) (T' : Nat) (v' : Value) (l' : Int) : Prop :=
  (b = false ∧ T' = T ∧ v' = v ∧ l' = l) ∨ (b = true ∧ T' = 41 ∧ ∃ q, v' = .pointer (some ⟨q, 0, none⟩) ∧ w.cell? ⟨q, 0, none⟩ = some (.iface T v) ∧ w.cell? ⟨q, 1, none⟩ = some (.int .i32 l))
theorem Wrapd.below {T : Nat} {v : Value} {l : Int} {b : Bool} {w w' : World} {T' : Nat} {v' : Value} {l' : Int} (h : Wrapd T v l b w T' v' l') (hb : Below w.heap.size w w') : Wrapd T v l b w' T' v' l' := by
  rcases h with h | ⟨h1, h2, q, h3, h4, h5⟩
  · exact .inl h
  · exact .inr ⟨h1, h2, q, h3, bcell hb h4, bcell hb h5⟩
def WrapP (T : Nat) (v : Value) (l : Int) (b : Bool) (w : World) (e : Ending) (w' : World) : Prop :=
  ∃ T' v' l', e = .returned (.agg #[.iface T' v', .int .i32 l']) ∧ Below w.heap.size w w' ∧ Wrapd T v l b w' T' v' l'
theorem wrap_any (T : Nat) (v : Value) (l : Int) (b : Bool) (w : World) : Calls Try.prog 33 #[.agg #[.iface T v, .int .i32 l], .bool b] w (WrapP T v l b w) := by
  cases b with
  | false => exact (wrap_no T v l w).mono fun e w' ⟨he, hb⟩ => ⟨_, _, _, he, hb, .inl ⟨rfl, rfl, rfl, rfl⟩⟩
  | true => exact (wrap_yes T v l w).mono fun e w' ⟨q, he, hb, h0, h1⟩ => ⟨_, _, _, he, hb, .inr ⟨rfl, rfl, q, rfl, h0, h1⟩⟩
theorem eq_wrapped {R S : Bool} {T T2 T' T2' : Nat} {v v2 v' v2' : Value} {l l2 l' l2' : Int} {b b2 : Bool} {w : World} (hT : T2 ≠ 41) (h : Says Try.prog NoX 54 #[.agg #[.iface T v, .int .i32 l], .agg #[.iface T2 v2, .int .i32 l2]] (.tuple #[.bool R, .bool S]) w)
    (k : Wrapd T v l b w T' v' l') (k2 : Wrapd T2 v2 l2 b2 w T2' v2' l2') : Says Try.prog NoX 54 #[.agg #[.iface T' v', .int .i32 l'], .agg #[.iface T2' v2', .int .i32 l2']] (.tuple #[.bool R, .bool S]) w := by
  have h1 : Says Try.prog NoX 54 #[.agg #[.iface T' v', .int .i32 l'], .agg #[.iface T2 v2, .int .i32 l2]] (.tuple #[.bool R, .bool S]) w := by
    rcases k with ⟨_, rfl, rfl, rfl⟩ | ⟨_, rfl, q, rfl, h4, h5⟩
    · exact h
    · exact eq_inlL (fun h => h) hT h h4 h5
  rcases k2 with ⟨_, rfl, rfl, rfl⟩ | ⟨_, rfl, q, rfl, h4, h5⟩
  · exact h1
  · exact eq_inlR (fun h => h) h1 h4 h5

set_option maxHeartbeats 8000000 in
theorem walk (a0 : Int) (a1 : Int) (a2 : Nat) (a3 : Nat) (a4 : Bool) (a5 : Bool) (a6 : Option Addr) (len6 cap6 : Nat) (z6 : List Int) (a7 : Option Addr) (len7 cap7 : Nat) (z7 : List Int) (a8 : Int) (a9 : Int) (a10 : Bool) (a11 : Bool) (w : World) (w0 : (Lit.int .u8 a0).wf = true) (w1 : (Lit.int .u8 a1).wf = true) (w2 : (Lit.float .f64 a2).wf = true) (w3 : (Lit.float .f64 a3).wf = true) (w6 : IntRow .u16 w a6 len6 cap6 z6) (w7 : IntRow .u16 w a7 len7 cap7 z7) (w8 : (Lit.int .u32 a8).wf = true) (w9 : (Lit.int .u32 a9).wf = true) :
    Calls Try.prog 7 #[.int .u8 a0, .int .u8 a1, .float .f64 a2, .float .f64 a3, .bool a4, .bool a5, .slice a6 len6 cap6, .slice a7 len7 cap7, .int .u32 a8, .int .u32 a9, .bool a10, .bool a11] w fun e w' => e = .returned (.bool true) ∧ Below w.heap.size w w' := by
  obtain ⟨b0, b1⟩ := bounds_u8 w0
  obtain ⟨c0, c1⟩ := bounds_u8 w1
  have hl6 : len6 ≤ maxLen := Nat.le_trans w6.2.1 w6.2.2.1
  have hl7 : len7 ≤ maxLen := Nat.le_trans w7.2.1 w7.2.2.1
  have m6 := hl6
  have m7 := hl7
  unfold maxLen at m6 m7
  have H6 := Lib.hid w6
  have H7 := Lib.hid w7
  clear w0 w1 w2 w3 w6 w7 w8 w9
  go_enter Try.func7, Try.ntmps7
  go_wp2_with fail
  refine (bytes_any _ _ _ _ _ _ _ _ _ _ _ _ _ _ _ _ _ hl6 hl7).mono ?_
  rintro e w' ⟨⟨r, rfl⟩, rfl⟩
  cases r with
  | false =>
    go_wp2_with fail
    go_ret
    exact ⟨rfl, Below.refl _ _⟩
  | true =>
    go_wp2_with fail
    all_goals try (go_ret; exact ⟨rfl, Below.refl _ _⟩)
    refine (clone32 _ _ _ z6 _ H6.out (by go_light; omega)).mono ?_
    rintro e w2 ⟨u6, rfl, r6, y1, y2, hb2⟩
    have R6 := Lib.hid r6
    have B2 := Lib.hid hb2
    have R7 := Lib.hid (H7.out.below hb2)
    clear r6 y1 y2 hb2 hl6 hl7
    go_wp2_with fail
    refine (clone32 _ _ _ z7 _ R7.out (by go_light; omega)).mono ?_
    rintro e w3 ⟨u7, rfl, r7, y1, y2, hb3⟩
    have P7 := Lib.hid r7
    have P6 := Lib.hid (R6.out.below hb3)
    have B3 := Lib.hid (below2 B2.out hb3)
    clear r7 y1 y2 hb3 R6 R7 B2 H6 H7
    go_wp2_with fail
    refine (mk_any _ _ _ _ _ _ _ _ b0).mono ?_
    rintro e w4 ⟨T1, p1, rfl, hb4, hp1, k1⟩
    have B4 := Lib.hid (below2 B3.out hb4)
    have K1 := Lib.hid k1
    have Q6 := Lib.hid (P6.out.below hb4)
    have Q7 := Lib.hid (P7.out.below hb4)
    clear hb4 hp1 k1 P6 P7 B3
    go_wp2_with fail
    refine (wrap_any _ _ _ _ _).mono ?_
    rintro e w5 ⟨T1', v1', l1', rfl, hb5, k5⟩
    have B5 := Lib.hid (below2 B4.out hb5)
    have K15 := Lib.hid (cases_below K1.out hb5)
    have K5 := Lib.hid k5
    have Q65 := Lib.hid (Q6.out.below hb5)
    have Q75 := Lib.hid (Q7.out.below hb5)
    clear hb5 k5 K1 Q6 Q7 B4
    go_wp2_with fail
    refine (mk_any _ _ _ _ _ _ _ _ c0).mono ?_
    rintro e w6 ⟨T2, p2, rfl, hb6, hp2, k2⟩
    have d0 : w6.cell? ⟨w5.heap.size, 0, none⟩ = some (.iface T1' v1') := bcell hb6 (by simp [go_sem])
    have d1 : w6.cell? ⟨w5.heap.size, 1, none⟩ = some (.int .i32 l1') := bcell hb6 (by simp [go_sem])
    have hb6' : Below w5.heap.size w5 w6 := below2 ((Below.refl _ _).alloc (Nat.le_refl _) _) hb6
    have B6 := Lib.hid (below2 B5.out hb6')
    have K16 := Lib.hid (cases_below K15.out hb6')
    have K56 := Lib.hid (K5.out.below hb6')
    have K2 := Lib.hid k2
    have Q66 := Lib.hid (Q65.out.below hb6')
    have Q76 := Lib.hid (Q75.out.below hb6')
    clear hb6 hb6' hp2 k2 K15 K5 Q65 Q75 B5
    go_wp2_with fail
    refine (wrap_any _ _ _ _ _).mono ?_
    rintro e w7 ⟨T2', v2', l2', rfl, hb7, k7⟩
    have e0 := bcell hb7 d0
    have e1 := bcell hb7 d1
    have hlt := cell_lt e0
    have B7 := Lib.hid (below2 B6.out hb7)
    have K17 := Lib.hid (cases_below K16.out hb7)
    have K57 := Lib.hid (K56.out.below hb7)
    have K27 := Lib.hid (cases_below K2.out hb7)
    have K7 := Lib.hid k7
    have Q67 := Lib.hid (Q66.out.below hb7)
    have Q77 := Lib.hid (Q76.out.below hb7)
    clear hb7 k7 K16 K56 K2 Q66 Q76 B6 d0 d1
    have SA := Lib.hid (outer35 (eq_wrapped (cases_T K27.out) (eq_leaf _ _ K17.out K27.out Q67.out Q77.out) K57.out K7.out))
    have HB : Hid (∀ o, Below w7.heap.size w7 (w7.alloc o)) := fun o => (Below.refl _ _).alloc (Nat.le_refl _) o
    go_wp2_with fail
    refine (SA.out _ (Same.of_below (HB.out _))).mono ?_
    rintro e w8 ⟨rfl, hb8⟩
    have hb8' := below2 (HB.out _) hb8
    have B8 := Lib.hid (below2 B7.out hb8')
    have Q68 := Lib.hid (Q67.out.below hb8')
    have Q78 := Lib.hid (Q77.out.below hb8')
    clear hb8 hb8' Q67 Q77 B7 e0 e1 hlt SA K17 K57 K27 K7
    obtain ⟨R, hR⟩ : ∃ R, R = leqv (a0 % 7) (a1 % 7) a2 a3 a4 a5 z6 z7 a8 a9 := ⟨_, rfl⟩
    rw [← hR]
    have HR := Lib.hid hR
    clear hR
    go_wp2_with fail
    refine (model36 _ _ _ _ _ _ _ _ _ z6 _ _ _ z7 _ _ _ b0 c0 Q68.out Q78.out).mono ?_
    rintro e w9 ⟨rfl, hb9⟩
    rw [← HR.out]
    have B9 := Lib.hid (below2 B8.out hb9)
    clear hb9
    go_wp2_with fail
    go_ret
    exact ⟨ret_bool (by simp), B9.out⟩
end Go.Proofs.Ytiejadamfgbidaa.fnDuplicateCaseEqualsLeafTable
