/- The loop that adds the records. No conditions beyond the hypotheses. -/
import Derived.Test.YtbjebcbdednijaaLib
import Derived.Test.YtbjebcbdednijaaAddA
import Derived.Test.YtbjebcbdednijaaAddC
import Derived.Deep.DeepCutAuto
import Derived.Deep.CutBlock
import Derived.StillTailTactics
import Derived.Deep.LoopGhost
import Derived.Deep.QuietTactic
import Derived.BigQuiet
import Derived.Lib.Builder
namespace Go.Proofs.Ytbjebcbdednijaa.add
open Go.ChangeShapes Go.WideShapes Go.ChangeAt Go.RowKit Go.Mine
set_option linter.unusedVariables false
set_option linter.unusedSimpArgs false
set_option maxRecDepth 100000

/-- The seven cloned slices, and what is known of their lengths. -/
structure Rs (b0 b1 b2 b3 b4 b5 b6 : Option Addr) (l0 l1 l2 l3 l4 l5 l6 : Nat) (z0 z1 z2 z3 : List Int) (z4 : List ByteArray) (z5 : List Int) (z6 : List Bool) (u : World) : Prop where
  r0 : IntRow .u8 u b0 l0 l0 z0
  s0 : l0 ≤ 1048576
  r1 : IntRow .u8 u b1 l1 l1 z1
  s1 : l1 ≤ 1048576
  r2 : IntRow .i32 u b2 l2 l2 z2
  s2 : l2 ≤ 1048576
  r3 : IntRow .i32 u b3 l3 l3 z3
  s3 : l3 ≤ 1048576
  r4 : StrRow u b4 l4 l4 z4
  s4 : l4 ≤ 1048576
  r5 : IntRow .u32 u b5 l5 l5 z5
  s5 : l5 ≤ 1048576
  r6 : BoolRow u b6 l6 l6 z6
  s6 : l6 ≤ 1048576
/-- The k-th block of the function's body (in the order of the text) that holds a loop. -/
def blocksOf : Code → List Code
  | .block i c => [.block i c]
  | .seq a b => blocksOf a ++ blocksOf b
  | .scope c => blocksOf c
  | .cond _ a b => blocksOf a ++ blocksOf b
  | _ => []
noncomputable def theBlock (k : Nat) : Code := (Try.f3.body.bind fun c => (blocksOf c)[k]?).getD .skip
/-- What the j-th record holds. -/
def Rc (z0 z1 z2 z3 : List Int) (z4 : List ByteArray) (z5 : List Int) (z6 : List Bool) (xs : List Value) (j : Nat) (q : Option Addr) : Prop :=
  ∀ o v, (recC (z0.getD j 0) (z1.getD j 0) (z2.getD j 0) (z3.getD j 0) (IntKind.u16.wrap (z5.getD j 0)) (z4.getD j ByteArray.empty) q)[o]? = some v → xs[j * 15 + o]? = some v
/-- The state behind k rounds. -/
structure L1 (p Q n : Nat) (z0 z1 z2 z3 : List Int) (z4 : List ByteArray) (z5 : List Int) (z6 : List Bool) (u : World) (k : Nat) (a : Option Addr) (c : Nat) (xs : List Value) (D : Array Value) (W : World) : Prop where
  ha : AS u.heap.size p a k c xs W
  hD : Blk W Q D 37
  hn : D.size = n
  hx : xs.length = k * 15
  lo : ∀ j, j < k → ∃ q, D[j]? = some (.pointer q) ∧ Rc z0 z1 z2 z3 z4 z5 z6 xs j q
  hi : ∀ j, k ≤ j → j < n → D[j]? = some (.pointer none)
  bel : Below u.heap.size u W
  ge : u.heap.size ≤ Q
/-- Behind the store of the round's pointer. -/
structure Mid (p Q n : Nat) (z0 z1 z2 z3 : List Int) (z4 : List ByteArray) (z5 : List Int) (z6 : List Bool) (u : World) (k : Nat) (a : Option Addr) (c : Nat) (xs : List Value) (D : Array Value) (q : Option Addr) (W : World) : Prop where
  ha : AS u.heap.size p a k c xs W
  hD : Blk W Q (D.setIfInBounds k (.pointer q)) 37
  hn : D.size = n
  hx : xs.length = k * 15
  lo : ∀ j, j < k → ∃ q, D[j]? = some (.pointer q) ∧ Rc z0 z1 z2 z3 z4 z5 z6 xs j q
  hi : ∀ j, k ≤ j → j < n → D[j]? = some (.pointer none)
  bel : Below u.heap.size u W
  ge : u.heap.size ≤ Q
section
variable {p Q n k c : Nat} {z0 z1 z2 z3 : List Int} {z4 : List ByteArray} {z5 : List Int} {z6 : List Bool} {u : World} {a : Option Addr} {xs : List Value} {D : Array Value} {W : World} {q : Option Addr}
theorem L1.mid (h : L1 p Q n z0 z1 z2 z3 z4 z5 z6 u k a c xs D W) : Mid p Q n z0 z1 z2 z3 z4 z5 z6 u k a c xs D q (W.setCell ⟨Q, k, none⟩ (.pointer q)) := by
  obtain ⟨ha, hD, hn, hx, lo, hi, bel, ge⟩ := h
  have hne := ha.other hD (by decide) (by decide)
  have sw : Same (· = Q) W (W.setCell ⟨Q, k, none⟩ (.pointer q)) := Same.setCell (X := (· = Q)) (Same.refl _ _) (p := ⟨Q, k, none⟩) rfl _
  exact ⟨ha.same sw (fun e => hne (.inl e.symm)) (fun g hg e => hne (.inr (by rw [← e]; exact hg))), hD.set k _, hn, hx, lo, hi, bel.setCell (p := ⟨Q, k, none⟩) ge _, ge⟩
theorem Mid.kept {W' : World} (h : Mid p Q n z0 z1 z2 z3 z4 z5 z6 u k a c xs D q W) (hb : Below W.heap.size W W') : Mid p Q n z0 z1 z2 z3 z4 z5 z6 u k a c xs D q W' := by
  obtain ⟨ha, hD, hn, hx, lo, hi, bel, ge⟩ := h
  have := ha.lt
  exact ⟨ha.kept hb, hD.below hb, hn, hx, lo, hi, bel.trans (hb.mono (by have := ha.ge; omega)), ge⟩
theorem Mid.next {W' : World} (h : Mid p Q n z0 z1 z2 z3 z4 z5 z6 u k a c xs D q W) (hk : k < n) {g c' : Nat} (hA : AS u.heap.size p (some ⟨g, 0, none⟩) (k + 1) c' (xs ++ (recC (z0.getD k 0) (z1.getD k 0) (z2.getD k 0) (z3.getD k 0) (IntKind.u16.wrap (z5.getD k 0)) (z4.getD k ByteArray.empty) q).toList) W')
    (hS : Same (Ch p a k c) W W') (hB : ∀ w0, Below u.heap.size w0 W → Below u.heap.size w0 W') : L1 p Q n z0 z1 z2 z3 z4 z5 z6 u (k + 1) (some ⟨g, 0, none⟩) c' (xs ++ (recC (z0.getD k 0) (z1.getD k 0) (z2.getD k 0) (z3.getD k 0) (IntKind.u16.wrap (z5.getD k 0)) (z4.getD k ByteArray.empty) q).toList) (D.setIfInBounds k (.pointer q)) W' := by
  obtain ⟨ha, hD, hn, hx, lo, hi, bel, ge⟩ := h
  have hne := ha.other hD (by decide) (by decide)
  refine ⟨hA, hD.same hS hne, by simp [hn], by simp [hx]; omega, fun j hj => ?_, fun j h1 h2 => ?_, hB u bel, ge⟩
  · by_cases e : j = k
    · subst e
      refine ⟨q, by simp [hn, hk], fun o v hv => ?_⟩
      rw [List.getElem?_append_right (by omega), hx, Nat.add_sub_cancel_left]
      simpa using hv
    · obtain ⟨q', h1, h2⟩ := lo j (by omega)
      refine ⟨q', by rw [Array.getElem?_setIfInBounds_ne (Ne.symm e)]; exact h1, fun o v hv => ?_⟩
      have h3 := h2 o v hv
      rw [List.getElem?_append_left (List.getElem?_eq_some_iff.1 h3).1]
      exact h3
  · rw [Array.getElem?_setIfInBounds_ne (by omega)]
    exact hi j (by omega) h2
end
set_option maxHeartbeats 16000000 in
theorem loop1 {u7 u8 u9 u10 u11 u12 u13 u14 u19 u20 u21 u22 u23 u24 u25 u26 u27 u28 u29 u30 u31 u32 u33 u34 u35 u36 u37 u38 u39 u40 u41 u42 u43 u44 u45 u46 u47 u48 u49 u50 u51 u52 u53 u54 u55 u56 u57 u58 u59 u60 u61 u62 u63 u64 u65 u66 u67 u68 u69 u70 u71 u72 u73 u74 u75 u76 u77 u78 u79 u80 u81 u82 u83 u84 u85 u86 u87 u88 u89 u90 u91 u92 u93 u94 u95 u96 u97 u98 u99 u100 u101 u102 u103 u104 u105 u106 u107 u108 u109 u110 u111 u112 u113 u114 u115 u116 u117 u118 u119 u120 u121 u122 u123 u124 u125 u126 u127 u128 u129 u130 u131 u132 u133 u134 u135 u136 u137 u138 u139 u140 u141 u142 u143 u144 u145 u146 u147 u148 u149 u150 u151 u152 u153 u154 u155 u156 u157 u158 u159 u160 u161 u162 u163 u164 u165 u166 u167 u168 u169 u170 u171 u172 u173 u174 u175 u176 u177 u178 u179 u180 u181 u182 u183 u184 u185 u186 u187 u188 u189 u190 u191 u192 u193 u194 u195 u196 u197 u198 u199 u200 u201 u202 u203 u204 u205 u206 u207 : Value} {b0 b1 b2 b3 b4 b5 b6 : Option Addr} {l0 l1 l2 l3 l4 l5 l6 : Nat} {p Q n : Nat} {z0 z1 z2 z3 : List Int} {z4 : List ByteArray} {z5 : List Int} {z6 : List Bool} {u W : World} (RS : Rs b0 b1 b2 b3 b4 b5 b6 l0 l1 l2 l3 l4 l5 l6 z0 z1 z2 z3 z4 z5 z6 u) (hn : n ≤ l0 ∧ n ≤ l1 ∧ n ≤ l2 ∧ n ≤ l3 ∧ n ≤ l4 ∧ n ≤ l5 ∧ n ≤ l6) {c0 : Nat} {D0 : Array Value} (h0 : L1 p Q n z0 z1 z2 z3 z4 z5 z6 u 0 none c0 [] D0 W)
    (Q' : Exit → Act → World → Prop) (hQ : ∀ (v14 v18 v19 v20 v95 v96 v97 v98 v99 v100 v101 v102 v103 v104 v105 v106 v107 v108 v109 v110 v111 v112 v113 v114 v115 v116 v117 v118 v119 v120 v121 v122 v123 v124 v125 v126 v127 v128 v129 v130 v131 v132 v133 v134 v135 v136 v137 v138 v139 : Value) (a : Option Addr) (c : Nat) (xs : List Value) (D : Array Value) (W' : World), L1 p Q n z0 z1 z2 z3 z4 z5 z6 u n a c xs D W' → Q' .normal ⟨#[.slice b0 l0 l0, .slice b1 l1 l1, .slice b2 l2 l2, .slice b3 l3 l3, .slice b4 l4 l4, .slice b5 l5 l5, .slice b6 l6 l6, u7, u8, u9, u10, u11, u12, u13, v14, .int .i64 (n : Int), .pointer (some ⟨p, 0, none⟩), .slice (some ⟨Q, 0, none⟩) n n, v18, v19, v20, u21, u22, u23, u24, u25, u26, u27, u28, u29, u30, u31, u32, u33, u34, u35, u36, u37, u38, u39, u40, u41, u42, u43, u44, u45, u46, u47, u48, u49, u50, u51, u52, u53, u54, u55, u56, u57, u58, u59, u60, u61, u62, u63, u64, u65, u66, u67, u68, u69, u70, u71, u72, u73, u74, u75, u76, u77, u78, u79, u80, u81, u82, u83, u84, u85, u86, u87, u88, u89, u90, u91, u92, u93, u94, v95, v96, v97, v98, v99, v100, v101, v102, v103, v104, v105, v106, v107, v108, v109, v110, v111, v112, v113, v114, v115, v116, v117, v118, v119, v120, v121, v122, v123, v124, v125, v126, v127, v128, v129, v130, v131, v132, v133, v134, v135, v136, v137, v138, v139, u140, u141, u142, u143, u144, u145, u146, u147, u148, u149, u150, u151, u152, u153, u154, u155, u156, u157, u158, u159, u160, u161, u162, u163, u164, u165, u166, u167, u168, u169, u170, u171, u172, u173, u174, u175, u176, u177, u178, u179, u180, u181, u182, u183, u184, u185, u186, u187, u188, u189, u190, u191, u192, u193, u194, u195, u196, u197, u198, u199, u200, u201, u202, u203, u204, u205, u206, u207], []⟩ W') :
    Code.wp Try.prog (theBlock 0) Q' ⟨#[.slice b0 l0 l0, .slice b1 l1 l1, .slice b2 l2 l2, .slice b3 l3 l3, .slice b4 l4 l4, .slice b5 l5 l5, .slice b6 l6 l6, u7, u8, u9, u10, u11, u12, u13, u14, .int .i64 (n : Int), .pointer (some ⟨p, 0, none⟩), .slice (some ⟨Q, 0, none⟩) n n, .int .i64 0, u19, u20, u21, u22, u23, u24, u25, u26, u27, u28, u29, u30, u31, u32, u33, u34, u35, u36, u37, u38, u39, u40, u41, u42, u43, u44, u45, u46, u47, u48, u49, u50, u51, u52, u53, u54, u55, u56, u57, u58, u59, u60, u61, u62, u63, u64, u65, u66, u67, u68, u69, u70, u71, u72, u73, u74, u75, u76, u77, u78, u79, u80, u81, u82, u83, u84, u85, u86, u87, u88, u89, u90, u91, u92, u93, u94, u95, u96, u97, u98, u99, u100, u101, u102, u103, u104, u105, u106, u107, u108, u109, u110, u111, u112, u113, u114, u115, u116, u117, u118, u119, u120, u121, u122, u123, u124, u125, u126, u127, u128, u129, u130, u131, u132, u133, u134, u135, u136, u137, u138, u139, u140, u141, u142, u143, u144, u145, u146, u147, u148, u149, u150, u151, u152, u153, u154, u155, u156, u157, u158, u159, u160, u161, u162, u163, u164, u165, u166, u167, u168, u169, u170, u171, u172, u173, u174, u175, u176, u177, u178, u179, u180, u181, u182, u183, u184, u185, u186, u187, u188, u189, u190, u191, u192, u193, u194, u195, u196, u197, u198, u199, u200, u201, u202, u203, u204, u205, u206, u207], []⟩ W := by
  obtain ⟨q0, q1, q2, q3, q4, q5, q6⟩ := hn
  obtain ⟨r0, s0, r1, s1, r2, s2, r3, s3, r4, s4, r5, s5, r6, s6⟩ := RS
  have H0 := Lib.hid h0
  have HQ := Lib.hid hQ
  have K0 := Lib.hid r0
  have K1 := Lib.hid r1
  have K2 := Lib.hid r2
  have K3 := Lib.hid r3
  have K4 := Lib.hid r4
  have K5 := Lib.hid r5
  have K6 := Lib.hid r6
  clear h0 hQ r0 r1 r2 r3 r4 r5 r6
  conv => arg 2; whnf
  go_wp2_with fail
  go_loopw [18] (fun s18 wr => ∃ (k : Nat) (a : Option Addr) (c : Nat) (xs : List Value) (D : Array Value), k ≤ n ∧ s18 = .int .i64 k ∧ Hid (L1 p Q n z0 z1 z2 z3 z4 z5 z6 u k a c xs D wr)) (fun s18 _ => n - (intOf s18).toNat)
  case atStart => exact ⟨0, none, c0, [], D0, Nat.zero_le _, rfl, H0⟩
  case round =>
    obtain ⟨k, a, c, xs, D, hk, rfl, HL⟩ := hrel
    by_cases hlt : k < n
    · have hkn : (k : Int) < (n : Int) := by omega
      obtain ⟨B0, O0, rfl, hB0, e0⟩ := K0.out.at (i := k) (by omega)
      have k0 : (k : Int) < (l0 : Int) := by omega
      obtain ⟨x0, hx0⟩ : ∃ x, z0.getD k 0 = x := ⟨_, rfl⟩
      rw [hx0] at e0
      have X0 := Lib.hid hx0
      clear hx0
      obtain ⟨B1, O1, rfl, hB1, e1⟩ := K1.out.at (i := k) (by omega)
      have k1 : (k : Int) < (l1 : Int) := by omega
      obtain ⟨x1, hx1⟩ : ∃ x, z1.getD k 0 = x := ⟨_, rfl⟩
      rw [hx1] at e1
      have X1 := Lib.hid hx1
      clear hx1
      obtain ⟨B2, O2, rfl, hB2, e2⟩ := K2.out.at (i := k) (by omega)
      have k2 : (k : Int) < (l2 : Int) := by omega
      obtain ⟨x2, hx2⟩ : ∃ x, z2.getD k 0 = x := ⟨_, rfl⟩
      rw [hx2] at e2
      have X2 := Lib.hid hx2
      clear hx2
      obtain ⟨B3, O3, rfl, hB3, e3⟩ := K3.out.at (i := k) (by omega)
      have k3 : (k : Int) < (l3 : Int) := by omega
      obtain ⟨x3, hx3⟩ : ∃ x, z3.getD k 0 = x := ⟨_, rfl⟩
      rw [hx3] at e3
      have X3 := Lib.hid hx3
      clear hx3
      obtain ⟨B4, O4, rfl, hB4, e4⟩ := K4.out.at (i := k) (by omega)
      have k4 : (k : Int) < (l4 : Int) := by omega
      obtain ⟨x4, hx4⟩ : ∃ x, z4.getD k ByteArray.empty = x := ⟨_, rfl⟩
      rw [hx4] at e4
      have X4 := Lib.hid hx4
      clear hx4
      obtain ⟨B5, O5, rfl, hB5, e5⟩ := K5.out.at (i := k) (by omega)
      have k5 : (k : Int) < (l5 : Int) := by omega
      obtain ⟨x5, hx5⟩ : ∃ x, z5.getD k 0 = x := ⟨_, rfl⟩
      rw [hx5] at e5
      have X5 := Lib.hid hx5
      clear hx5
      obtain ⟨B6, O6, rfl, hB6, e6⟩ := K6.out.at (i := k) (by omega)
      have k6 : (k : Int) < (l6 : Int) := by omega
      obtain ⟨x6, hx6⟩ : ∃ x, z6.getD k false = x := ⟨_, rfl⟩
      rw [hx6] at e6
      have X6 := Lib.hid hx6
      clear hx6
      have d0 : wr.cell? ⟨Q, k, none⟩ = some (.pointer none) := (HL.out.hD.cell k).trans (HL.out.hi k (Nat.le_refl _) hlt)
      have d1 := HL.out.hD.free k
      have d2 := HL.out.hD.lt
      have C6 := bcell HL.out.bel e6
      cases x6
      · go_upto_region 34 with fail
        have M := Lib.hid (HL.out.mid (q := none))
        clear d0 d1 d2 C6 HL
        generalize wr.setCell ⟨Q, k, none⟩ (.pointer none) = W2 at *
        have C0 := bcell M.out.bel e0
        have C1 := bcell M.out.bel e1
        have C2 := bcell M.out.bel e2
        have C3 := bcell M.out.bel e3
        have C4 := bcell M.out.bel e4
        have C5 := bcell M.out.bel e5
        go_still_tail 26, (by kernel_rfl)
        change wpList _ _ _ _ _ W2.drew
        have M3 := Lib.hid (M.out.kept (Below.refl _ _).drew)
        clear C0 C1 C2 C3 C4 C5 M
        generalize W2.drew = W3 at *
        go_wp2_with (first | (go_at_call 13; (with_reducible refine (add13 _ _ _ _ _ _ _ _ _ _ _ _ _ _ M3.out.ha (by omega)).mono ?_); rintro e w4 ⟨rfl, ⟨g, c', hA⟩, hS, hB⟩; rw [← X0.out, ← X1.out, ← X2.out, ← X3.out, ← X4.out, ← X5.out] at hA; have N := Lib.hid (M3.out.next hlt hA hS hB); clear hA hS hB))
        go_roundw
        case rel => exact ⟨k + 1, _, _, _, _, by omega, by go_num, N⟩
        case measure => simp [intOf]; omega
      · go_upto_region 34 with (first | (go_at_call 12; (with_reducible refine (new12 _).mono ?_); rintro e w1 ⟨rfl, o, rfl⟩))
        have M := Lib.hid ((HL.out.mid (q := some ⟨wr.heap.size, 0, none⟩)).kept ((Below.refl _ _).alloc (Nat.le_refl _) o))
        clear d0 d1 d2 C6 HL
        generalize (wr.setCell ⟨Q, k, none⟩ (.pointer (some ⟨wr.heap.size, 0, none⟩))).alloc o = W2 at *
        generalize (some ⟨wr.heap.size, 0, none⟩ : Option Addr) = qq at *
        have C0 := bcell M.out.bel e0
        have C1 := bcell M.out.bel e1
        have C2 := bcell M.out.bel e2
        have C3 := bcell M.out.bel e3
        have C4 := bcell M.out.bel e4
        have C5 := bcell M.out.bel e5
        go_still_tail 26, (by kernel_rfl)
        change wpList _ _ _ _ _ W2.drew
        have M3 := Lib.hid (M.out.kept (Below.refl _ _).drew)
        clear C0 C1 C2 C3 C4 C5 M
        generalize W2.drew = W3 at *
        go_wp2_with (first | (go_at_call 13; (with_reducible refine (add13 _ _ _ _ _ _ _ _ _ _ _ _ _ _ M3.out.ha (by omega)).mono ?_); rintro e w4 ⟨rfl, ⟨g, c', hA⟩, hS, hB⟩; rw [← X0.out, ← X1.out, ← X2.out, ← X3.out, ← X4.out, ← X5.out] at hA; have N := Lib.hid (M3.out.next hlt hA hS hB); clear hA hS hB))
        go_roundw
        case rel => exact ⟨k + 1, _, _, _, _, by omega, by go_num, N⟩
        case measure => simp [intOf]; omega
    · have e : k = n := by omega
      subst e
      have H := HL
      clear HL
      go_wp2_with fail
      exact HQ.out _ _ _ _ _ _ _ _ _ _ _ _ _ _ _ _ _ _ _ _ _ _ _ _ _ _ _ _ _ _ _ _ _ _ _ _ _ _ _ _ _ _ _ _ _ _ _ _ _ _ _ _ _ _ H.out
end Go.Proofs.Ytbjebcbdednijaa.add
