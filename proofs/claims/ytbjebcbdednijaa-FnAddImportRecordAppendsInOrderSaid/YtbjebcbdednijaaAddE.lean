/- The loop that reads the records back. No conditions beyond the hypotheses. -/
import Derived.Test.YtbjebcbdednijaaLib
import Derived.Test.YtbjebcbdednijaaAddD
import Derived.Deep.DeepCutAuto
import Derived.Deep.CutBlock
import Derived.StillTailTactics
import Derived.Deep.LoopGhost
import Derived.Deep.QuietTactic
import Derived.BigQuiet
import Derived.Lib.Builder
namespace Go.Proofs.Ytbjebcbdednijaa.add
open Go.ChangeShapes Go.WideShapes Go.ChangeAt Go.RowKit Go.Mine
set_option linter.unusedVariables false
set_option linter.unusedSimpArgs false
set_option maxRecDepth 100000

theorem quiet_add_same {P : Program} {f : FuncId} {args : Array Value} {w : World} {a n : Nat} {v : Value} (h : Calls P f args (w.drewN (a + n)) fun e w' => e = .returned v ∧ w' = w.drewN (a + n)) :
    Calls P f args (w.drewN (a + n)) fun e w'' => e = .returned v ∧ ∃ m, w'' = w.drewN (a + m) := h.mono fun _ _ ⟨he, hm⟩ => ⟨he, n, hm⟩
theorem add0 (g i : Nat) : (⟨g, 0, none⟩ : Addr).add i = ⟨g, i, none⟩ := by unfold Addr.add; split <;> simp_all
theorem neq_ptr (q : Option Addr) (w : World) : (binOp .neq 37 (.pointer q) (.pointer q)).run Try.prog w = .ok (.bool false) w := by
  cases q with
  | none => kernel_rfl
  | some a =>
    obtain ⟨j, hj⟩ : ∃ j, Try.prog.info? 179 = some j := Option.isSome_iff_exists.1 (by kernel_rfl)
    exact Lib.run_neq_ptr_same w a Try.underlying37 hj
set_option maxHeartbeats 16000000 in
theorem loop2 {u7 u8 u9 u10 u11 u12 u13 u14 u18 u19 u20 u22 u23 u24 u25 u26 u27 u28 u29 u30 u31 u32 u33 u34 u35 u36 u37 u38 u39 u40 u41 u42 u43 u44 u45 u46 u47 u48 u49 u50 u51 u52 u53 u54 u55 u56 u57 u58 u59 u60 u61 u62 u63 u64 u65 u66 u67 u68 u69 u70 u71 u72 u73 u74 u75 u76 u77 u78 u79 u80 u81 u82 u83 u84 u85 u86 u87 u88 u89 u90 u91 u92 u93 u94 u95 u96 u97 u98 u99 u100 u101 u102 u103 u104 u105 u106 u107 u108 u109 u110 u111 u112 u113 u114 u115 u116 u117 u118 u119 u120 u121 u122 u123 u124 u125 u126 u127 u128 u129 u130 u131 u132 u133 u134 u135 u136 u137 u138 u139 u140 u141 u142 u143 u144 u145 u146 u147 u148 u149 u150 u151 u152 u153 u154 u155 u156 u157 u158 u159 u160 u161 u162 u163 u164 u165 u166 u167 u168 u169 u170 u171 u172 u173 u174 u175 u176 u177 u178 u179 u180 u181 u182 u183 u184 u185 u186 u187 u188 u189 u190 u191 u192 u193 u194 u195 u196 u197 u198 u199 u200 u201 u202 u203 u204 u205 u206 u207 : Value} {b0 b1 b2 b3 b4 b5 b6 : Option Addr} {l0 l1 l2 l3 l4 l5 l6 : Nat} {p Q n : Nat} {z0 z1 z2 z3 : List Int} {z4 : List ByteArray} {z5 : List Int} {z6 : List Bool} {u W : World} (RS : Rs b0 b1 b2 b3 b4 b5 b6 l0 l1 l2 l3 l4 l5 l6 z0 z1 z2 z3 z4 z5 z6 u) (hn : n ≤ l0 ∧ n ≤ l1 ∧ n ≤ l2 ∧ n ≤ l3 ∧ n ≤ l4 ∧ n ≤ l5 ∧ n ≤ l6) {a : Option Addr} {c : Nat} {xs : List Value} {D : Array Value} (h0 : L1 p Q n z0 z1 z2 z3 z4 z5 z6 u n a c xs D W)
    (Q' : Exit → Act → World → Prop) (hQ : ∀ (v14 v21 v144 v145 v146 v147 v148 v149 v150 v151 v152 v153 v154 v155 v156 v157 v158 v159 v160 v161 v162 v163 v164 v165 v166 v167 v168 v169 v170 v171 v172 v173 v174 v175 v176 v177 v178 v179 v180 v181 v182 v183 v184 v185 v186 v187 v188 v189 v190 v191 v192 v193 v194 v195 v196 v197 v198 v199 v200 v201 v202 v203 v204 v205 v206 v207 : Value) (m : Nat), Q' .normal ⟨#[.slice b0 l0 l0, .slice b1 l1 l1, .slice b2 l2 l2, .slice b3 l3 l3, .slice b4 l4 l4, .slice b5 l5 l5, .slice b6 l6 l6, u7, u8, u9, u10, u11, u12, u13, v14, .int .i64 (n : Int), .pointer (some ⟨p, 0, none⟩), .slice (some ⟨Q, 0, none⟩) n n, u18, u19, u20, v21, u22, u23, u24, u25, u26, u27, u28, u29, u30, u31, u32, u33, u34, u35, u36, u37, u38, u39, u40, u41, u42, u43, u44, u45, u46, u47, u48, u49, u50, u51, u52, u53, u54, u55, u56, u57, u58, u59, u60, u61, u62, u63, u64, u65, u66, u67, u68, u69, u70, u71, u72, u73, u74, u75, u76, u77, u78, u79, u80, u81, u82, u83, u84, u85, u86, u87, u88, u89, u90, u91, u92, u93, u94, u95, u96, u97, u98, u99, u100, u101, u102, u103, u104, u105, u106, u107, u108, u109, u110, u111, u112, u113, u114, u115, u116, u117, u118, u119, u120, u121, u122, u123, u124, u125, u126, u127, u128, u129, u130, u131, u132, u133, u134, u135, u136, u137, u138, u139, u140, u141, u142, u143, v144, v145, v146, v147, v148, v149, v150, v151, v152, v153, v154, v155, v156, v157, v158, v159, v160, v161, v162, v163, v164, v165, v166, v167, v168, v169, v170, v171, v172, v173, v174, v175, v176, v177, v178, v179, v180, v181, v182, v183, v184, v185, v186, v187, v188, v189, v190, v191, v192, v193, v194, v195, v196, v197, v198, v199, v200, v201, v202, v203, v204, v205, v206, v207], []⟩ (W.drewN m)) :
    Code.wp Try.prog (theBlock 1) Q' ⟨#[.slice b0 l0 l0, .slice b1 l1 l1, .slice b2 l2 l2, .slice b3 l3 l3, .slice b4 l4 l4, .slice b5 l5 l5, .slice b6 l6 l6, u7, u8, u9, u10, u11, u12, u13, u14, .int .i64 (n : Int), .pointer (some ⟨p, 0, none⟩), .slice (some ⟨Q, 0, none⟩) n n, u18, u19, u20, .int .i64 0, u22, u23, u24, u25, u26, u27, u28, u29, u30, u31, u32, u33, u34, u35, u36, u37, u38, u39, u40, u41, u42, u43, u44, u45, u46, u47, u48, u49, u50, u51, u52, u53, u54, u55, u56, u57, u58, u59, u60, u61, u62, u63, u64, u65, u66, u67, u68, u69, u70, u71, u72, u73, u74, u75, u76, u77, u78, u79, u80, u81, u82, u83, u84, u85, u86, u87, u88, u89, u90, u91, u92, u93, u94, u95, u96, u97, u98, u99, u100, u101, u102, u103, u104, u105, u106, u107, u108, u109, u110, u111, u112, u113, u114, u115, u116, u117, u118, u119, u120, u121, u122, u123, u124, u125, u126, u127, u128, u129, u130, u131, u132, u133, u134, u135, u136, u137, u138, u139, u140, u141, u142, u143, u144, u145, u146, u147, u148, u149, u150, u151, u152, u153, u154, u155, u156, u157, u158, u159, u160, u161, u162, u163, u164, u165, u166, u167, u168, u169, u170, u171, u172, u173, u174, u175, u176, u177, u178, u179, u180, u181, u182, u183, u184, u185, u186, u187, u188, u189, u190, u191, u192, u193, u194, u195, u196, u197, u198, u199, u200, u201, u202, u203, u204, u205, u206, u207], []⟩ W := by
  obtain ⟨q0, q1, q2, q3, q4, q5, q6⟩ := hn
  obtain ⟨r0, s0, r1, s1, r2, s2, r3, s3, r4, s4, r5, s5, r6, s6⟩ := RS
  have hnb : n ≤ 1048576 := by omega
  obtain ⟨hA, hD, hDn, hx, hlo, _, hbel, hge⟩ := h0
  have HQ := Lib.hid hQ
  have HA := Lib.hid hA
  have HD := Lib.hid hD
  have HLO := Lib.hid hlo
  have BL := Lib.hid hbel
  have K0 := Lib.hid r0
  have K1 := Lib.hid r1
  have K2 := Lib.hid r2
  have K3 := Lib.hid r3
  have K4 := Lib.hid r4
  have K5 := Lib.hid r5
  have K6 := Lib.hid r6
  clear hQ r0 r1 r2 r3 r4 r5 r6 hA hD hlo hbel
  conv => arg 2; whnf
  go_wp2_with fail
  go_loopw [21] (fun s21 wr => ∃ k m : Nat, k ≤ n ∧ s21 = .int .i64 k ∧ wr = W.drewN m) (fun s21 _ => n - (intOf s21).toNat)
  case atStart => exact ⟨0, 0, Nat.zero_le _, rfl, rfl⟩
  case round =>
    obtain ⟨k, m, hk, rfl, rfl⟩ := hrel
    by_cases hlt : k < n
    · have hkn : (k : Int) < (n : Int) := by omega
      obtain ⟨qk, hqD, hR⟩ := HLO.out k hlt
      obtain ⟨C, hb169, h169⟩ := HA.out.blk
      obtain ⟨g, rfl⟩ : ∃ g, a = some ⟨g, 0, none⟩ := by
        rcases HA.out.own.2 with ⟨e1, _⟩ | ⟨g, cap, cur, e1, _⟩
        · injection e1 with _ e2 _; omega
        · exact ⟨g, by injection e1⟩
      have hp : W.cell? ⟨p, 169, none⟩ = some (.slice (some ⟨g, 0, none⟩) n c) := (hb169.cell 169).trans h169
      have hcs : ∀ i v, xs[i]? = some v → W.cell? ⟨g, i, none⟩ = some v := fun i v hv => by
        have h := HA.out.own.cells (g := g) rfl i v hv
        rw [add0] at h
        exact h
      have g0 := bounds_u8 (K0.out.2.2.2.1 (z0.getD k 0) (by have : k < z0.length := by rw [K0.out.1]; omega
                                                             simp [this]))
      have g1 := bounds_u8 (K1.out.2.2.2.1 (z1.getD k 0) (by have : k < z1.length := by rw [K1.out.1]; omega
                                                             simp [this]))
      have g5 := bounds_u32 (K5.out.2.2.2.1 (z5.getD k 0) (by have : k < z5.length := by rw [K5.out.1]; omega
                                                              simp [this]))
      have D0 : W.cell? ⟨Q, k, none⟩ = some (.pointer qk) := (HD.out.cell k).trans hqD
      have hpp : ∀ w, (binOp .neq 37 (.pointer qk) (.pointer qk)).run Try.prog w = .ok (.bool false) w := fun w => neq_ptr qk w
      obtain ⟨B0, O0, rfl, hB0, e0⟩ := K0.out.at (i := k) (by omega)
      have k0 : (k : Int) < (l0 : Int) := by omega
      have C0 := bcell BL.out e0
      obtain ⟨B1, O1, rfl, hB1, e1⟩ := K1.out.at (i := k) (by omega)
      have k1 : (k : Int) < (l1 : Int) := by omega
      have C1 := bcell BL.out e1
      obtain ⟨B2, O2, rfl, hB2, e2⟩ := K2.out.at (i := k) (by omega)
      have k2 : (k : Int) < (l2 : Int) := by omega
      have C2 := bcell BL.out e2
      obtain ⟨B3, O3, rfl, hB3, e3⟩ := K3.out.at (i := k) (by omega)
      have k3 : (k : Int) < (l3 : Int) := by omega
      have C3 := bcell BL.out e3
      obtain ⟨B4, O4, rfl, hB4, e4⟩ := K4.out.at (i := k) (by omega)
      have k4 : (k : Int) < (l4 : Int) := by omega
      have C4 := bcell BL.out e4
      obtain ⟨B5, O5, rfl, hB5, e5⟩ := K5.out.at (i := k) (by omega)
      have k5 : (k : Int) < (l5 : Int) := by omega
      have C5 := bcell BL.out e5
      have H15 : Hid (∀ m, Calls Try.prog 15 #[.pointer (some ⟨p, 0, none⟩), .int .i64 k] (W.drewN m) fun e w' => e = .returned (.int .u8 (z0.getD k 0)) ∧ w' = W.drewN m) := Lib.hid fun m => (kind15 p g n c k _ _ (bcell (below_drewN' m) hp) hlt hnb (bcell (below_drewN' m) (hcs _ _ (hR 14 _ rfl)))).mono fun _ _ h => ⟨h.1, h.2.symm⟩
      have H17 : Hid (∀ m, Calls Try.prog 17 #[.pointer (some ⟨p, 0, none⟩), .int .i64 k] (W.drewN m) fun e w' => e = .returned (.int .u8 (z1.getD k 0)) ∧ w' = W.drewN m) := Lib.hid fun m => (phase17 p g n c k _ _ (bcell (below_drewN' m) hp) hlt hnb (bcell (below_drewN' m) (hcs _ _ (hR 13 _ rfl)))).mono fun _ _ h => ⟨h.1, h.2.symm⟩
      have H19 : Hid (∀ m, Calls Try.prog 19 #[.pointer (some ⟨p, 0, none⟩), .int .i64 k] (W.drewN m) fun e w' => e = .returned (.int .i32 (z2.getD k 0)) ∧ w' = W.drewN m) := Lib.hid fun m => (start19 p g n c k _ _ (bcell (below_drewN' m) hp) hlt hnb (bcell (below_drewN' m) (hcs _ _ (hR 7 _ rfl)))).mono fun _ _ h => ⟨h.1, h.2.symm⟩
      have H20 : Hid (∀ m, Calls Try.prog 20 #[.pointer (some ⟨p, 0, none⟩), .int .i64 k] (W.drewN m) fun e w' => e = .returned (.int .i32 (z3.getD k 0)) ∧ w' = W.drewN m) := Lib.hid fun m => (len20 p g n c k _ _ (bcell (below_drewN' m) hp) hlt hnb (bcell (below_drewN' m) (hcs _ _ (hR 8 _ rfl)))).mono fun _ _ h => ⟨h.1, h.2.symm⟩
      have H21 : Hid (∀ m, Calls Try.prog 21 #[.pointer (some ⟨p, 0, none⟩), .int .i64 k] (W.drewN m) fun e w' => e = .returned (.string (z4.getD k ByteArray.empty)) ∧ w' = W.drewN m) := Lib.hid fun m => (text21 p g n c k _ _ (bcell (below_drewN' m) hp) hlt hnb (bcell (below_drewN' m) (hcs _ _ (hR 2 _ rfl)))).mono fun _ _ h => ⟨h.1, h.2.symm⟩
      have H24 : Hid (∀ m, Calls Try.prog 24 #[.pointer (some ⟨p, 0, none⟩), .int .i64 k] (W.drewN m) fun e w' => e = .returned (.pointer qk) ∧ w' = W.drewN m) := Lib.hid fun m => (assert24 p g n c k _ _ (bcell (below_drewN' m) hp) hlt hnb (bcell (below_drewN' m) (hcs _ _ (hR 0 _ rfl)))).mono fun _ _ h => ⟨h.1, h.2.symm⟩
      have H22 : Hid (∀ m, Calls Try.prog 22 #[.pointer (some ⟨p, 0, none⟩), .int .i64 k] (W.drewN m) fun e w' => e = .returned (.int .u32 (IntKind.u16.wrap (z5.getD k 0))) ∧ w' = W.drewN m) := Lib.hid fun m => (flags22 p g n c k _ (wrap16 _).1 (wrap16 _).2 _ (bcell (below_drewN' m) hp) hlt hnb (bcell (below_drewN' m) (hcs _ _ (hR 12 _ rfl)))).mono fun _ _ h => ⟨h.1, h.2.symm⟩
      have H16 : Hid (∀ m, Calls Try.prog 16 #[.int .u8 (z0.getD k 0)] (W.drewN m) fun e w' => e = .returned (.int .u8 (z0.getD k 0)) ∧ w' = W.drewN m) := Lib.hid fun m => (kst16 _ g0.1 g0.2 _).mono fun _ _ h => ⟨h.1, h.2.symm⟩
      have H18 : Hid (∀ m, Calls Try.prog 18 #[.int .u8 (z1.getD k 0)] (W.drewN m) fun e w' => e = .returned (.int .u8 (z1.getD k 0)) ∧ w' = W.drewN m) := Lib.hid fun m => (pst18 _ g1.1 g1.2 _).mono fun _ _ h => ⟨h.1, h.2.symm⟩
      have H23 : Hid (∀ m, Calls Try.prog 23 #[.int .u32 (z5.getD k 0)] (W.drewN m) fun e w' => e = .returned (.int .u32 (IntKind.u16.wrap (z5.getD k 0))) ∧ w' = W.drewN m) := Lib.hid fun m => (fst23 _ g5.1 g5.2 _).mono fun _ _ h => ⟨h.1, h.2.symm⟩
      generalize z0.getD k 0 = x0 at *
      generalize z1.getD k 0 = x1 at *
      generalize z2.getD k 0 = x2 at *
      generalize z3.getD k 0 = x3 at *
      generalize z4.getD k ByteArray.empty = x4 at *
      generalize IntKind.u16.wrap (z5.getD k 0) = y5 at *
      generalize z5.getD k 0 = x5 at *
      clear hqD hR hb169 h169 hp hcs e0 e1 e2 e3 e4 e5
      go_wp2_with fail
      go_quiet ((first | (go_at_call 15; exact quiet_add_same (H15.out _)) | (go_at_call 16; exact quiet_add_same (H16.out _))))
      go_wp2_with fail
      go_quiet ((first | (go_at_call 17; exact quiet_add_same (H17.out _)) | (go_at_call 18; exact quiet_add_same (H18.out _))))
      go_wp2_with fail
      go_quiet ((go_at_call 19; exact quiet_add_same (H19.out _)))
      go_wp2_with fail
      go_quiet ((go_at_call 20; exact quiet_add_same (H20.out _)))
      go_wp2_with fail
      go_quiet ((go_at_call 21; exact quiet_add_same (H21.out _)))
      go_wp2_with fail
      go_quiet ((first | (go_at_call 22; exact quiet_add_same (H22.out _)) | (go_at_call 23; exact quiet_add_same (H23.out _))))
      go_wp2_with fail
      go_quiet ((go_at_call 24; exact quiet_add_same (H24.out _)))
      go_wp2_with fail
      go_roundw
      case rel => exact ⟨k + 1, _, by omega, by go_num, rfl⟩
      case measure => simp [intOf]; omega
    · have e : k = n := by omega
      subst e
      go_wp2_with fail
      exact HQ.out _ _ _ _ _ _ _ _ _ _ _ _ _ _ _ _ _ _ _ _ _ _ _ _ _ _ _ _ _ _ _ _ _ _ _ _ _ _ _ _ _ _ _ _ _ _ _ _ _ _ _ _ _ _ _ _ _ _ _ _ _ _ _ _ _ _ _
end Go.Proofs.Ytbjebcbdednijaa.add
