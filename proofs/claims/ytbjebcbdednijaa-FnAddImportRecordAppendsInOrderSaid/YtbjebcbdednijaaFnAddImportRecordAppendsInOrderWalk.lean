/- The walk of the law 'FnAddImportRecordAppendsInOrder': it returns true and leaves what was there as it was. No conditions. -/
import Derived.Test.YtbjebcbdednijaaRows
import Derived.Test.YtbjebcbdednijaaLib
import Derived.Test.YtbjebcbdednijaaClones
import Derived.Test.YtbjebcbdednijaaAddE
import Derived.Deep.DeepCutAuto
import Derived.Deep.CutBlock
import Derived.StillTailTactics
import Derived.Deep.LoopGhost
import Derived.Deep.QuietTactic
import Derived.BigQuiet
import Derived.Lib.Builder
namespace Go.Proofs.Ytbjebcbdednijaa.fnAddImportRecordAppendsInOrder
open Go.ChangeShapes Go.WideShapes Go.ChangeAt Go.RowKit Go.Mine add
set_option linter.unusedVariables false
set_option linter.unusedSimpArgs false
set_option maxRecDepth 100000

theorem l1_start (u : World) (m : Nat) (z0 z1 z2 z3 : List Int) (z4 : List ByteArray) (z5 : List Int) (z6 : List Bool) :
    L1 u.heap.size (u.heap.size + 1) m z0 z1 z2 z3 z4 z5 z6 u 0 none 0 [] (madeCells #[.pointer none] m) ((u.alloc (.cells parC 175)).alloc (.cells (madeCells #[.pointer none] m) 37)) := by
  have hs : (madeCells #[.pointer none] m).toList = List.replicate m (.pointer none) := toList_madeCells_one _ _
  refine ⟨(as_start u u.heap.size (Nat.le_refl _)).kept ((Below.refl _ _).alloc (Nat.le_refl _) _), blk_new' _ (by simp), by rw [← Array.length_toList, hs, List.length_replicate], rfl, fun j hj => absurd hj (Nat.not_lt_zero _), fun j _ h2 => ?_, ((Below.refl _ _).alloc (Nat.le_refl _) _).alloc (by simp) _, Nat.le_succ _⟩
  rw [← Array.getElem?_toList, hs, List.getElem?_replicate, if_pos h2]
def Post (w : World) (e : Ending) (w' : World) : Prop := e = .returned (.bool true) ∧ Below w.heap.size w w'
set_option maxHeartbeats 16000000 in
theorem walk (a0 : Option Addr) (len0 cap0 : Nat) (z0 : List Int) (a1 : Option Addr) (len1 cap1 : Nat) (z1 : List Int) (a2 : Option Addr) (len2 cap2 : Nat) (z2 : List Int) (a3 : Option Addr) (len3 cap3 : Nat) (z3 : List Int) (a4 : Option Addr) (len4 cap4 : Nat) (z4 : List ByteArray) (a5 : Option Addr) (len5 cap5 : Nat) (z5 : List Int) (a6 : Option Addr) (len6 cap6 : Nat) (z6 : List Bool) (w : World) (w0 : IntRow .u8 w a0 len0 cap0 z0) (w1 : IntRow .u8 w a1 len1 cap1 z1) (w2 : IntRow .i32 w a2 len2 cap2 z2) (w3 : IntRow .i32 w a3 len3 cap3 z3) (w4 : StrRow w a4 len4 cap4 z4) (w5 : IntRow .u32 w a5 len5 cap5 z5) (w6 : BoolRow w a6 len6 cap6 z6) :
    Calls Try.prog 3 #[.slice a0 len0 cap0, .slice a1 len1 cap1, .slice a2 len2 cap2, .slice a3 len3 cap3, .slice a4 len4 cap4, .slice a5 len5 cap5, .slice a6 len6 cap6] w (Post w) := by
  have m0 : len0 ≤ 9223372036854775807 := by have := w0.2.1; have := w0.2.2.1; unfold maxLen at this; omega
  have m1 : len1 ≤ 9223372036854775807 := by have := w1.2.1; have := w1.2.2.1; unfold maxLen at this; omega
  have m2 : len2 ≤ 9223372036854775807 := by have := w2.2.1; have := w2.2.2.1; unfold maxLen at this; omega
  have m3 : len3 ≤ 9223372036854775807 := by have := w3.2.1; have := w3.2.2.1; unfold maxLen at this; omega
  have m4 : len4 ≤ 9223372036854775807 := by have := w4.2.1; have := w4.2.2.1; unfold maxLen at this; omega
  have m5 : len5 ≤ 9223372036854775807 := by have := w5.2.1; have := w5.2.2.1; unfold maxLen at this; omega
  have m6 : len6 ≤ 9223372036854775807 := by have := w6.2.1; have := w6.2.2.1; unfold maxLen at this; omega
  have B4 := Lib.hid (bytes4 a0 a1 a2 a3 a4 a5 a6 len0 len1 len2 len3 len4 len5 len6 cap0 cap1 cap2 cap3 cap4 cap5 cap6 z4 w w4 m0 m1 m2 m3 m4 m5 m6)
  have T5 := Lib.hid (fun hs => total5 a0 a1 a2 a3 a4 a5 a6 len0 len1 len2 len3 len4 len5 len6 cap0 cap1 cap2 cap3 cap4 cap5 cap6 z4 w w4 hs)
  have R0 := Lib.hid w0
  have R1 := Lib.hid w1
  have R2 := Lib.hid w2
  have R3 := Lib.hid w3
  have R4 := Lib.hid w4
  have R5 := Lib.hid w5
  have R6 := Lib.hid w6
  clear w0 w1 w2 w3 w4 w5 w6
  go_enter Try.func3, Try.ntmps3
  go_wp2_with fail
  refine B4.out.mono ?_
  rintro e u ⟨b, rfl, hb, rfl⟩
  cases b
  · clear hb
    go_wp2_with fail
    go_ret
    exact ⟨rfl, Below.refl _ _⟩
  have HS := Lib.hid (hb rfl)
  clear hb
  go_wp2_with fail
  refine (T5.out HS.out).mono ?_
  rintro e u ⟨⟨t, rfl⟩, rfl⟩
  by_cases ht : t ≤ 1048576
  case neg =>
    go_wp2_with fail
    go_ret
    exact ⟨rfl, Below.refl _ _⟩
  have n0 : len0 ≤ 1048576 := HS.out.h0
  have n1 : len1 ≤ 1048576 := HS.out.h1
  have n2 : len2 ≤ 1048576 := HS.out.h2
  have n3 : len3 ≤ 1048576 := HS.out.h3
  have n4 : len4 ≤ 1048576 := HS.out.h4
  have n5 : len5 ≤ 1048576 := HS.out.h5
  have n6 : len6 ≤ 1048576 := HS.out.h6
  clear m0 m1 m2 m3 m4 m5 m6 B4 T5
  go_wp2_with fail
  refine (clone6 _ _ _ z0 _ R0.out (by omega)).mono ?_
  rintro e u0 ⟨b0, rfl, rb, y1, y2, hbb⟩
  have P0 := Lib.hid rb
  have Q := Lib.hid (R1.out.below hbb)
  clear R1
  have R1 := Q
  clear Q
  have Q := Lib.hid (R2.out.below hbb)
  clear R2
  have R2 := Q
  clear Q
  have Q := Lib.hid (R3.out.below hbb)
  clear R3
  have R3 := Q
  clear Q
  have Q := Lib.hid (R4.out.below hbb)
  clear R4
  have R4 := Q
  clear Q
  have Q := Lib.hid (R5.out.below hbb)
  clear R5
  have R5 := Q
  clear Q
  have Q := Lib.hid (R6.out.below hbb)
  clear R6
  have R6 := Q
  clear Q
  have BB := Lib.hid hbb
  clear rb y1 y2 hbb R0
  go_wp2_with fail
  refine (clone6 _ _ _ z1 _ R1.out (by omega)).mono ?_
  rintro e u1 ⟨b1, rfl, rb, y1, y2, hbb⟩
  have P1 := Lib.hid rb
  have Q := Lib.hid (P0.out.below hbb)
  clear P0
  have P0 := Q
  clear Q
  have Q := Lib.hid (R2.out.below hbb)
  clear R2
  have R2 := Q
  clear Q
  have Q := Lib.hid (R3.out.below hbb)
  clear R3
  have R3 := Q
  clear Q
  have Q := Lib.hid (R4.out.below hbb)
  clear R4
  have R4 := Q
  clear Q
  have Q := Lib.hid (R5.out.below hbb)
  clear R5
  have R5 := Q
  clear Q
  have Q := Lib.hid (R6.out.below hbb)
  clear R6
  have R6 := Q
  clear Q
  have Q := Lib.hid (below2 BB.out hbb)
  clear BB
  have BB := Q
  clear Q
  clear rb y1 y2 hbb R1
  go_wp2_with fail
  refine (clone7 _ _ _ z2 _ R2.out (by omega)).mono ?_
  rintro e u2 ⟨b2, rfl, rb, y1, y2, hbb⟩
  have P2 := Lib.hid rb
  have Q := Lib.hid (P0.out.below hbb)
  clear P0
  have P0 := Q
  clear Q
  have Q := Lib.hid (P1.out.below hbb)
  clear P1
  have P1 := Q
  clear Q
  have Q := Lib.hid (R3.out.below hbb)
  clear R3
  have R3 := Q
  clear Q
  have Q := Lib.hid (R4.out.below hbb)
  clear R4
  have R4 := Q
  clear Q
  have Q := Lib.hid (R5.out.below hbb)
  clear R5
  have R5 := Q
  clear Q
  have Q := Lib.hid (R6.out.below hbb)
  clear R6
  have R6 := Q
  clear Q
  have Q := Lib.hid (below2 BB.out hbb)
  clear BB
  have BB := Q
  clear Q
  clear rb y1 y2 hbb R2
  go_wp2_with fail
  refine (clone7 _ _ _ z3 _ R3.out (by omega)).mono ?_
  rintro e u3 ⟨b3, rfl, rb, y1, y2, hbb⟩
  have P3 := Lib.hid rb
  have Q := Lib.hid (P0.out.below hbb)
  clear P0
  have P0 := Q
  clear Q
  have Q := Lib.hid (P1.out.below hbb)
  clear P1
  have P1 := Q
  clear Q
  have Q := Lib.hid (P2.out.below hbb)
  clear P2
  have P2 := Q
  clear Q
  have Q := Lib.hid (R4.out.below hbb)
  clear R4
  have R4 := Q
  clear Q
  have Q := Lib.hid (R5.out.below hbb)
  clear R5
  have R5 := Q
  clear Q
  have Q := Lib.hid (R6.out.below hbb)
  clear R6
  have R6 := Q
  clear Q
  have Q := Lib.hid (below2 BB.out hbb)
  clear BB
  have BB := Q
  clear Q
  clear rb y1 y2 hbb R3
  go_wp2_with fail
  refine (clone8 _ _ _ z4 _ R4.out (by omega)).mono ?_
  rintro e u4 ⟨b4, rfl, rb, y1, y2, hbb⟩
  have P4 := Lib.hid rb
  have Q := Lib.hid (P0.out.below hbb)
  clear P0
  have P0 := Q
  clear Q
  have Q := Lib.hid (P1.out.below hbb)
  clear P1
  have P1 := Q
  clear Q
  have Q := Lib.hid (P2.out.below hbb)
  clear P2
  have P2 := Q
  clear Q
  have Q := Lib.hid (P3.out.below hbb)
  clear P3
  have P3 := Q
  clear Q
  have Q := Lib.hid (R5.out.below hbb)
  clear R5
  have R5 := Q
  clear Q
  have Q := Lib.hid (R6.out.below hbb)
  clear R6
  have R6 := Q
  clear Q
  have Q := Lib.hid (below2 BB.out hbb)
  clear BB
  have BB := Q
  clear Q
  clear rb y1 y2 hbb R4
  go_wp2_with fail
  refine (clone9 _ _ _ z5 _ R5.out (by omega)).mono ?_
  rintro e u5 ⟨b5, rfl, rb, y1, y2, hbb⟩
  have P5 := Lib.hid rb
  have Q := Lib.hid (P0.out.below hbb)
  clear P0
  have P0 := Q
  clear Q
  have Q := Lib.hid (P1.out.below hbb)
  clear P1
  have P1 := Q
  clear Q
  have Q := Lib.hid (P2.out.below hbb)
  clear P2
  have P2 := Q
  clear Q
  have Q := Lib.hid (P3.out.below hbb)
  clear P3
  have P3 := Q
  clear Q
  have Q := Lib.hid (P4.out.below hbb)
  clear P4
  have P4 := Q
  clear Q
  have Q := Lib.hid (R6.out.below hbb)
  clear R6
  have R6 := Q
  clear Q
  have Q := Lib.hid (below2 BB.out hbb)
  clear BB
  have BB := Q
  clear Q
  clear rb y1 y2 hbb R5
  go_wp2_with fail
  refine (clone10 _ _ _ z6 _ R6.out (by omega)).mono ?_
  rintro e u6 ⟨b6, rfl, rb, y1, y2, hbb⟩
  have P6 := Lib.hid rb
  have Q := Lib.hid (P0.out.below hbb)
  clear P0
  have P0 := Q
  clear Q
  have Q := Lib.hid (P1.out.below hbb)
  clear P1
  have P1 := Q
  clear Q
  have Q := Lib.hid (P2.out.below hbb)
  clear P2
  have P2 := Q
  clear Q
  have Q := Lib.hid (P3.out.below hbb)
  clear P3
  have P3 := Q
  clear Q
  have Q := Lib.hid (P4.out.below hbb)
  clear P4
  have P4 := Q
  clear Q
  have Q := Lib.hid (P5.out.below hbb)
  clear P5
  have P5 := Q
  clear Q
  have Q := Lib.hid (below2 BB.out hbb)
  clear BB
  have BB := Q
  clear Q
  clear rb y1 y2 hbb R6
  have RS : Hid (Rs b0 b1 b2 b3 b4 b5 b6 len0 len1 len2 len3 len4 len5 len6 z0 z1 z2 z3 z4 z5 z6 u6) := Lib.hid ⟨P0.out, n0, P1.out, n1, P2.out, n2, P3.out, n3, P4.out, n4, P5.out, n5, P6.out, n6⟩
  clear P0 P1 P2 P3 P4 P5 P6
  go_upto_if 59 with fail
  go_cut [15] (fun s15 W => ∃ m : Nat, s15 = .int .i64 m ∧ Hid (m ≤ len0 ∧ m ≤ len1) ∧ u6 = W)
  case first =>
    as_aux_lemma =>
    go_wp2_with fail
    all_goals go_meet
    · exact ⟨len1, rfl, Lib.hid (by omega), rfl⟩
    · exact ⟨len0, rfl, Lib.hid (by omega), rfl⟩
  case rest =>
  as_aux_lemma =>
  obtain ⟨m, rfl, hm, rfl⟩ := hcut
  obtain ⟨q0, q1⟩ := hm.out
  clear hm
  obtain ⟨m0, rfl⟩ : ∃ x : Nat, x = m := ⟨m, rfl⟩
  go_upto_if 65 with fail
  go_cut [15] (fun s15 W => ∃ m : Nat, s15 = .int .i64 m ∧ Hid (m ≤ len0 ∧ m ≤ len1 ∧ m ≤ len2) ∧ u6 = W)
  case first =>
    as_aux_lemma =>
    go_wp2_with fail
    all_goals go_meet
    · exact ⟨len2, rfl, Lib.hid (by omega), rfl⟩
    · exact ⟨m0, rfl, Lib.hid (by omega), rfl⟩
  case rest =>
  as_aux_lemma =>
  obtain ⟨m, rfl, hm, rfl⟩ := hcut
  obtain ⟨q1_0, q1_1, q1_2⟩ := hm.out
  clear hm
  obtain ⟨m1, rfl⟩ : ∃ x : Nat, x = m := ⟨m, rfl⟩
  go_upto_if 71 with fail
  go_cut [15] (fun s15 W => ∃ m : Nat, s15 = .int .i64 m ∧ Hid (m ≤ len0 ∧ m ≤ len1 ∧ m ≤ len2 ∧ m ≤ len3) ∧ u6 = W)
  case first =>
    as_aux_lemma =>
    go_wp2_with fail
    all_goals go_meet
    · exact ⟨len3, rfl, Lib.hid (by omega), rfl⟩
    · exact ⟨m1, rfl, Lib.hid (by omega), rfl⟩
  case rest =>
  as_aux_lemma =>
  obtain ⟨m, rfl, hm, rfl⟩ := hcut
  obtain ⟨q2_0, q2_1, q2_2, q2_3⟩ := hm.out
  clear hm
  obtain ⟨m2, rfl⟩ : ∃ x : Nat, x = m := ⟨m, rfl⟩
  go_upto_if 77 with fail
  go_cut [15] (fun s15 W => ∃ m : Nat, s15 = .int .i64 m ∧ Hid (m ≤ len0 ∧ m ≤ len1 ∧ m ≤ len2 ∧ m ≤ len3 ∧ m ≤ len4) ∧ u6 = W)
  case first =>
    as_aux_lemma =>
    go_wp2_with fail
    all_goals go_meet
    · exact ⟨len4, rfl, Lib.hid (by omega), rfl⟩
    · exact ⟨m2, rfl, Lib.hid (by omega), rfl⟩
  case rest =>
  as_aux_lemma =>
  obtain ⟨m, rfl, hm, rfl⟩ := hcut
  obtain ⟨q3_0, q3_1, q3_2, q3_3, q3_4⟩ := hm.out
  clear hm
  obtain ⟨m3, rfl⟩ : ∃ x : Nat, x = m := ⟨m, rfl⟩
  go_upto_if 83 with fail
  go_cut [15] (fun s15 W => ∃ m : Nat, s15 = .int .i64 m ∧ Hid (m ≤ len0 ∧ m ≤ len1 ∧ m ≤ len2 ∧ m ≤ len3 ∧ m ≤ len4 ∧ m ≤ len5) ∧ u6 = W)
  case first =>
    as_aux_lemma =>
    go_wp2_with fail
    all_goals go_meet
    · exact ⟨len5, rfl, Lib.hid (by omega), rfl⟩
    · exact ⟨m3, rfl, Lib.hid (by omega), rfl⟩
  case rest =>
  as_aux_lemma =>
  obtain ⟨m, rfl, hm, rfl⟩ := hcut
  obtain ⟨q4_0, q4_1, q4_2, q4_3, q4_4, q4_5⟩ := hm.out
  clear hm
  obtain ⟨m4, rfl⟩ : ∃ x : Nat, x = m := ⟨m, rfl⟩
  go_upto_if 89 with fail
  go_cut [15] (fun s15 W => ∃ m : Nat, s15 = .int .i64 m ∧ Hid (m ≤ len0 ∧ m ≤ len1 ∧ m ≤ len2 ∧ m ≤ len3 ∧ m ≤ len4 ∧ m ≤ len5 ∧ m ≤ len6) ∧ u6 = W)
  case first =>
    as_aux_lemma =>
    go_wp2_with fail
    all_goals go_meet
    · exact ⟨len6, rfl, Lib.hid (by omega), rfl⟩
    · exact ⟨m4, rfl, Lib.hid (by omega), rfl⟩
  case rest =>
  as_aux_lemma =>
  obtain ⟨m, rfl, hm, rfl⟩ := hcut
  obtain ⟨q5_0, q5_1, q5_2, q5_3, q5_4, q5_5, q5_6⟩ := hm.out
  clear hm
  have hmk := run_make_row' 36 37 (.pointer none) 8 Try.underlying36 (by kernel_rfl) rfl .i64 .i64 m (by omega) (by omega)
  have HN : Hid (m ≤ len0 ∧ m ≤ len1 ∧ m ≤ len2 ∧ m ≤ len3 ∧ m ≤ len4 ∧ m ≤ len5 ∧ m ≤ len6) := Lib.hid ⟨q5_0, q5_1, q5_2, q5_3, q5_4, q5_5, q5_6⟩
  go_upto_block 0 with (first | (go_at_call 11; (with_reducible refine (par11 _).mono ?_); rintro e v ⟨rfl, rfl⟩))
  have H0 := Lib.hid (l1_start u6 m z0 z1 z2 z3 z4 z5 z6)
  clear hmk
  refine loop1 RS.out HN.out H0.out _ ?_
  intro v14 v18 v19 v20 v95 v96 v97 v98 v99 v100 v101 v102 v103 v104 v105 v106 v107 v108 v109 v110 v111 v112 v113 v114 v115 v116 v117 v118 v119 v120 v121 v122 v123 v124 v125 v126 v127 v128 v129 v130 v131 v132 v133 v134 v135 v136 v137 v138 v139 a c xs D W' hL
  have HL := Lib.hid hL
  obtain ⟨C, hb169, h169⟩ := hL.ha.blk
  have c169 : W'.cell? ⟨u6.heap.size, 169, none⟩ = some (.slice a m c) := (hb169.cell 169).trans h169
  clear hL hb169 h169
  go_upto_block 2 with (first | (go_at_call 14; (with_reducible refine (cnt14 _ _ _ _ _ c169).mono ?_); rintro e v ⟨rfl, rfl⟩))
  refine loop2 RS.out HN.out HL.out _ ?_
  intro v14 v21 v144 v145 v146 v147 v148 v149 v150 v151 v152 v153 v154 v155 v156 v157 v158 v159 v160 v161 v162 v163 v164 v165 v166 v167 v168 v169 v170 v171 v172 v173 v174 v175 v176 v177 v178 v179 v180 v181 v182 v183 v184 v185 v186 v187 v188 v189 v190 v191 v192 v193 v194 v195 v196 v197 v198 v199 v200 v201 v202 v203 v204 v205 v206 v207 q
  go_wp2_with fail
  go_ret
  exact ⟨rfl, below2 (below2 BB.out HL.out.bel) (below_drewN' q)⟩
end Go.Proofs.Ytbjebcbdednijaa.fnAddImportRecordAppendsInOrder
