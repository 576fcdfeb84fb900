/- The region of 'zzBuildExpr' that appends to an array's items. No conditions beyond the hypotheses. -/
import Derived.Test.YtgbbhihnlkaakaaRstI
import Derived.Deep.RegionLaw
import Derived.Deep.RegionWith
import Derived.Deep.RegionHeld3
namespace Go.Proofs.Ytgbbhihnlkaakaa.rst
open Go.ChangeShapes Go.WideShapes Go.ChangeAt Go.RowKit Go.Mine
set_option linter.unusedVariables false
set_option linter.unusedSimpArgs false
set_option maxRecDepth 100000

def findRegion (n : Nat) : Code → Option Code
  | .region id ops b => if id = n then some (.region id ops b) else none
  | .seq a b => match findRegion n a with
    | some c => some c
    | none => findRegion n b
  | .cond _ a b => match findRegion n a with
    | some c => some c
    | none => findRegion n b
  | .block _ c => findRegion n c
  | .loop c => findRegion n c
  | .scope c => findRegion n c
  | _ => none
noncomputable def theRegion (n : Nat) : Code := (Try.f6.body.bind (findRegion n)).getD .skip
theorem grown_keep {wr wA w3 : World} {P : Nat} {C : Array Value} {t : TypeId} {row : Option Nat} (hB : Blk wr P C t) (hA : Below wr.heap.size wr wA) (hg : wA.grownBy w3 row) (hne : row ≠ some P) : Blk w3 P C t :=
  (hg.block P (Nat.lt_of_lt_of_le hB.lt hA.size) (Ne.symm hne)).trans ((hA.block P hB.lt).trans hB)
theorem blk_new' (W : World) {B : Nat} {C : Array Value} {t : TypeId} (h : W.heap.size = B) : Blk (W.alloc (.cells C t)) B C t := h ▸ Blk.new W C t
theorem grown_cell {wr wA w3 : World} {q o : Nat} {v : Value} {row : Option Nat} (hc : wr.cell? ⟨q, o, none⟩ = some v) (hA : Below wr.heap.size wr wA) (hg : wA.grownBy w3 row) (hne : row ≠ some q) : w3.cell? ⟨q, o, none⟩ = some v :=
  (cell_of_block ((hg.block q (Nat.lt_of_lt_of_le (cell_lt hc) hA.size) (Ne.symm hne)).trans (hA.block q (cell_lt hc))) o).trans hc
set_option maxHeartbeats 16000000 in
theorem reg39 {u0 u1 u2 u3 u4 u5 u6 u7 u8 u12 u13 u14 u15 u16 u17 u18 u21 u22 u23 u24 u25 u26 u27 u28 u29 u30 u31 u32 u33 u34 u35 u36 u37 u38 u39 u40 u41 u42 u43 u44 u45 u46 u47 u48 u49 u50 u51 u52 u53 u54 u55 u56 u57 u58 u59 u60 u61 u62 u63 u64 u65 u66 u67 u68 u69 u70 u71 u72 u73 u74 u75 u76 u77 u78 u79 u80 u81 u82 u83 u84 u85 u86 u87 u88 u89 u90 u91 u92 u93 u94 u95 u96 u97 u98 u99 u100 u101 u102 u103 u104 u105 u106 u107 u108 u109 u110 u111 u112 u113 u114 u115 u116 u117 u118 u119 u120 u121 u122 u123 u124 u125 u126 u127 u128 u129 u130 u131 u132 u133 u134 u135 u136 u137 u138 u139 u140 u141 u142 u143 u144 u145 u146 u147 u148 u149 u150 u151 u152 u153 u154 u155 u156 u157 u158 u159 u160 u161 u162 u163 u164 u165 u166 u167 u168 u169 u170 u171 u172 u173 u174 u175 u176 u177 u178 u179 u180 u181 u182 u183 u184 u185 u186 u187 u188 u189 u190 u191 u192 u193 u194 u195 u196 u197 u198 u199 : Value} (X k i p P Q T m cp : Nat) (a : Option Addr) (xs : List Value) (wr : World) (hpk : p < k) (hik : i < k) (h1 : (p : Int) < (k : Int)) (h2 : (i : Int) < (k : Int)) (hm : m ≤ 65536)
    (ko : wr.ownsRow (X + 5) 34 2 (.slice a m cp) m xs) (kb : Blk wr P #[.slice a m cp, .int .i32 0, .int .i32 0, .bool false, .bool false] 46)
    (t0 : wr.cell? ⟨X + 1 + 1, p, none⟩ = some (.pointer (some ⟨P, 0, none⟩))) (d0 : wr.cell? ⟨X + 1, i * 2, none⟩ = some (.iface T (.pointer (some ⟨Q, 0, none⟩)))) (d1 : wr.cell? ⟨X + 1, i * 2 + 1, none⟩ = some (.int .i32 0)) (hX : X + 5 ≤ wr.heap.size) (hne : (Value.slice a m cp).ownBlock ≠ some P) (hP : X + 4 < P)
    (Q' : Exit → Act → World → Prop) (hQ : ∀ v151 v152 v153 v154 v155 v156 v157 v158 v159 v160 v161 v162 v163 v164 v165 v166 v167 v168 v169 : Value, ∀ (gg cap : Nat) (wr' w3 : World), Below wr.heap.size wr wr' → wr'.grownBy w3 (Value.slice a m cp).ownBlock → w3.ownsRow (X + 5) 34 2 (.slice (some ⟨gg, 0, none⟩) (m + 1) cap) (m + 1) (xs ++ [.iface T (.pointer (some ⟨Q, 0, none⟩)), .int .i32 0]) → ((Value.slice a m cp).ownBlock = some gg ∨ wr.heap.size ≤ gg) →
      Q' .normal ⟨#[u0, u1, u2, u3, u4, u5, u6, u7, u8, .int .i64 (k : Int), .slice (some ⟨X + 1, 0, none⟩) k k, .slice (some ⟨X + 1 + 1, 0, none⟩) k k, u12, u13, u14, u15, u16, u17, u18, .int .i64 (i : Int), .int .i64 (p : Int), u21, u22, u23, u24, u25, u26, u27, u28, u29, u30, u31, u32, u33, u34, u35, u36, u37, u38, u39, u40, u41, u42, u43, u44, u45, u46, u47, u48, u49, u50, u51, u52, u53, u54, u55, u56, u57, u58, u59, u60, u61, u62, u63, u64, u65, u66, u67, u68, u69, u70, u71, u72, u73, u74, u75, u76, u77, u78, u79, u80, u81, u82, u83, u84, u85, u86, u87, u88, u89, u90, u91, u92, u93, u94, u95, u96, u97, u98, u99, u100, u101, u102, u103, u104, u105, u106, u107, u108, u109, u110, u111, u112, u113, u114, u115, u116, u117, u118, u119, u120, u121, u122, u123, u124, u125, u126, u127, u128, u129, u130, u131, u132, u133, u134, u135, u136, u137, u138, u139, u140, u141, u142, u143, u144, u145, u146, u147, u148, u149, u150, v151, v152, v153, v154, v155, v156, v157, v158, v159, v160, v161, v162, v163, v164, v165, v166, v167, v168, v169, u170, u171, u172, u173, u174, u175, u176, u177, u178, u179, u180, u181, u182, u183, u184, u185, u186, u187, u188, u189, u190, u191, u192, u193, u194, u195, u196, u197, u198, u199], []⟩ (w3.setCell ⟨P, 0, none⟩ (.slice (some ⟨gg, 0, none⟩) (m + 1) cap))) :
    Code.wp Try.prog (theRegion 39) Q' ⟨#[u0, u1, u2, u3, u4, u5, u6, u7, u8, .int .i64 (k : Int), .slice (some ⟨X + 1, 0, none⟩) k k, .slice (some ⟨X + 1 + 1, 0, none⟩) k k, u12, u13, u14, u15, u16, u17, u18, .int .i64 (i : Int), .int .i64 (p : Int), u21, u22, u23, u24, u25, u26, u27, u28, u29, u30, u31, u32, u33, u34, u35, u36, u37, u38, u39, u40, u41, u42, u43, u44, u45, u46, u47, u48, u49, u50, u51, u52, u53, u54, u55, u56, u57, u58, u59, u60, u61, u62, u63, u64, u65, u66, u67, u68, u69, u70, u71, u72, u73, u74, u75, u76, u77, u78, u79, u80, u81, u82, u83, u84, u85, u86, u87, u88, u89, u90, u91, u92, u93, u94, u95, u96, u97, u98, u99, u100, u101, u102, u103, u104, u105, u106, u107, u108, u109, u110, u111, u112, u113, u114, u115, u116, u117, u118, u119, u120, u121, u122, u123, u124, u125, u126, u127, u128, u129, u130, u131, u132, u133, u134, u135, u136, u137, u138, u139, u140, u141, u142, u143, u144, u145, u146, u147, u148, u149, u150, u151, u152, u153, u154, u155, u156, u157, u158, u159, u160, u161, u162, u163, u164, u165, u166, u167, u168, u169, u170, u171, u172, u173, u174, u175, u176, u177, u178, u179, u180, u181, u182, u183, u184, u185, u186, u187, u188, u189, u190, u191, u192, u193, u194, u195, u196, u197, u198, u199], []⟩ wr := by
  obtain ⟨i0, hi, hz0, hz1, hz2⟩ := info_parts infoE
  have HNA : Hid ((Value.slice a m cp).ownBlock ≠ some (X + 1 + 1)) := Lib.hid fun e => by have := own_ge ko e; omega
  have n0 := kb.cell 0
  have f0 := kb.free 0
  have fl := kb.lt
  have d4 := cell_lt d0
  have KO := Lib.hid ko
  have KB := Lib.hid kb
  have HNE := Lib.hid hne
  have HQ := Lib.hid hQ
  have tl := cell_lt t0
  clear ko kb hne hQ
  conv => arg 2; whnf
  refine wp_region_noPanic ?_
  go_region_law ((refine step_append_lies _ (by rfl) _ _ _ (by rfl) (X + 5) 34 i0 _ 2 24 Try.underlying40 hi hz0 hz1 hz2 rfl (by decide) (.slice a m cp) m _ (by rfl) (KO.out.alloc _) ⟨wr.heap.size, 0, none⟩ 1 1 [.iface T (.pointer (some ⟨Q, 0, none⟩)), .int .i32 0] (by rfl) (by rfl) (World.news_of_block (cs := #[.iface T (.pointer (some ⟨Q, 0, none⟩)), .int .i32 0]) (blk_new' _ (by simp))) (by simp [Value.oneCell']) (by decide) (by unfold maxLen; omega) (by omega) (by simp; omega) (wr.heap.size + 1) (by simp) ?_; intro gg cap w3 hown3 hgrow3 hat3 hlt3; have K3 := grown_keep KB.out (by repeat (first | with_reducible exact Below.refl _ _ | with_reducible refine Below.drew ?_ | with_reducible refine Below.alloc ?_ (by simp <;> omega) _)) hgrow3 HNE.out; have k1 : w3.cell? ⟨P, 0, none⟩ = some (.slice a m cp) := K3.cell 0; have k2 := K3.free 0; have k3 := K3.lt; have k4 := grown_cell t0 (by repeat (first | with_reducible exact Below.refl _ _ | with_reducible refine Below.drew ?_ | with_reducible refine Below.alloc ?_ (by simp <;> omega) _)) hgrow3 HNA.out; have k5 := cell_lt k4))
  all_goals exact HQ.out _ _ _ _ _ _ _ _ _ _ _ _ _ _ _ _ _ _ _ _ _ _ _ (by repeat (first | with_reducible exact Below.refl _ _ | with_reducible refine Below.drew ?_ | with_reducible refine Below.alloc ?_ (by simp <;> omega) _)) hgrow3 hown3 (by rcases hat3 with h | h; exact .inl h; exact .inr (by omega))
end Go.Proofs.Ytgbbhihnlkaakaa.rst
