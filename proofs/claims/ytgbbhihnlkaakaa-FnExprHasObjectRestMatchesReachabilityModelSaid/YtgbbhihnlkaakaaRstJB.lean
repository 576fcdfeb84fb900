/- The region of 'zzBuildExpr' that appends to an object's properties. No conditions beyond the hypotheses. -/
import Derived.Test.YtgbbhihnlkaakaaRstJA
import Derived.Deep.RegionLaw
import Derived.Deep.RegionWith
import Derived.Deep.RegionHeld3
namespace Go.Proofs.Ytgbbhihnlkaakaa.rst
open Go.ChangeShapes Go.WideShapes Go.ChangeAt Go.RowKit Go.Mine
set_option linter.unusedVariables false
set_option linter.unusedSimpArgs false
set_option maxRecDepth 100000

theorem infoP : (Try.prog.info? 65).map (fun i => (i.zero, i.size, i.bytes)) = some (some (.agg #[.pointer none, .nilIface, .int .i32 0, .nilIface, .int .i32 0, .nilIface, .int .i32 0, .slice none 0 0, .int .i32 0, .int .i32 0, .int .u8 0, .int .u8 0]), 12, 120) := by kernel_rfl
set_option maxHeartbeats 16000000 in
theorem reg44 {u0 u1 u2 u3 u4 u5 u6 u7 u8 u11 u13 u14 u15 u16 u17 u18 u22 u23 u24 u25 u26 u27 u28 u29 u30 u31 u32 u33 u34 u35 u36 u37 u38 u39 u40 u41 u42 u43 u44 u45 u46 u47 u48 u49 u50 u51 u52 u53 u54 u55 u56 u57 u58 u59 u60 u61 u62 u63 u64 u65 u66 u67 u68 u69 u70 u71 u72 u73 u74 u75 u76 u77 u78 u79 u80 u81 u82 u83 u84 u85 u86 u87 u88 u89 u90 u91 u92 u93 u94 u95 u96 u97 u98 u99 u100 u101 u102 u103 u104 u105 u106 u107 u108 u109 u110 u111 u112 u113 u114 u115 u116 u117 u118 u119 u120 u121 u122 u123 u124 u125 u126 u127 u128 u129 u130 u131 u132 u133 u134 u135 u136 u137 u138 u139 u140 u141 u142 u143 u144 u145 u146 u147 u148 u149 u150 u151 u152 u153 u154 u155 u156 u157 u158 u159 u160 u161 u162 u163 u164 u165 u166 u167 u168 u169 u170 u171 u172 u173 u174 u175 u176 u177 u178 u179 u180 u181 u182 u183 u184 u185 u186 u187 u188 u189 u190 u191 u192 u193 u194 u195 u196 u197 u198 u199 : Value} (X k i p P Q T m cp bx : Nat) (a : Option Addr) (xs : List Value) (kd : Int) (wr : World) (hpk : p < k) (hik : i < k) (h1 : (p : Int) < (k : Int)) (h2 : (i : Int) < (k : Int)) (hm : m ≤ 65536)
    (ko : wr.ownsRow (X + 5) 65 12 (.slice a m cp) m xs) (kb : Blk wr P #[.slice a m cp, .int .i32 0, .int .i32 0, .bool false, .bool false] 50)
    (t0 : wr.cell? ⟨X + 1 + 1 + 1, p, none⟩ = some (.pointer (some ⟨P, 0, none⟩))) (kx : Blk wr bx #[.pointer none, .nilIface, .int .i32 0, .iface T (.pointer (some ⟨Q, 0, none⟩)), .int .i32 0, .nilIface, .int .i32 0, .slice none 0 0, .int .i32 0, .int .i32 0, .int .u8 kd, .int .u8 0] 65) (hX : X + 5 ≤ wr.heap.size) (hne : (Value.slice a m cp).ownBlock ≠ some P) (hP : X + 4 < P)
    (Q' : Exit → Act → World → Prop) (hQ : ∀ v181 v182 v183 v184 v185 v186 v187 v188 v189 v190 v191 v192 v193 v194 v195 v196 : Value, ∀ (gg cap : Nat) (wr' w3 : World), Below wr.heap.size wr wr' → wr'.grownBy w3 (Value.slice a m cp).ownBlock → w3.ownsRow (X + 5) 65 12 (.slice (some ⟨gg, 0, none⟩) (m + 1) cap) (m + 1) (xs ++ [.pointer none, .nilIface, .int .i32 0, .iface T (.pointer (some ⟨Q, 0, none⟩)), .int .i32 0, .nilIface, .int .i32 0, .slice none 0 0, .int .i32 0, .int .i32 0, .int .u8 kd, .int .u8 0]) → ((Value.slice a m cp).ownBlock = some gg ∨ wr.heap.size ≤ gg) →
      Q' .normal ⟨#[u0, u1, u2, u3, u4, u5, u6, u7, u8, .int .i64 (k : Int), .slice (some ⟨X + 1, 0, none⟩) k k, u11, .slice (some ⟨X + 1 + 1 + 1, 0, none⟩) k k, u13, u14, u15, u16, u17, u18, .int .i64 (i : Int), .int .i64 (p : Int), .pointer (some ⟨bx, 0, none⟩), u22, u23, u24, u25, u26, u27, u28, u29, u30, u31, u32, u33, u34, u35, u36, u37, u38, u39, u40, u41, u42, u43, u44, u45, u46, u47, u48, u49, u50, u51, u52, u53, u54, u55, u56, u57, u58, u59, u60, u61, u62, u63, u64, u65, u66, u67, u68, u69, u70, u71, u72, u73, u74, u75, u76, u77, u78, u79, u80, u81, u82, u83, u84, u85, u86, u87, u88, u89, u90, u91, u92, u93, u94, u95, u96, u97, u98, u99, u100, u101, u102, u103, u104, u105, u106, u107, u108, u109, u110, u111, u112, u113, u114, u115, u116, u117, u118, u119, u120, u121, u122, u123, u124, u125, u126, u127, u128, u129, u130, u131, u132, u133, u134, u135, u136, u137, u138, u139, u140, u141, u142, u143, u144, u145, u146, u147, u148, u149, u150, u151, u152, u153, u154, u155, u156, u157, u158, u159, u160, u161, u162, u163, u164, u165, u166, u167, u168, u169, u170, u171, u172, u173, u174, u175, u176, u177, u178, u179, u180, v181, v182, v183, v184, v185, v186, v187, v188, v189, v190, v191, v192, v193, v194, v195, v196, u197, u198, u199], []⟩ (w3.setCell ⟨P, 0, none⟩ (.slice (some ⟨gg, 0, none⟩) (m + 1) cap))) :
    Code.wp Try.prog (theRegion 44) Q' ⟨#[u0, u1, u2, u3, u4, u5, u6, u7, u8, .int .i64 (k : Int), .slice (some ⟨X + 1, 0, none⟩) k k, u11, .slice (some ⟨X + 1 + 1 + 1, 0, none⟩) k k, u13, u14, u15, u16, u17, u18, .int .i64 (i : Int), .int .i64 (p : Int), .pointer (some ⟨bx, 0, none⟩), u22, u23, u24, u25, u26, u27, u28, u29, u30, u31, u32, u33, u34, u35, u36, u37, u38, u39, u40, u41, u42, u43, u44, u45, u46, u47, u48, u49, u50, u51, u52, u53, u54, u55, u56, u57, u58, u59, u60, u61, u62, u63, u64, u65, u66, u67, u68, u69, u70, u71, u72, u73, u74, u75, u76, u77, u78, u79, u80, u81, u82, u83, u84, u85, u86, u87, u88, u89, u90, u91, u92, u93, u94, u95, u96, u97, u98, u99, u100, u101, u102, u103, u104, u105, u106, u107, u108, u109, u110, u111, u112, u113, u114, u115, u116, u117, u118, u119, u120, u121, u122, u123, u124, u125, u126, u127, u128, u129, u130, u131, u132, u133, u134, u135, u136, u137, u138, u139, u140, u141, u142, u143, u144, u145, u146, u147, u148, u149, u150, u151, u152, u153, u154, u155, u156, u157, u158, u159, u160, u161, u162, u163, u164, u165, u166, u167, u168, u169, u170, u171, u172, u173, u174, u175, u176, u177, u178, u179, u180, u181, u182, u183, u184, u185, u186, u187, u188, u189, u190, u191, u192, u193, u194, u195, u196, u197, u198, u199], []⟩ wr := by
  obtain ⟨j0, hi, hz0, hz1, hz2⟩ := info_parts infoP
  have HNA : Hid ((Value.slice a m cp).ownBlock ≠ some (X + 1 + 1 + 1)) := Lib.hid fun e => by have := own_ge ko e; omega
  have n0 := kb.cell 0
  have f0 := kb.free 0
  have fl := kb.lt
  have x0 := kx.cell 0
  have x1 := kx.cell 1
  have x2 := kx.cell 2
  have x3 := kx.cell 3
  have x4 := kx.cell 4
  have x5 := kx.cell 5
  have x6 := kx.cell 6
  have x7 := kx.cell 7
  have x8 := kx.cell 8
  have x9 := kx.cell 9
  have x10 := kx.cell 10
  have x11 := kx.cell 11
  have x12 := kx.lt
  clear kx
  have KO := Lib.hid ko
  have KB := Lib.hid kb
  have HNE := Lib.hid hne
  have HQ := Lib.hid hQ
  have tl := cell_lt t0
  clear ko kb hne hQ
  conv => arg 2; whnf
  refine wp_region_noPanic ?_
  go_region_law ((refine step_append_lies _ (by rfl) _ _ _ (by rfl) (X + 5) 65 j0 _ 12 120 Try.underlying48 hi hz0 hz1 hz2 rfl (by decide) (.slice a m cp) m _ (by rfl) (KO.out.alloc _) ⟨wr.heap.size, 0, none⟩ 1 1 [.pointer none, .nilIface, .int .i32 0, .iface T (.pointer (some ⟨Q, 0, none⟩)), .int .i32 0, .nilIface, .int .i32 0, .slice none 0 0, .int .i32 0, .int .i32 0, .int .u8 kd, .int .u8 0] (by rfl) (by rfl) (World.news_of_block (cs := #[.pointer none, .nilIface, .int .i32 0, .iface T (.pointer (some ⟨Q, 0, none⟩)), .int .i32 0, .nilIface, .int .i32 0, .slice none 0 0, .int .i32 0, .int .i32 0, .int .u8 kd, .int .u8 0]) (blk_new' _ (by simp))) (by simp [Value.oneCell']) (by decide) (by unfold maxLen; omega) (by omega) (by simp; omega) (wr.heap.size + 1) (by simp) ?_; intro gg cap w3 hown3 hgrow3 hat3 hlt3; have K3 := grown_keep KB.out (by repeat (first | with_reducible exact Below.refl _ _ | with_reducible refine Below.drew ?_ | with_reducible refine Below.alloc ?_ (by simp <;> omega) _)) hgrow3 HNE.out; have k1 : w3.cell? ⟨P, 0, none⟩ = some (.slice a m cp) := K3.cell 0; have k2 := K3.free 0; have k3 := K3.lt; have k4 := grown_cell t0 (by repeat (first | with_reducible exact Below.refl _ _ | with_reducible refine Below.drew ?_ | with_reducible refine Below.alloc ?_ (by simp <;> omega) _)) hgrow3 HNA.out; have k5 := cell_lt k4))
  all_goals exact HQ.out _ _ _ _ _ _ _ _ _ _ _ _ _ _ _ _ _ _ _ _ (by repeat (first | with_reducible exact Below.refl _ _ | with_reducible refine Below.drew ?_ | with_reducible refine Below.alloc ?_ (by simp <;> omega) _)) hgrow3 hown3 (by rcases hat3 with h | h; exact .inl h; exact .inr (by omega))
end Go.Proofs.Ytgbbhihnlkaakaa.rst
