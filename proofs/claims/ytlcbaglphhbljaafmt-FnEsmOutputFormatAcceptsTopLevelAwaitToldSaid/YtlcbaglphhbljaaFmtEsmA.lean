/- The contracts of 'NewDeferLog', 'MakeLineColumnTracker' and the parser's making; the mutex's own functions. No conditions beyond the hypotheses. -/
import Derived.Test.YtlcbaglphhbljaaFmtLib
import Derived.Test.YtlcbaglphhbljaaFmtRows
import Derived.Conc.MuData
import Derived.Conc.MuLone
import Derived.Deep.RegionLaw
import Derived.Deep.RegionWith
import Derived.BigRegion
namespace Go.Proofs.YtlcbaglphhbljaaFmt.es
open Go.ChangeShapes Go.WideShapes Go.ChangeAt Go.RowKit Go.Mine
set_option linter.unusedVariables false
set_option linter.unusedSimpArgs false
set_option maxRecDepth 100000

abbrev muLink : Go.Conc.Locks.MuLink := { lock := 21, unlock := 22, ilock := 29, iunlock := 30, lockSlow := 37, unlockSlow := 40, disable := 33, enable := 35, acquire := 36, relMerge := 38, cas32 := 34, add32 := 39, tMutex := 196, tIMutex := 194, tPMutex := 202, tPIMutex := 209, tPI32 := 211, tUP := 213, tNoCopy := 192, tU32 := 43 }
theorem muLib : Go.Conc.Locks.MuLib Tryf.prog muLink :=
  ⟨Tryf.func21, Tryf.func22, Tryf.func29, Tryf.func30, Tryf.func33, Tryf.func35, Tryf.func36, Tryf.func38, Tryf.func34, Tryf.func39, Tryf.underlying194, Tryf.runUnderlying194, Tryf.sizeOf194, Tryf.isAgg194, Tryf.zeroValue194, Tryf.underlying196, Tryf.runUnderlying196, Tryf.sizeOf196, Tryf.isAgg196, Tryf.zeroValue196, Tryf.underlying202, Tryf.runUnderlying202, Tryf.sizeOf202, Tryf.isAgg202, Tryf.zeroValue202, Tryf.underlying209, Tryf.runUnderlying209, Tryf.sizeOf209, Tryf.isAgg209, Tryf.zeroValue209, Tryf.underlying211, Tryf.runUnderlying211, Tryf.sizeOf211, Tryf.isAgg211, Tryf.zeroValue211, Tryf.underlying213, Tryf.runUnderlying213, Tryf.sizeOf213, Tryf.isAgg213, Tryf.zeroValue213, Tryf.underlying192, Tryf.runUnderlying192, Tryf.sizeOf192, Tryf.isAgg192, Tryf.zeroValue192, Tryf.underlying21, Tryf.runUnderlying21, Tryf.sizeOf21, Tryf.isAgg21, Tryf.zeroValue21, (by kernel_rfl)⟩
@[go_sem] theorem run_store_func (P : Program) (w : World) (a : Addr) (m : Mode) (f : Fn) (x c : Array Value) : (store a (.func f x c) m).run P w = stored P w a (.func f x c) m := run_store P w a _ m rfl
/-- What 'NewDeferLog' hands back: four closures over boxes that begin at n. -/
abbrev fnAdd (n : Nat) : Value := .func (.func 20) #[] #[.pointer (some ⟨n, 0, none⟩), .pointer (some ⟨n + 1 + 1 + 1, 0, none⟩), .pointer (some ⟨n + 1 + 1 + 1 + 1, 0, none⟩), .pointer (some ⟨n + 1 + 1, 0, none⟩)]
abbrev fnHas (n : Nat) : Value := .func (.func 23) #[] #[.pointer (some ⟨n + 1 + 1 + 1, 0, none⟩), .pointer (some ⟨n + 1 + 1 + 1 + 1, 0, none⟩)]
abbrev fnPeek (n : Nat) : Value := .func (.func 24) #[] #[.pointer (some ⟨n + 1 + 1 + 1, 0, none⟩), .pointer (some ⟨n + 1 + 1, 0, none⟩)]
abbrev fnDone (n : Nat) : Value := .func (.func 25) #[] #[.pointer (some ⟨n + 1 + 1 + 1, 0, none⟩), .pointer (some ⟨n + 1 + 1, 0, none⟩)]
abbrev logV (n : Nat) : Value := .agg #[fnAdd n, fnHas n, fnPeek n, fnDone n, .int .i8 3, .map none]
/-- The log's boxes. -/
structure Lg (n : Nat) (w : World) : Prop where
  kd : Blk w n #[.int .u8 0] 169
  ms : Blk w (n + 1 + 1) #[.slice none 0 0] 190
  mu : Blk w (n + 1 + 1 + 1) #[.int .i32 0, .int .u32 0] 196
  he : Blk w (n + 1 + 1 + 1 + 1) #[.bool false] 4
theorem Lg.below {n B : Nat} {w w' : World} (h : Lg n w) (hb : Below B w w') (hn : n + 4 < B) : Lg n w' :=
  ⟨(hb.block n (by omega)).trans h.kd, (hb.block _ (by omega)).trans h.ms, (hb.block _ (by omega)).trans h.mu, (hb.block _ (by omega)).trans h.he⟩
theorem blk_new' (W : World) {B : Nat} {C : Array Value} {t : TypeId} (h : W.heap.size = B) : Blk (W.alloc (.cells C t)) B C t := h ▸ Blk.new W C t
theorem Lg.keep {n : Nat} {w w' : World} (h : Lg n w) (hb : Below w.heap.size w w') : Lg n w' :=
  ⟨h.kd.below hb, h.ms.below hb, h.mu.below hb, h.he.below hb⟩
theorem Lg.set {n p o : Nat} {w : World} (h : Lg n w) (hp : p < n) (v : Value) : Lg n (w.setCell ⟨p, o, none⟩ v) :=
  ⟨h.kd.setOther (a := ⟨p, o, none⟩) (show n ≠ p by omega) v, h.ms.setOther (a := ⟨p, o, none⟩) (show _ ≠ p by omega) v, h.mu.setOther (a := ⟨p, o, none⟩) (show _ ≠ p by omega) v, h.he.setOther (a := ⟨p, o, none⟩) (show _ ≠ p by omega) v⟩
theorem Lg.alloc {n : Nat} {w : World} (h : Lg n w) (o : Obj) : Lg n (w.alloc o) := ⟨h.kd.alloc o, h.ms.alloc o, h.mu.alloc o, h.he.alloc o⟩
set_option maxHeartbeats 2000000 in
theorem c11 (w : World) : Calls Tryf.prog 11 #[.int .u8 0, .map none] w fun e w' => e = .returned (logV w.heap.size) ∧ Below w.heap.size w w' ∧ Lg w.heap.size w' ∧ w.heap.size + 5 ≤ w'.heap.size := by
  go_enter Tryf.func11, Tryf.ntmps11
  go_wp2
  refine bodyPost_ret (v := logV w.heap.size) (by simp [results, Tryf.results11, go_sem]; try rfl) rfl ⟨rfl, ?_, ⟨?_, ?_, ?_, ?_⟩, ?_⟩
  · (repeat (first | with_reducible exact Below.refl _ _ | with_reducible refine Below.drew ?_ | with_reducible refine Below.alloc ?_ (by simp <;> omega) _ | with_reducible refine Below.setCell ?_ (by simp <;> omega) _))
  iterate 4
    · repeat (first | (with_reducible exact blk_new' _ (by simp; done)) | with_reducible refine Blk.setOther ?_ (by simp <;> omega) _ | with_reducible refine Blk.alloc ?_ _)
  · simp
/-- What 'MakeLineColumnTracker' hands back. -/
abbrev trkC (s : ByteArray) : Array Value := #[.string s, .string ⟨#[]⟩, .string ⟨#[]⟩, .int .i32 0, .int .i32 0, .int .i32 0, .int .i32 0, .bool true, .bool false, .bool true]
set_option maxHeartbeats 2000000 in
theorem c8 (p : Nat) (C : Array Value) (s : ByteArray) (w : World) (hb : Blk w p C 165) (h57 : C[57]? = some (.string ⟨#[]⟩)) (h58 : C[58]? = some (.string ⟨#[]⟩)) (h60 : C[60]? = some (.string s)) :
    Calls Tryf.prog 8 #[.pointer (some ⟨p, 57, none⟩)] w fun e w' => e = .returned (.agg (trkC s)) ∧ Below w.heap.size w w' := by
  have n57 := (hb.cell 57).trans h57
  have n58 := (hb.cell 58).trans h58
  have n60 := (hb.cell 60).trans h60
  have fl := hb.lt
  have fl1 : p < w.heap.size + 1 := by omega
  clear hb h57 h58 h60
  go_enter Tryf.func8, Tryf.ntmps8
  go_upto_region 3 with fail
  go_region
  go_wp2
  refine bodyPost_ret (v := .agg (trkC s)) (by simp [results, Tryf.results8, go_sem]; try rfl) rfl ⟨rfl, ?_⟩
  (repeat (first | with_reducible exact Below.refl _ _ | with_reducible refine Below.drew ?_ | with_reducible refine Below.alloc ?_ (by simp <;> omega) _ | with_reducible refine Below.setCell ?_ (by simp <;> omega) _))
/-- What is known of the parser's cells. -/
structure Par (n : Nat) (f u : Int) (C : Array Value) : Prop where
  sz : C.size = 353
  l0 : C[51]? = some (fnAdd n)
  l1 : C[52]? = some (fnHas n)
  l2 : C[53]? = some (fnPeek n)
  l3 : C[54]? = some (fnDone n)
  l4 : C[55]? = some (.int .i8 3)
  l5 : C[56]? = some (.map none)
  p0 : C[57]? = some (.string ⟨#[]⟩)
  p1 : C[58]? = some (.string ⟨#[]⟩)
  p3 : C[60]? = some (.string ⟨#[]⟩)
  tr : ∀ i, i < 10 → C[67 + i]? = (trkC ⟨#[]⟩)[i]?
  fm : C[36]? = some (.int .u8 f)
  un : C[23]? = some (.int .u64 u)
noncomputable def par0 : Array Value := (Tryf.prog.built 165 []).getD #[]
theorem par0B : Tryf.prog.built 165 [] = some par0 := by
  have h : (Tryf.prog.built 165 []).isSome = true := by kernel_rfl
  obtain ⟨c, hc⟩ := Option.isSome_iff_exists.1 h
  unfold par0
  rw [hc]
  rfl
theorem par0_sz : par0.size = 353 := by kernel_rfl
theorem par0_57 : par0[57]? = some (.string ⟨#[]⟩) := by kernel_rfl
theorem par0_58 : par0[58]? = some (.string ⟨#[]⟩) := by kernel_rfl
theorem par0_60 : par0[60]? = some (.string ⟨#[]⟩) := by kernel_rfl
theorem par0_23 : par0[23]? = some (.int .u64 0) := by kernel_rfl
theorem par_fin (C : Array Value) (n : Nat) (f : Int) (x y : Value) (s0 : C.size = 353) (s1 : C[57]? = some (.string ⟨#[]⟩)) (s2 : C[58]? = some (.string ⟨#[]⟩)) (s3 : C[60]? = some (.string ⟨#[]⟩)) (s4 : C[23]? = some (.int .u64 0)) :
    Par n f 0 (((((((((((((((((((C.setIfInBounds 51 (fnAdd n)).setIfInBounds 52 (fnHas n)).setIfInBounds 53 (fnPeek n)).setIfInBounds 54 (fnDone n)).setIfInBounds 55 (.int .i8 3)).setIfInBounds 56 (.map none)).setIfInBounds 67 (.string ⟨#[]⟩)).setIfInBounds 68 (.string ⟨#[]⟩)).setIfInBounds 69 (.string ⟨#[]⟩)).setIfInBounds 70 (.int .i32 0)).setIfInBounds 71 (.int .i32 0)).setIfInBounds 72 (.int .i32 0)).setIfInBounds 73 (.int .i32 0)).setIfInBounds 74 (.bool true)).setIfInBounds 75 (.bool false)).setIfInBounds 76 (.bool true)).setIfInBounds 104 x).setIfInBounds 13 y).setIfInBounds 36 (.int .u8 f)) := by
  refine ⟨?_, ?_, ?_, ?_, ?_, ?_, ?_, ?_, ?_, ?_, ?_, ?_, ?_⟩
  · simp [s0]
  iterate 9
    · (try simp [Array.getElem?_setIfInBounds, s0]) <;> (first | exact (Array.getElem?_eq_some_iff.1 s1).2 | exact (Array.getElem?_eq_some_iff.1 s2).2 | exact (Array.getElem?_eq_some_iff.1 s3).2 | exact (Array.getElem?_eq_some_iff.1 s4).2)
  · intro i hi
    match i, hi with
    | 0, _ => simp [Array.getElem?_setIfInBounds, s0]
    | 1, _ => simp [Array.getElem?_setIfInBounds, s0]
    | 2, _ => simp [Array.getElem?_setIfInBounds, s0]
    | 3, _ => simp [Array.getElem?_setIfInBounds, s0]
    | 4, _ => simp [Array.getElem?_setIfInBounds, s0]
    | 5, _ => simp [Array.getElem?_setIfInBounds, s0]
    | 6, _ => simp [Array.getElem?_setIfInBounds, s0]
    | 7, _ => simp [Array.getElem?_setIfInBounds, s0]
    | 8, _ => simp [Array.getElem?_setIfInBounds, s0]
    | 9, _ => simp [Array.getElem?_setIfInBounds, s0]
  iterate 2
    · (try simp [Array.getElem?_setIfInBounds, s0]) <;> (first | exact (Array.getElem?_eq_some_iff.1 s1).2 | exact (Array.getElem?_eq_some_iff.1 s2).2 | exact (Array.getElem?_eq_some_iff.1 s3).2 | exact (Array.getElem?_eq_some_iff.1 s4).2)
theorem wp_buildTo {P : Program} {o : Oper} {a : Act} {w : World} {K : Act → World → Prop} {Q : Exit → Act → World → Prop} (t : TypeId) (parts : Array (Nat × Operand)) (ho : o.op = .build t parts) (cells : Array Value)
    (hf : P.built t (parts.map fun (i, x) => (i, a.eval x)).toList = some cells) (h : K (a.put o.dst (.agg cells)) w) : o.wp P a w K Q :=
  wp_build t parts ho (by rw [hf]; rfl) (by rw [hf]; exact h)
set_option maxHeartbeats 2000000 in
theorem c7 (k f : Int) (w : World) : Calls Tryf.prog 7 #[.int .u8 k, .int .u8 f] w fun e w' => ∃ p C n, e = .returned (.pointer (some ⟨p, 0, none⟩)) ∧ Blk w' p C 165 ∧ Par n f 0 C ∧ Lg n w' ∧ Below w.heap.size w w' ∧ w.heap.size ≤ n ∧ w.heap.size ≤ p ∧ p < n := by
  go_enter Tryf.func7, Tryf.ntmps7
  go_wp2_with fail
  refine wp_buildTo 165 _ rfl par0 (by kernel_rfl) ?_
  have s0 := par0_sz
  have s1 := par0_57
  have s2 := par0_58
  have s3 := par0_60
  have s4 := par0_23
  generalize par0 = C at *
  have S : ∀ i, i < 353 → ∃ v, C[i]? = some v := fun i hi => ⟨C[i]'(by omega), Array.getElem?_eq_getElem (by omega)⟩
  obtain ⟨v51, e51⟩ := S 51 (by omega)
  obtain ⟨v52, e52⟩ := S 52 (by omega)
  obtain ⟨v53, e53⟩ := S 53 (by omega)
  obtain ⟨v54, e54⟩ := S 54 (by omega)
  obtain ⟨v55, e55⟩ := S 55 (by omega)
  obtain ⟨v56, e56⟩ := S 56 (by omega)
  obtain ⟨v67, e67⟩ := S 67 (by omega)
  obtain ⟨v68, e68⟩ := S 68 (by omega)
  obtain ⟨v69, e69⟩ := S 69 (by omega)
  obtain ⟨v70, e70⟩ := S 70 (by omega)
  obtain ⟨v71, e71⟩ := S 71 (by omega)
  obtain ⟨v72, e72⟩ := S 72 (by omega)
  obtain ⟨v73, e73⟩ := S 73 (by omega)
  obtain ⟨v74, e74⟩ := S 74 (by omega)
  obtain ⟨v75, e75⟩ := S 75 (by omega)
  obtain ⟨v76, e76⟩ := S 76 (by omega)
  obtain ⟨v104, e104⟩ := S 104 (by omega)
  obtain ⟨v13, e13⟩ := S 13 (by omega)
  obtain ⟨v36, e36⟩ := S 36 (by omega)
  go_wp2_with fail
  refine (c11 _).mono ?_
  rintro e w1 ⟨rfl, hb, hl, hz⟩
  have k1 : Blk w1 w.heap.size C 165 := (Blk.new w C 165).below hb
  have bb : Below w.heap.size w w1 := ((Below.refl _ _).alloc (Nat.le_refl _) _).trans (hb.mono (by simp))
  have en : (w.alloc (Obj.cells C 165)).heap.size = w.heap.size + 1 := by simp
  rw [en] at hl hz
  generalize hn : w.heap.size + 1 = n at *
  generalize hp : w.heap.size = p at *
  have c51 := (k1.cell 51).trans e51
  have f51 := k1.free 51
  have c52 := (k1.cell 52).trans e52
  have f52 := k1.free 52
  have c53 := (k1.cell 53).trans e53
  have f53 := k1.free 53
  have c54 := (k1.cell 54).trans e54
  have f54 := k1.free 54
  have c55 := (k1.cell 55).trans e55
  have f55 := k1.free 55
  have c56 := (k1.cell 56).trans e56
  have f56 := k1.free 56
  have fl := k1.lt
  have K1 := Lib.hid k1
  have BB := Lib.hid bb
  have HL := Lib.hid hl
  clear k1 hb bb hl
  go_wp2_with fail
  have k2 := ((((((K1.out.set 51 (fnAdd n)).set 52 (fnHas n)).set 53 (fnPeek n)).set 54 (fnDone n)).set 55 (.int .i8 3)).set 56 (.map none))
  refine (c8 p _ ⟨#[]⟩ _ k2 ?_ ?_ ?_).mono ?_
  · simp [Array.getElem?_setIfInBounds, s1]
  · simp [Array.getElem?_setIfInBounds, s2]
  · simp [Array.getElem?_setIfInBounds, s3]
  have hlt : p < n := by omega
  have bx := ((((((BB.out.setCell (p := ⟨p, 51, none⟩) (Nat.le_refl p) (fnAdd n)).setCell (p := ⟨p, 52, none⟩) (Nat.le_refl p) (fnHas n)).setCell (p := ⟨p, 53, none⟩) (Nat.le_refl p) (fnPeek n)).setCell (p := ⟨p, 54, none⟩) (Nat.le_refl p) (fnDone n)).setCell (p := ⟨p, 55, none⟩) (Nat.le_refl p) (.int .i8 3)).setCell (p := ⟨p, 56, none⟩) (Nat.le_refl p) (.map none))
  have lx := ((((((HL.out.set (o := 51) hlt (fnAdd n)).set (o := 52) hlt (fnHas n)).set (o := 53) hlt (fnPeek n)).set (o := 54) hlt (fnDone n)).set (o := 55) hlt (.int .i8 3)).set (o := 56) hlt (.map none))
  clear BB HL K1
  clear c51 f51
  clear c52 f52
  clear c53 f53
  clear c54 f54
  clear c55 f55
  clear c56 f56
  rintro e w2 ⟨rfl, hb2⟩
  have k3 := k2.below hb2
  have b3 := bx.trans (hb2.mono (by simp; omega))
  have l3 := lx.keep hb2
  clear k2 bx lx hb2
  have c67 := (k3.cell 67).trans (show _ = some v67 by simp [Array.getElem?_setIfInBounds, e67])
  have f67 := k3.free 67
  have c68 := (k3.cell 68).trans (show _ = some v68 by simp [Array.getElem?_setIfInBounds, e68])
  have f68 := k3.free 68
  have c69 := (k3.cell 69).trans (show _ = some v69 by simp [Array.getElem?_setIfInBounds, e69])
  have f69 := k3.free 69
  have c70 := (k3.cell 70).trans (show _ = some v70 by simp [Array.getElem?_setIfInBounds, e70])
  have f70 := k3.free 70
  have c71 := (k3.cell 71).trans (show _ = some v71 by simp [Array.getElem?_setIfInBounds, e71])
  have f71 := k3.free 71
  have c72 := (k3.cell 72).trans (show _ = some v72 by simp [Array.getElem?_setIfInBounds, e72])
  have f72 := k3.free 72
  have c73 := (k3.cell 73).trans (show _ = some v73 by simp [Array.getElem?_setIfInBounds, e73])
  have f73 := k3.free 73
  have c74 := (k3.cell 74).trans (show _ = some v74 by simp [Array.getElem?_setIfInBounds, e74])
  have f74 := k3.free 74
  have c75 := (k3.cell 75).trans (show _ = some v75 by simp [Array.getElem?_setIfInBounds, e75])
  have f75 := k3.free 75
  have c76 := (k3.cell 76).trans (show _ = some v76 by simp [Array.getElem?_setIfInBounds, e76])
  have f76 := k3.free 76
  have c104 := (k3.cell 104).trans (show _ = some v104 by simp [Array.getElem?_setIfInBounds, e104])
  have f104 := k3.free 104
  have c13 := (k3.cell 13).trans (show _ = some v13 by simp [Array.getElem?_setIfInBounds, e13])
  have f13 := k3.free 13
  have c36 := (k3.cell 36).trans (show _ = some v36 by simp [Array.getElem?_setIfInBounds, e36])
  have f36 := k3.free 36
  have fl2 := k3.lt
  have fl3 : p < w2.heap.size + 1 := by omega
  have fl4 : p < w2.heap.size + 1 + 1 := by omega
  have K3 := Lib.hid k3
  have B3 := Lib.hid b3
  have L3 := Lib.hid l3
  clear k3 b3 l3
  go_wp2_with fail
  go_ret
  have k4 := ((((((((((((((K3.out.set 67 (.string ⟨#[]⟩)).set 68 (.string ⟨#[]⟩)).set 69 (.string ⟨#[]⟩)).set 70 (.int .i32 0)).set 71 (.int .i32 0)).set 72 (.int .i32 0)).set 73 (.int .i32 0)).set 74 (.bool true)).set 75 (.bool false)).set 76 (.bool true)).set 104 (.pointer (some ⟨w2.heap.size, 0, none⟩))).set 13 (.pointer (some ⟨w2.heap.size + 1, 0, none⟩))).set 36 (.int .u8 f)))
  have b4 := ((((((((((((((B3.out.setCell (p := ⟨p, 67, none⟩) (Nat.le_refl p) (.string ⟨#[]⟩)).setCell (p := ⟨p, 68, none⟩) (Nat.le_refl p) (.string ⟨#[]⟩)).setCell (p := ⟨p, 69, none⟩) (Nat.le_refl p) (.string ⟨#[]⟩)).setCell (p := ⟨p, 70, none⟩) (Nat.le_refl p) (.int .i32 0)).setCell (p := ⟨p, 71, none⟩) (Nat.le_refl p) (.int .i32 0)).setCell (p := ⟨p, 72, none⟩) (Nat.le_refl p) (.int .i32 0)).setCell (p := ⟨p, 73, none⟩) (Nat.le_refl p) (.int .i32 0)).setCell (p := ⟨p, 74, none⟩) (Nat.le_refl p) (.bool true)).setCell (p := ⟨p, 75, none⟩) (Nat.le_refl p) (.bool false)).setCell (p := ⟨p, 76, none⟩) (Nat.le_refl p) (.bool true)).setCell (p := ⟨p, 104, none⟩) (Nat.le_refl p) (.pointer (some ⟨w2.heap.size, 0, none⟩))).setCell (p := ⟨p, 13, none⟩) (Nat.le_refl p) (.pointer (some ⟨w2.heap.size + 1, 0, none⟩))).setCell (p := ⟨p, 36, none⟩) (Nat.le_refl p) (.int .u8 f)))
  have l4 := ((((((((((((((L3.out.set (o := 67) hlt (.string ⟨#[]⟩)).set (o := 68) hlt (.string ⟨#[]⟩)).set (o := 69) hlt (.string ⟨#[]⟩)).set (o := 70) hlt (.int .i32 0)).set (o := 71) hlt (.int .i32 0)).set (o := 72) hlt (.int .i32 0)).set (o := 73) hlt (.int .i32 0)).set (o := 74) hlt (.bool true)).set (o := 75) hlt (.bool false)).set (o := 76) hlt (.bool true)).set (o := 104) hlt (.pointer (some ⟨w2.heap.size, 0, none⟩))).set (o := 13) hlt (.pointer (some ⟨w2.heap.size + 1, 0, none⟩))).set (o := 36) hlt (.int .u8 f)))
  refine ⟨p, _, n, rfl, (k4.alloc _).alloc _, par_fin _ n f _ _ s0 s1 s2 s3 s4, (l4.alloc _).alloc _, by rw [hp]; exact (b4.alloc (by simp; omega) _).alloc (by simp; omega) _, by omega, by omega, by omega⟩
end Go.Proofs.YtlcbaglphhbljaaFmt.es
