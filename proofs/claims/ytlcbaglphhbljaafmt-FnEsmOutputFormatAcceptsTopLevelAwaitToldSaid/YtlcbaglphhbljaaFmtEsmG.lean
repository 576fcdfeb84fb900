/- The contracts of the law's functions. No conditions beyond the hypotheses. -/
import Derived.Test.YtlcbaglphhbljaaFmtEsmF
namespace Go.Proofs.YtlcbaglphhbljaaFmt.es
open Go.ChangeShapes Go.WideShapes Go.ChangeAt Go.RowKit Go.Mine
set_option linter.unusedVariables false
set_option linter.unusedSimpArgs false
set_option maxRecDepth 100000

theorem par_mark (C : Array Value) (n : Nat) (f u : Int) (h : Par n f 0 C) : Par n f u ((((((((((((((((C.setIfInBounds 23 (.int .u64 u)).setIfInBounds 25 (.int .u64 0)).setIfInBounds 18 (.string ⟨#[]⟩)).setIfInBounds 341 (.bool false)).setIfInBounds 329 (.int .i32 0)).setIfInBounds 60 (.string ⟨#[]⟩)).setIfInBounds 67 (.string ⟨#[]⟩)).setIfInBounds 68 (.string ⟨#[]⟩)).setIfInBounds 69 (.string ⟨#[]⟩)).setIfInBounds 70 (.int .i32 0)).setIfInBounds 71 (.int .i32 0)).setIfInBounds 72 (.int .i32 0)).setIfInBounds 73 (.int .i32 0)).setIfInBounds 74 (.bool true)).setIfInBounds 75 (.bool false)).setIfInBounds 76 (.bool true)) := by
  refine ⟨?_, ?_, ?_, ?_, ?_, ?_, ?_, ?_, ?_, ?_, ?_, ?_, ?_⟩
  · simp [h.sz]
  · rw [Array.getElem?_setIfInBounds_ne (by decide), Array.getElem?_setIfInBounds_ne (by decide), Array.getElem?_setIfInBounds_ne (by decide), Array.getElem?_setIfInBounds_ne (by decide), Array.getElem?_setIfInBounds_ne (by decide), Array.getElem?_setIfInBounds_ne (by decide), Array.getElem?_setIfInBounds_ne (by decide), Array.getElem?_setIfInBounds_ne (by decide), Array.getElem?_setIfInBounds_ne (by decide), Array.getElem?_setIfInBounds_ne (by decide), Array.getElem?_setIfInBounds_ne (by decide), Array.getElem?_setIfInBounds_ne (by decide), Array.getElem?_setIfInBounds_ne (by decide), Array.getElem?_setIfInBounds_ne (by decide), Array.getElem?_setIfInBounds_ne (by decide), Array.getElem?_setIfInBounds_ne (by decide)]; exact h.l0
  · rw [Array.getElem?_setIfInBounds_ne (by decide), Array.getElem?_setIfInBounds_ne (by decide), Array.getElem?_setIfInBounds_ne (by decide), Array.getElem?_setIfInBounds_ne (by decide), Array.getElem?_setIfInBounds_ne (by decide), Array.getElem?_setIfInBounds_ne (by decide), Array.getElem?_setIfInBounds_ne (by decide), Array.getElem?_setIfInBounds_ne (by decide), Array.getElem?_setIfInBounds_ne (by decide), Array.getElem?_setIfInBounds_ne (by decide), Array.getElem?_setIfInBounds_ne (by decide), Array.getElem?_setIfInBounds_ne (by decide), Array.getElem?_setIfInBounds_ne (by decide), Array.getElem?_setIfInBounds_ne (by decide), Array.getElem?_setIfInBounds_ne (by decide), Array.getElem?_setIfInBounds_ne (by decide)]; exact h.l1
  · rw [Array.getElem?_setIfInBounds_ne (by decide), Array.getElem?_setIfInBounds_ne (by decide), Array.getElem?_setIfInBounds_ne (by decide), Array.getElem?_setIfInBounds_ne (by decide), Array.getElem?_setIfInBounds_ne (by decide), Array.getElem?_setIfInBounds_ne (by decide), Array.getElem?_setIfInBounds_ne (by decide), Array.getElem?_setIfInBounds_ne (by decide), Array.getElem?_setIfInBounds_ne (by decide), Array.getElem?_setIfInBounds_ne (by decide), Array.getElem?_setIfInBounds_ne (by decide), Array.getElem?_setIfInBounds_ne (by decide), Array.getElem?_setIfInBounds_ne (by decide), Array.getElem?_setIfInBounds_ne (by decide), Array.getElem?_setIfInBounds_ne (by decide), Array.getElem?_setIfInBounds_ne (by decide)]; exact h.l2
  · rw [Array.getElem?_setIfInBounds_ne (by decide), Array.getElem?_setIfInBounds_ne (by decide), Array.getElem?_setIfInBounds_ne (by decide), Array.getElem?_setIfInBounds_ne (by decide), Array.getElem?_setIfInBounds_ne (by decide), Array.getElem?_setIfInBounds_ne (by decide), Array.getElem?_setIfInBounds_ne (by decide), Array.getElem?_setIfInBounds_ne (by decide), Array.getElem?_setIfInBounds_ne (by decide), Array.getElem?_setIfInBounds_ne (by decide), Array.getElem?_setIfInBounds_ne (by decide), Array.getElem?_setIfInBounds_ne (by decide), Array.getElem?_setIfInBounds_ne (by decide), Array.getElem?_setIfInBounds_ne (by decide), Array.getElem?_setIfInBounds_ne (by decide), Array.getElem?_setIfInBounds_ne (by decide)]; exact h.l3
  · rw [Array.getElem?_setIfInBounds_ne (by decide), Array.getElem?_setIfInBounds_ne (by decide), Array.getElem?_setIfInBounds_ne (by decide), Array.getElem?_setIfInBounds_ne (by decide), Array.getElem?_setIfInBounds_ne (by decide), Array.getElem?_setIfInBounds_ne (by decide), Array.getElem?_setIfInBounds_ne (by decide), Array.getElem?_setIfInBounds_ne (by decide), Array.getElem?_setIfInBounds_ne (by decide), Array.getElem?_setIfInBounds_ne (by decide), Array.getElem?_setIfInBounds_ne (by decide), Array.getElem?_setIfInBounds_ne (by decide), Array.getElem?_setIfInBounds_ne (by decide), Array.getElem?_setIfInBounds_ne (by decide), Array.getElem?_setIfInBounds_ne (by decide), Array.getElem?_setIfInBounds_ne (by decide)]; exact h.l4
  · rw [Array.getElem?_setIfInBounds_ne (by decide), Array.getElem?_setIfInBounds_ne (by decide), Array.getElem?_setIfInBounds_ne (by decide), Array.getElem?_setIfInBounds_ne (by decide), Array.getElem?_setIfInBounds_ne (by decide), Array.getElem?_setIfInBounds_ne (by decide), Array.getElem?_setIfInBounds_ne (by decide), Array.getElem?_setIfInBounds_ne (by decide), Array.getElem?_setIfInBounds_ne (by decide), Array.getElem?_setIfInBounds_ne (by decide), Array.getElem?_setIfInBounds_ne (by decide), Array.getElem?_setIfInBounds_ne (by decide), Array.getElem?_setIfInBounds_ne (by decide), Array.getElem?_setIfInBounds_ne (by decide), Array.getElem?_setIfInBounds_ne (by decide), Array.getElem?_setIfInBounds_ne (by decide)]; exact h.l5
  · rw [Array.getElem?_setIfInBounds_ne (by decide), Array.getElem?_setIfInBounds_ne (by decide), Array.getElem?_setIfInBounds_ne (by decide), Array.getElem?_setIfInBounds_ne (by decide), Array.getElem?_setIfInBounds_ne (by decide), Array.getElem?_setIfInBounds_ne (by decide), Array.getElem?_setIfInBounds_ne (by decide), Array.getElem?_setIfInBounds_ne (by decide), Array.getElem?_setIfInBounds_ne (by decide), Array.getElem?_setIfInBounds_ne (by decide), Array.getElem?_setIfInBounds_ne (by decide), Array.getElem?_setIfInBounds_ne (by decide), Array.getElem?_setIfInBounds_ne (by decide), Array.getElem?_setIfInBounds_ne (by decide), Array.getElem?_setIfInBounds_ne (by decide), Array.getElem?_setIfInBounds_ne (by decide)]; exact h.p0
  · rw [Array.getElem?_setIfInBounds_ne (by decide), Array.getElem?_setIfInBounds_ne (by decide), Array.getElem?_setIfInBounds_ne (by decide), Array.getElem?_setIfInBounds_ne (by decide), Array.getElem?_setIfInBounds_ne (by decide), Array.getElem?_setIfInBounds_ne (by decide), Array.getElem?_setIfInBounds_ne (by decide), Array.getElem?_setIfInBounds_ne (by decide), Array.getElem?_setIfInBounds_ne (by decide), Array.getElem?_setIfInBounds_ne (by decide), Array.getElem?_setIfInBounds_ne (by decide), Array.getElem?_setIfInBounds_ne (by decide), Array.getElem?_setIfInBounds_ne (by decide), Array.getElem?_setIfInBounds_ne (by decide), Array.getElem?_setIfInBounds_ne (by decide), Array.getElem?_setIfInBounds_ne (by decide)]; exact h.p1
  · simp [Array.getElem?_setIfInBounds, h.sz]
  · intro i hi
    match i, hi with
    | 0, _ => simp [Array.getElem?_setIfInBounds, h.sz]
    | 1, _ => simp [Array.getElem?_setIfInBounds, h.sz]
    | 2, _ => simp [Array.getElem?_setIfInBounds, h.sz]
    | 3, _ => simp [Array.getElem?_setIfInBounds, h.sz]
    | 4, _ => simp [Array.getElem?_setIfInBounds, h.sz]
    | 5, _ => simp [Array.getElem?_setIfInBounds, h.sz]
    | 6, _ => simp [Array.getElem?_setIfInBounds, h.sz]
    | 7, _ => simp [Array.getElem?_setIfInBounds, h.sz]
    | 8, _ => simp [Array.getElem?_setIfInBounds, h.sz]
    | 9, _ => simp [Array.getElem?_setIfInBounds, h.sz]
  · rw [Array.getElem?_setIfInBounds_ne (by decide), Array.getElem?_setIfInBounds_ne (by decide), Array.getElem?_setIfInBounds_ne (by decide), Array.getElem?_setIfInBounds_ne (by decide), Array.getElem?_setIfInBounds_ne (by decide), Array.getElem?_setIfInBounds_ne (by decide), Array.getElem?_setIfInBounds_ne (by decide), Array.getElem?_setIfInBounds_ne (by decide), Array.getElem?_setIfInBounds_ne (by decide), Array.getElem?_setIfInBounds_ne (by decide), Array.getElem?_setIfInBounds_ne (by decide), Array.getElem?_setIfInBounds_ne (by decide), Array.getElem?_setIfInBounds_ne (by decide), Array.getElem?_setIfInBounds_ne (by decide), Array.getElem?_setIfInBounds_ne (by decide), Array.getElem?_setIfInBounds_ne (by decide)]; exact h.fm
  · simp [Array.getElem?_setIfInBounds, h.sz]
set_option maxHeartbeats 4000000 in
theorem c5N (f u : Int) (w : World) (hf : f = 0 ∨ f = 3) (hu : bits .and .u64 u 144115188075855872 = 0) :
    Calls Tryf.prog 5 #[.int .u64 144115188075855872, .int .u64 u, .int .u64 0, .string ⟨#[]⟩, .int .u8 f, .bool false, .int .i32 0, .string ⟨#[]⟩, .int .i32 0, .int .i32 0] w fun e w' => e = .returned (.tuple #[.bool false, .slice none 0 0]) ∧ Below w.heap.size w w' := by
  have HF := Lib.hid hf
  have HU := Lib.hid hu
  clear hf hu
  go_enter Tryf.func5, Tryf.ntmps5
  go_wp2_with fail
  refine (c7 0 f _).mono ?_
  rintro e w1 ⟨p, C, n, rfl, hb, hp, hl, hbel, hn, hpp, hpn⟩
  have S : ∀ i, i < 353 → ∃ v, C[i]? = some v := fun i hi => ⟨C[i]'(by have := hp.sz; omega), Array.getElem?_eq_getElem (by have := hp.sz; omega)⟩
  obtain ⟨v23, e23⟩ := S 23 (by omega)
  obtain ⟨v25, e25⟩ := S 25 (by omega)
  obtain ⟨v18, e18⟩ := S 18 (by omega)
  obtain ⟨v341, e341⟩ := S 341 (by omega)
  obtain ⟨v329, e329⟩ := S 329 (by omega)
  obtain ⟨v60, e60⟩ := S 60 (by omega)
  obtain ⟨v67, e67⟩ := S 67 (by omega)
  obtain ⟨v68, e68⟩ := S 68 (by omega)
  obtain ⟨v69, e69⟩ := S 69 (by omega)
  obtain ⟨v70, e70⟩ := S 70 (by omega)
  obtain ⟨v71, e71⟩ := S 71 (by omega)
  obtain ⟨v72, e72⟩ := S 72 (by omega)
  obtain ⟨v73, e73⟩ := S 73 (by omega)
  obtain ⟨v74, e74⟩ := S 74 (by omega)
  obtain ⟨v75, e75⟩ := S 75 (by omega)
  obtain ⟨v76, e76⟩ := S 76 (by omega)
  have c23 := (hb.cell 23).trans e23
  have f23 := hb.free 23
  have c25 := (hb.cell 25).trans e25
  have f25 := hb.free 25
  have c18 := (hb.cell 18).trans e18
  have f18 := hb.free 18
  have c341 := (hb.cell 341).trans e341
  have f341 := hb.free 341
  have c329 := (hb.cell 329).trans e329
  have f329 := hb.free 329
  have c60 := (hb.cell 60).trans e60
  have f60 := hb.free 60
  have fl := hb.lt
  have K1 := Lib.hid hb
  have HP := Lib.hid hp
  have HL := Lib.hid hl
  have BB := Lib.hid hbel
  clear hb hp hl hbel
  go_wp2_with fail
  have k2 := (((((((K1.out.set 23 (.int .u64 u)).set 25 (.int .u64 0)).set 18 (.string ⟨#[]⟩)).set 341 (.bool false)).set 329 (.int .i32 0)).set 60 (.string ⟨#[]⟩)))
  have b2 := (((((((BB.out.setCell (p := ⟨p, 23, none⟩) hpp (.int .u64 u)).setCell (p := ⟨p, 25, none⟩) hpp (.int .u64 0)).setCell (p := ⟨p, 18, none⟩) hpp (.string ⟨#[]⟩)).setCell (p := ⟨p, 341, none⟩) hpp (.bool false)).setCell (p := ⟨p, 329, none⟩) hpp (.int .i32 0)).setCell (p := ⟨p, 60, none⟩) hpp (.string ⟨#[]⟩)))
  have l2 := (((((((HL.out.set (o := 23) hpn (.int .u64 u)).set (o := 25) hpn (.int .u64 0)).set (o := 18) hpn (.string ⟨#[]⟩)).set (o := 341) hpn (.bool false)).set (o := 329) hpn (.int .i32 0)).set (o := 60) hpn (.string ⟨#[]⟩)))
  refine (c8 p _ ⟨#[]⟩ _ k2 ?_ ?_ ?_).mono ?_
  · rw [Array.getElem?_setIfInBounds_ne (by decide), Array.getElem?_setIfInBounds_ne (by decide), Array.getElem?_setIfInBounds_ne (by decide), Array.getElem?_setIfInBounds_ne (by decide), Array.getElem?_setIfInBounds_ne (by decide), Array.getElem?_setIfInBounds_ne (by decide)]; exact HP.out.p0
  · rw [Array.getElem?_setIfInBounds_ne (by decide), Array.getElem?_setIfInBounds_ne (by decide), Array.getElem?_setIfInBounds_ne (by decide), Array.getElem?_setIfInBounds_ne (by decide), Array.getElem?_setIfInBounds_ne (by decide), Array.getElem?_setIfInBounds_ne (by decide)]; exact HP.out.p1
  · simp [Array.getElem?_setIfInBounds, HP.out.sz]
  rintro e w2 ⟨rfl, hb2⟩
  clear c23 f23
  clear c25 f25
  clear c18 f18
  clear c341 f341
  clear c329 f329
  clear c60 f60
  have k3 := k2.below hb2
  have b3 := b2.trans (hb2.mono (by have := BB.out.size; simp; omega))
  have l3 := l2.keep hb2
  have c67 := (k3.cell 67).trans (show _ = some v67 by rw [Array.getElem?_setIfInBounds_ne (by decide), Array.getElem?_setIfInBounds_ne (by decide), Array.getElem?_setIfInBounds_ne (by decide), Array.getElem?_setIfInBounds_ne (by decide), Array.getElem?_setIfInBounds_ne (by decide), Array.getElem?_setIfInBounds_ne (by decide)]; exact e67)
  have f67 := k3.free 67
  have c68 := (k3.cell 68).trans (show _ = some v68 by rw [Array.getElem?_setIfInBounds_ne (by decide), Array.getElem?_setIfInBounds_ne (by decide), Array.getElem?_setIfInBounds_ne (by decide), Array.getElem?_setIfInBounds_ne (by decide), Array.getElem?_setIfInBounds_ne (by decide), Array.getElem?_setIfInBounds_ne (by decide)]; exact e68)
  have f68 := k3.free 68
  have c69 := (k3.cell 69).trans (show _ = some v69 by rw [Array.getElem?_setIfInBounds_ne (by decide), Array.getElem?_setIfInBounds_ne (by decide), Array.getElem?_setIfInBounds_ne (by decide), Array.getElem?_setIfInBounds_ne (by decide), Array.getElem?_setIfInBounds_ne (by decide), Array.getElem?_setIfInBounds_ne (by decide)]; exact e69)
  have f69 := k3.free 69
  have c70 := (k3.cell 70).trans (show _ = some v70 by rw [Array.getElem?_setIfInBounds_ne (by decide), Array.getElem?_setIfInBounds_ne (by decide), Array.getElem?_setIfInBounds_ne (by decide), Array.getElem?_setIfInBounds_ne (by decide), Array.getElem?_setIfInBounds_ne (by decide), Array.getElem?_setIfInBounds_ne (by decide)]; exact e70)
  have f70 := k3.free 70
  have c71 := (k3.cell 71).trans (show _ = some v71 by rw [Array.getElem?_setIfInBounds_ne (by decide), Array.getElem?_setIfInBounds_ne (by decide), Array.getElem?_setIfInBounds_ne (by decide), Array.getElem?_setIfInBounds_ne (by decide), Array.getElem?_setIfInBounds_ne (by decide), Array.getElem?_setIfInBounds_ne (by decide)]; exact e71)
  have f71 := k3.free 71
  have c72 := (k3.cell 72).trans (show _ = some v72 by rw [Array.getElem?_setIfInBounds_ne (by decide), Array.getElem?_setIfInBounds_ne (by decide), Array.getElem?_setIfInBounds_ne (by decide), Array.getElem?_setIfInBounds_ne (by decide), Array.getElem?_setIfInBounds_ne (by decide), Array.getElem?_setIfInBounds_ne (by decide)]; exact e72)
  have f72 := k3.free 72
  have c73 := (k3.cell 73).trans (show _ = some v73 by rw [Array.getElem?_setIfInBounds_ne (by decide), Array.getElem?_setIfInBounds_ne (by decide), Array.getElem?_setIfInBounds_ne (by decide), Array.getElem?_setIfInBounds_ne (by decide), Array.getElem?_setIfInBounds_ne (by decide), Array.getElem?_setIfInBounds_ne (by decide)]; exact e73)
  have f73 := k3.free 73
  have c74 := (k3.cell 74).trans (show _ = some v74 by rw [Array.getElem?_setIfInBounds_ne (by decide), Array.getElem?_setIfInBounds_ne (by decide), Array.getElem?_setIfInBounds_ne (by decide), Array.getElem?_setIfInBounds_ne (by decide), Array.getElem?_setIfInBounds_ne (by decide), Array.getElem?_setIfInBounds_ne (by decide)]; exact e74)
  have f74 := k3.free 74
  have c75 := (k3.cell 75).trans (show _ = some v75 by rw [Array.getElem?_setIfInBounds_ne (by decide), Array.getElem?_setIfInBounds_ne (by decide), Array.getElem?_setIfInBounds_ne (by decide), Array.getElem?_setIfInBounds_ne (by decide), Array.getElem?_setIfInBounds_ne (by decide), Array.getElem?_setIfInBounds_ne (by decide)]; exact e75)
  have f75 := k3.free 75
  have c76 := (k3.cell 76).trans (show _ = some v76 by rw [Array.getElem?_setIfInBounds_ne (by decide), Array.getElem?_setIfInBounds_ne (by decide), Array.getElem?_setIfInBounds_ne (by decide), Array.getElem?_setIfInBounds_ne (by decide), Array.getElem?_setIfInBounds_ne (by decide), Array.getElem?_setIfInBounds_ne (by decide)]; exact e76)
  have f76 := k3.free 76
  have fl2 := k3.lt
  have K3 := Lib.hid k3
  have B3 := Lib.hid b3
  have L3 := Lib.hid l3
  clear k2 b2 l2 hb2 k3 b3 l3 fl K1 HL
  go_wp2_with fail
  have k4 := (((((((((((K3.out.set 67 (.string ⟨#[]⟩)).set 68 (.string ⟨#[]⟩)).set 69 (.string ⟨#[]⟩)).set 70 (.int .i32 0)).set 71 (.int .i32 0)).set 72 (.int .i32 0)).set 73 (.int .i32 0)).set 74 (.bool true)).set 75 (.bool false)).set 76 (.bool true)))
  have b4 := (((((((((((B3.out.setCell (p := ⟨p, 67, none⟩) hpp (.string ⟨#[]⟩)).setCell (p := ⟨p, 68, none⟩) hpp (.string ⟨#[]⟩)).setCell (p := ⟨p, 69, none⟩) hpp (.string ⟨#[]⟩)).setCell (p := ⟨p, 70, none⟩) hpp (.int .i32 0)).setCell (p := ⟨p, 71, none⟩) hpp (.int .i32 0)).setCell (p := ⟨p, 72, none⟩) hpp (.int .i32 0)).setCell (p := ⟨p, 73, none⟩) hpp (.int .i32 0)).setCell (p := ⟨p, 74, none⟩) hpp (.bool true)).setCell (p := ⟨p, 75, none⟩) hpp (.bool false)).setCell (p := ⟨p, 76, none⟩) hpp (.bool true)))
  have l4 := (((((((((((L3.out.set (o := 67) hpn (.string ⟨#[]⟩)).set (o := 68) hpn (.string ⟨#[]⟩)).set (o := 69) hpn (.string ⟨#[]⟩)).set (o := 70) hpn (.int .i32 0)).set (o := 71) hpn (.int .i32 0)).set (o := 72) hpn (.int .i32 0)).set (o := 73) hpn (.int .i32 0)).set (o := 74) hpn (.bool true)).set (o := 75) hpn (.bool false)).set (o := 76) hpn (.bool true)))
  have P4 := Lib.hid (par_mark C n f u HP.out)
  clear c67 f67 e67
  clear c68 f68 e68
  clear c69 f69 e69
  clear c70 f70 e70
  clear c71 f71 e71
  clear c72 f72 e72
  clear c73 f73 e73
  clear c74 f74 e74
  clear c75 f75 e75
  clear c76 f76 e76
  refine (c9N p n f u _ _ HF.out HU.out k4 P4.out).mono ?_
  rintro e w3 ⟨rfl, hb3⟩
  have k5 := k4.below hb3
  have l5 := l4.keep hb3
  have b5 := b4.trans (hb3.mono (by have := B3.out.size; simp; omega))
  have c54 := (k5.cell 54).trans P4.out.l3
  have fl5 := k5.lt
  have L5 := Lib.hid l5
  have B5 := Lib.hid b5
  clear k4 b4 l4 hb3 k5 l5 b5 B3 L3 K3
  go_wp2_with fail
  refine (c25 n 0 0 none _ (by omega) L5.out.ms L5.out.mu).mono ?_
  rintro e w4 ⟨rfl, hb6, _⟩
  go_wp2_with fail
  go_ret2
  exact ⟨rfl, B5.out.trans (hb6.mono hn)⟩
set_option maxHeartbeats 4000000 in
theorem c5Y (f u : Int) (w : World) (hf : f = 1 ∨ f = 2) (hu : bits .and .u64 u 144115188075855872 = 0) :
    Calls Tryf.prog 5 #[.int .u64 144115188075855872, .int .u64 u, .int .u64 0, .string ⟨#[]⟩, .int .u8 f, .bool false, .int .i32 0, .string ⟨#[]⟩, .int .i32 0, .int .i32 0] w fun e w' => ∃ g c, e = .returned (.tuple #[.bool true, .slice (some ⟨g, 0, none⟩) 1 c]) ∧ w'.cell? ⟨g, 6, none⟩ = some (.int .u8 0) ∧ g < w'.heap.size ∧ Below w.heap.size w w' := by
  have HF := Lib.hid hf
  have HU := Lib.hid hu
  clear hf hu
  go_enter Tryf.func5, Tryf.ntmps5
  go_wp2_with fail
  refine (c7 0 f _).mono ?_
  rintro e w1 ⟨p, C, n, rfl, hb, hp, hl, hbel, hn, hpp, hpn⟩
  have S : ∀ i, i < 353 → ∃ v, C[i]? = some v := fun i hi => ⟨C[i]'(by have := hp.sz; omega), Array.getElem?_eq_getElem (by have := hp.sz; omega)⟩
  obtain ⟨v23, e23⟩ := S 23 (by omega)
  obtain ⟨v25, e25⟩ := S 25 (by omega)
  obtain ⟨v18, e18⟩ := S 18 (by omega)
  obtain ⟨v341, e341⟩ := S 341 (by omega)
  obtain ⟨v329, e329⟩ := S 329 (by omega)
  obtain ⟨v60, e60⟩ := S 60 (by omega)
  obtain ⟨v67, e67⟩ := S 67 (by omega)
  obtain ⟨v68, e68⟩ := S 68 (by omega)
  obtain ⟨v69, e69⟩ := S 69 (by omega)
  obtain ⟨v70, e70⟩ := S 70 (by omega)
  obtain ⟨v71, e71⟩ := S 71 (by omega)
  obtain ⟨v72, e72⟩ := S 72 (by omega)
  obtain ⟨v73, e73⟩ := S 73 (by omega)
  obtain ⟨v74, e74⟩ := S 74 (by omega)
  obtain ⟨v75, e75⟩ := S 75 (by omega)
  obtain ⟨v76, e76⟩ := S 76 (by omega)
  have c23 := (hb.cell 23).trans e23
  have f23 := hb.free 23
  have c25 := (hb.cell 25).trans e25
  have f25 := hb.free 25
  have c18 := (hb.cell 18).trans e18
  have f18 := hb.free 18
  have c341 := (hb.cell 341).trans e341
  have f341 := hb.free 341
  have c329 := (hb.cell 329).trans e329
  have f329 := hb.free 329
  have c60 := (hb.cell 60).trans e60
  have f60 := hb.free 60
  have fl := hb.lt
  have K1 := Lib.hid hb
  have HP := Lib.hid hp
  have HL := Lib.hid hl
  have BB := Lib.hid hbel
  clear hb hp hl hbel
  go_wp2_with fail
  have k2 := (((((((K1.out.set 23 (.int .u64 u)).set 25 (.int .u64 0)).set 18 (.string ⟨#[]⟩)).set 341 (.bool false)).set 329 (.int .i32 0)).set 60 (.string ⟨#[]⟩)))
  have b2 := (((((((BB.out.setCell (p := ⟨p, 23, none⟩) hpp (.int .u64 u)).setCell (p := ⟨p, 25, none⟩) hpp (.int .u64 0)).setCell (p := ⟨p, 18, none⟩) hpp (.string ⟨#[]⟩)).setCell (p := ⟨p, 341, none⟩) hpp (.bool false)).setCell (p := ⟨p, 329, none⟩) hpp (.int .i32 0)).setCell (p := ⟨p, 60, none⟩) hpp (.string ⟨#[]⟩)))
  have l2 := (((((((HL.out.set (o := 23) hpn (.int .u64 u)).set (o := 25) hpn (.int .u64 0)).set (o := 18) hpn (.string ⟨#[]⟩)).set (o := 341) hpn (.bool false)).set (o := 329) hpn (.int .i32 0)).set (o := 60) hpn (.string ⟨#[]⟩)))
  refine (c8 p _ ⟨#[]⟩ _ k2 ?_ ?_ ?_).mono ?_
  · rw [Array.getElem?_setIfInBounds_ne (by decide), Array.getElem?_setIfInBounds_ne (by decide), Array.getElem?_setIfInBounds_ne (by decide), Array.getElem?_setIfInBounds_ne (by decide), Array.getElem?_setIfInBounds_ne (by decide), Array.getElem?_setIfInBounds_ne (by decide)]; exact HP.out.p0
  · rw [Array.getElem?_setIfInBounds_ne (by decide), Array.getElem?_setIfInBounds_ne (by decide), Array.getElem?_setIfInBounds_ne (by decide), Array.getElem?_setIfInBounds_ne (by decide), Array.getElem?_setIfInBounds_ne (by decide), Array.getElem?_setIfInBounds_ne (by decide)]; exact HP.out.p1
  · simp [Array.getElem?_setIfInBounds, HP.out.sz]
  rintro e w2 ⟨rfl, hb2⟩
  clear c23 f23
  clear c25 f25
  clear c18 f18
  clear c341 f341
  clear c329 f329
  clear c60 f60
  have k3 := k2.below hb2
  have b3 := b2.trans (hb2.mono (by have := BB.out.size; simp; omega))
  have l3 := l2.keep hb2
  have c67 := (k3.cell 67).trans (show _ = some v67 by rw [Array.getElem?_setIfInBounds_ne (by decide), Array.getElem?_setIfInBounds_ne (by decide), Array.getElem?_setIfInBounds_ne (by decide), Array.getElem?_setIfInBounds_ne (by decide), Array.getElem?_setIfInBounds_ne (by decide), Array.getElem?_setIfInBounds_ne (by decide)]; exact e67)
  have f67 := k3.free 67
  have c68 := (k3.cell 68).trans (show _ = some v68 by rw [Array.getElem?_setIfInBounds_ne (by decide), Array.getElem?_setIfInBounds_ne (by decide), Array.getElem?_setIfInBounds_ne (by decide), Array.getElem?_setIfInBounds_ne (by decide), Array.getElem?_setIfInBounds_ne (by decide), Array.getElem?_setIfInBounds_ne (by decide)]; exact e68)
  have f68 := k3.free 68
  have c69 := (k3.cell 69).trans (show _ = some v69 by rw [Array.getElem?_setIfInBounds_ne (by decide), Array.getElem?_setIfInBounds_ne (by decide), Array.getElem?_setIfInBounds_ne (by decide), Array.getElem?_setIfInBounds_ne (by decide), Array.getElem?_setIfInBounds_ne (by decide), Array.getElem?_setIfInBounds_ne (by decide)]; exact e69)
  have f69 := k3.free 69
  have c70 := (k3.cell 70).trans (show _ = some v70 by rw [Array.getElem?_setIfInBounds_ne (by decide), Array.getElem?_setIfInBounds_ne (by decide), Array.getElem?_setIfInBounds_ne (by decide), Array.getElem?_setIfInBounds_ne (by decide), Array.getElem?_setIfInBounds_ne (by decide), Array.getElem?_setIfInBounds_ne (by decide)]; exact e70)
  have f70 := k3.free 70
  have c71 := (k3.cell 71).trans (show _ = some v71 by rw [Array.getElem?_setIfInBounds_ne (by decide), Array.getElem?_setIfInBounds_ne (by decide), Array.getElem?_setIfInBounds_ne (by decide), Array.getElem?_setIfInBounds_ne (by decide), Array.getElem?_setIfInBounds_ne (by decide), Array.getElem?_setIfInBounds_ne (by decide)]; exact e71)
  have f71 := k3.free 71
  have c72 := (k3.cell 72).trans (show _ = some v72 by rw [Array.getElem?_setIfInBounds_ne (by decide), Array.getElem?_setIfInBounds_ne (by decide), Array.getElem?_setIfInBounds_ne (by decide), Array.getElem?_setIfInBounds_ne (by decide), Array.getElem?_setIfInBounds_ne (by decide), Array.getElem?_setIfInBounds_ne (by decide)]; exact e72)
  have f72 := k3.free 72
  have c73 := (k3.cell 73).trans (show _ = some v73 by rw [Array.getElem?_setIfInBounds_ne (by decide), Array.getElem?_setIfInBounds_ne (by decide), Array.getElem?_setIfInBounds_ne (by decide), Array.getElem?_setIfInBounds_ne (by decide), Array.getElem?_setIfInBounds_ne (by decide), Array.getElem?_setIfInBounds_ne (by decide)]; exact e73)
  have f73 := k3.free 73
  have c74 := (k3.cell 74).trans (show _ = some v74 by rw [Array.getElem?_setIfInBounds_ne (by decide), Array.getElem?_setIfInBounds_ne (by decide), Array.getElem?_setIfInBounds_ne (by decide), Array.getElem?_setIfInBounds_ne (by decide), Array.getElem?_setIfInBounds_ne (by decide), Array.getElem?_setIfInBounds_ne (by decide)]; exact e74)
  have f74 := k3.free 74
  have c75 := (k3.cell 75).trans (show _ = some v75 by rw [Array.getElem?_setIfInBounds_ne (by decide), Array.getElem?_setIfInBounds_ne (by decide), Array.getElem?_setIfInBounds_ne (by decide), Array.getElem?_setIfInBounds_ne (by decide), Array.getElem?_setIfInBounds_ne (by decide), Array.getElem?_setIfInBounds_ne (by decide)]; exact e75)
  have f75 := k3.free 75
  have c76 := (k3.cell 76).trans (show _ = some v76 by rw [Array.getElem?_setIfInBounds_ne (by decide), Array.getElem?_setIfInBounds_ne (by decide), Array.getElem?_setIfInBounds_ne (by decide), Array.getElem?_setIfInBounds_ne (by decide), Array.getElem?_setIfInBounds_ne (by decide), Array.getElem?_setIfInBounds_ne (by decide)]; exact e76)
  have f76 := k3.free 76
  have fl2 := k3.lt
  have K3 := Lib.hid k3
  have B3 := Lib.hid b3
  have L3 := Lib.hid l3
  clear k2 b2 l2 hb2 k3 b3 l3 fl K1 HL
  go_wp2_with fail
  have k4 := (((((((((((K3.out.set 67 (.string ⟨#[]⟩)).set 68 (.string ⟨#[]⟩)).set 69 (.string ⟨#[]⟩)).set 70 (.int .i32 0)).set 71 (.int .i32 0)).set 72 (.int .i32 0)).set 73 (.int .i32 0)).set 74 (.bool true)).set 75 (.bool false)).set 76 (.bool true)))
  have b4 := (((((((((((B3.out.setCell (p := ⟨p, 67, none⟩) hpp (.string ⟨#[]⟩)).setCell (p := ⟨p, 68, none⟩) hpp (.string ⟨#[]⟩)).setCell (p := ⟨p, 69, none⟩) hpp (.string ⟨#[]⟩)).setCell (p := ⟨p, 70, none⟩) hpp (.int .i32 0)).setCell (p := ⟨p, 71, none⟩) hpp (.int .i32 0)).setCell (p := ⟨p, 72, none⟩) hpp (.int .i32 0)).setCell (p := ⟨p, 73, none⟩) hpp (.int .i32 0)).setCell (p := ⟨p, 74, none⟩) hpp (.bool true)).setCell (p := ⟨p, 75, none⟩) hpp (.bool false)).setCell (p := ⟨p, 76, none⟩) hpp (.bool true)))
  have l4 := (((((((((((L3.out.set (o := 67) hpn (.string ⟨#[]⟩)).set (o := 68) hpn (.string ⟨#[]⟩)).set (o := 69) hpn (.string ⟨#[]⟩)).set (o := 70) hpn (.int .i32 0)).set (o := 71) hpn (.int .i32 0)).set (o := 72) hpn (.int .i32 0)).set (o := 73) hpn (.int .i32 0)).set (o := 74) hpn (.bool true)).set (o := 75) hpn (.bool false)).set (o := 76) hpn (.bool true)))
  have P4 := Lib.hid (par_mark C n f u HP.out)
  clear c67 f67 e67
  clear c68 f68 e68
  clear c69 f69 e69
  clear c70 f70 e70
  clear c71 f71 e71
  clear c72 f72 e72
  clear c73 f73 e73
  clear c74 f74 e74
  clear c75 f75 e75
  clear c76 f76 e76
  refine (c9Y p n f u _ _ HF.out HU.out k4 P4.out l4 hpn).mono ?_
  rintro e w3 ⟨rfl, ⟨⟨g, c, hms, h6, hg⟩, hmu⟩, hb3, c54⟩
  have b5 := b4.trans (hb3.mono hpp)
  have fl5 : p < w3.heap.size := by have := k4.lt; have := hb3.size; omega
  have B5 := Lib.hid b5
  have MS := Lib.hid hms
  have MU := Lib.hid hmu
  have H6 := Lib.hid h6
  have hne : g ≠ n + 1 + 1 + 1 := fun e => by
    subst e
    have := (hmu.cell 6).symm.trans h6
    simp at this
  clear k4 b4 l4 hb3 b5 B3 L3 K3 hms hmu h6
  go_wp2_with fail
  refine (c25 n 1 c (some ⟨g, 0, none⟩) _ (by omega) MS.out MU.out).mono ?_
  rintro e w4 ⟨rfl, hb6, hs6⟩
  have h66 := hs6.cell (p := g) (o := 6) hne H6.out
  have hsz := hs6.1
  have B6 := Lib.hid hb6
  have H66 := Lib.hid h66
  clear hb6 hs6 h66
  go_wp2_with fail
  go_ret2
  exact ⟨g, c, rfl, H66.out, by omega, B5.out.trans (B6.out.mono hn)⟩
theorem c10 (p n : Nat) (f u : Int) (C : Array Value) (w : World) (hb : Blk w p C 165) (hp : Par n f u C) : Calls Tryf.prog 10 #[.pointer (some ⟨p, 0, none⟩)] w fun e w' => e = .returned (.bool (f == 3)) ∧ w = w' := by
  have n36 := (hb.cell 36).trans hp.fm
  have fl := hb.lt
  clear hb hp
  go_enter Tryf.func10, Tryf.ntmps10
  go_wp2
  go_ret
  exact ⟨rfl, rfl⟩
theorem c6 (f : Int) (w : World) : Calls Tryf.prog 6 #[.int .u8 0, .int .u8 f] w fun e w' => e = .returned (.bool (f == 3)) ∧ Below w.heap.size w w' := by
  go_enter Tryf.func6, Tryf.ntmps6
  go_wp2_with fail
  refine (c7 0 f _).mono ?_
  rintro e w1 ⟨p, C, n, rfl, hb, hp, hl, hbel, hn, hpp, hpn⟩
  have K1 := Lib.hid hb
  have HP := Lib.hid hp
  have BB := Lib.hid hbel
  clear hb hp hl hbel
  go_wp2_with (first | (go_at_call 10; refine (c10 p n f 0 C _ K1.out HP.out).mono ?_; rintro e w2 ⟨rfl, rfl⟩))
  go_ret
  exact ⟨rfl, BB.out⟩
theorem c4 (f : Int) (w : World) : Calls Tryf.prog 4 #[.int .u8 f] w fun e w' => e = .returned (.bool (f == 0 || f == 1 || f == 2 || f == 3)) ∧ w = w' := by
  by_cases h0 : f = 0
  · subst h0
    go_enter Tryf.func4, Tryf.ntmps4
    go_wp2
    go_ret
    exact ⟨rfl, rfl⟩
  · by_cases h1 : f = 1
    · subst h1
      go_enter Tryf.func4, Tryf.ntmps4
      go_wp2
      go_ret
      exact ⟨rfl, rfl⟩
    · by_cases h2 : f = 2
      · subst h2
        go_enter Tryf.func4, Tryf.ntmps4
        go_wp2
        go_ret
        exact ⟨rfl, rfl⟩
      · by_cases h3 : f = 3
        · subst h3
          go_enter Tryf.func4, Tryf.ntmps4
          go_wp2
          go_ret
          exact ⟨rfl, rfl⟩
        · have e0 : (f == 0) = false := by simpa using h0
          have e1 : (f == 1) = false := by simpa using h1
          have e2 : (f == 2) = false := by simpa using h2
          have e3 : (f == 3) = false := by simpa using h3
          go_enter Tryf.func4, Tryf.ntmps4
          go_wp2
          go_ret
          exact ⟨by simp [e0, e1, e2, e3], rfl⟩
end Go.Proofs.YtlcbaglphhbljaaFmt.es
