/- The contract of 'markSyntaxFeature' at top-level await, where the format refuses it: one message. No conditions beyond the hypotheses. -/
import Derived.Test.YtlcbaglphhbljaaFmtEsmE
import Derived.Deep.RegionHeld3
namespace Go.Proofs.YtlcbaglphhbljaaFmt.es
open Go.RowKit Go.Kit Go.Extern.Stop Go.Stop Go.Extern Go.Mine
set_option linter.unusedVariables false
set_option linter.unusedSimpArgs false
set_option maxRecDepth 100000

set_option maxHeartbeats 8000000 in
theorem c9Y (p n : Nat) (f u : Int) (C : Array Value) (w : World) (hf : f = 1 ∨ f = 2) (hu : bits .and .u64 u 144115188075855872 = 0) (hb : Blk w p C 165) (hp : Par n f u C) (hl : Lg n w) (hpn : p < n) :
    Calls Tryf.prog 9 #[.pointer (some ⟨p, 0, none⟩), .int .u64 144115188075855872, .agg #[.int .i32 0, .int .i32 0]] w fun e w' => e = .returned (.bool true) ∧ One n w' ∧ Below p w w' ∧ w'.cell? ⟨p, 54, none⟩ = some (fnDone n) := by
  have n36 := (hb.cell 36).trans hp.fm
  have n23 := (hb.cell 23).trans hp.un
  have n51 := (hb.cell 51).trans hp.l0
  have n52 := (hb.cell 52).trans hp.l1
  have n53 := (hb.cell 53).trans hp.l2
  have n54 := (hb.cell 54).trans hp.l3
  have n55 := (hb.cell 55).trans hp.l4
  have n56 := (hb.cell 56).trans hp.l5
  have fl := hb.lt
  have fl1 : p < w.heap.size + 1 := by omega
  have fl2 : p < w.heap.size + 1 + 1 := by omega
  have hz : (f == 0 || f == 3) = false := by rcases hf with rfl | rfl <;> rfl
  have hnN : n + 4 < w.heap.size := by have := hl.he.lt; omega
  have KB := Lib.hid hb
  have KP := Lib.hid hp
  have HL := Lib.hid hl
  have HF := Lib.hid hf
  clear hb hp hl hf
  go_enter Tryf.func9, Tryf.ntmps9
  go_upto_region 4 with (first | (go_at_call 12; refine (c12 _ _ hu).mono ?_; rintro e w1 ⟨rfl, rfl⟩) | (go_at_call 13; refine (c13 _ _).mono ?_; rintro e w1 ⟨rfl, rfl⟩; rw [hz]))
  have k0 := KB.out.alloc (Obj.cells #[Value.int IntKind.i32 0, Value.int IntKind.i32 0] 57)
  have g0 := HL.out.alloc (Obj.cells #[Value.int IntKind.i32 0, Value.int IntKind.i32 0] 57)
  have hY : Blk (w.alloc (Obj.cells #[Value.int IntKind.i32 0, Value.int IntKind.i32 0] 57)) w.heap.size #[.int .i32 0, .int .i32 0] 57 := Blk.new w _ _
  have b0 : Below p w (w.alloc (Obj.cells #[Value.int IntKind.i32 0, Value.int IntKind.i32 0] 57)) := (Below.refl p w).alloc (by omega) _
  clear n36 n23 n51 n52 n53 n54 n55 n56
  generalize (w.alloc (Obj.cells #[Value.int IntKind.i32 0, Value.int IntKind.i32 0] 57)) = W at *
  generalize hN : w.heap.size = N at *
  have n36 := (k0.cell 36).trans KP.out.fm
  have n51 := (k0.cell 51).trans KP.out.l0
  have n52 := (k0.cell 52).trans KP.out.l1
  have n53 := (k0.cell 53).trans KP.out.l2
  have n54 := (k0.cell 54).trans KP.out.l3
  have n55 := (k0.cell 55).trans KP.out.l4
  have n56 := (k0.cell 56).trans KP.out.l5
  have y0 := hY.cell 0
  have y1 := hY.cell 1
  have yl := hY.lt
  have kl := k0.lt
  have kl1 : p < W.heap.size + 1 := by omega
  have yl1 : N < W.heap.size + 1 := by omega
  simp at y0 y1
  have HC : Hid (∀ (t : ByteArray) (w' : World), Below W.heap.size W w' → Calls Tryf.prog 14 #[logV n, .pointer (some ⟨p, 67, none⟩), .agg #[.int .i32 0, .int .i32 0], .string t] w' fun e w'' => e = .returned (.tuple #[]) ∧ One n w'' ∧ Below p w w'' ∧ (∀ o, o < 67 → w''.cell? ⟨p, o, none⟩ = W.cell? ⟨p, o, none⟩) ∧ (∀ o, w''.cell? ⟨N, o, none⟩ = W.cell? ⟨N, o, none⟩)) :=
    Lib.hid fun t w' h => (c14 p n f u C t w' (k0.below h) KP.out (g0.keep h) hpn).mono fun e w'' ⟨h1, h2, h3, h4, h5⟩ => ⟨h1, h2, (b0.trans (h.mono (by omega))).trans h3, fun o ho => (h4 o ho).trans ((k0.below h).cell o |>.trans (k0.cell o).symm), fun o => by
      have hy := (hY.below h).same h5 (by rintro (h | ⟨h, h'⟩) <;> omega)
      exact (hy.cell o).trans (hY.cell o).symm⟩
  have HS : Hid (∀ w' : World, Below W.heap.size W w' → w'.cell? ⟨p, 36, none⟩ = some (.int .u8 f) ∧ w'.cell? ⟨p, 51, none⟩ = some (fnAdd n) ∧ w'.cell? ⟨p, 52, none⟩ = some (fnHas n) ∧ w'.cell? ⟨p, 53, none⟩ = some (fnPeek n) ∧ w'.cell? ⟨p, 54, none⟩ = some (fnDone n) ∧ w'.cell? ⟨p, 55, none⟩ = some (.int .i8 3) ∧ w'.cell? ⟨p, 56, none⟩ = some (.map none) ∧ w'.cell? ⟨N, 0, none⟩ = some (.int .i32 0) ∧ w'.cell? ⟨N, 1, none⟩ = some (.int .i32 0)) :=
    Lib.hid fun w' h => ⟨Go.Mine.Below.cellAt h n36, Go.Mine.Below.cellAt h n51, Go.Mine.Below.cellAt h n52, Go.Mine.Below.cellAt h n53, Go.Mine.Below.cellAt h n54, Go.Mine.Below.cellAt h n55, Go.Mine.Below.cellAt h n56, Go.Mine.Below.cellAt h y0, Go.Mine.Below.cellAt h y1⟩
  have HS2 : Hid (∀ w' : World, (∀ o, o < 67 → w'.cell? ⟨p, o, none⟩ = W.cell? ⟨p, o, none⟩) → (∀ o, w'.cell? ⟨N, o, none⟩ = W.cell? ⟨N, o, none⟩) → w'.cell? ⟨p, 36, none⟩ = some (.int .u8 f) ∧ w'.cell? ⟨p, 51, none⟩ = some (fnAdd n) ∧ w'.cell? ⟨p, 52, none⟩ = some (fnHas n) ∧ w'.cell? ⟨p, 53, none⟩ = some (fnPeek n) ∧ w'.cell? ⟨p, 54, none⟩ = some (fnDone n) ∧ w'.cell? ⟨p, 55, none⟩ = some (.int .i8 3) ∧ w'.cell? ⟨p, 56, none⟩ = some (.map none) ∧ w'.cell? ⟨N, 0, none⟩ = some (.int .i32 0) ∧ w'.cell? ⟨N, 1, none⟩ = some (.int .i32 0)) :=
    Lib.hid fun w' h k => ⟨(h 36 (by decide)).trans n36, (h 51 (by decide)).trans n51, (h 52 (by decide)).trans n52, (h 53 (by decide)).trans n53, (h 54 (by decide)).trans n54, (h 55 (by decide)).trans n55, (h 56 (by decide)).trans n56, (k 0).trans y0, (k 1).trans y1⟩
  clear hY k0 g0 b0 KB HL KP
  go_region_held3 (fun w' => w'.cell? ⟨p, 36, none⟩ = some (.int .u8 f) ∧ w'.cell? ⟨p, 51, none⟩ = some (fnAdd n) ∧ w'.cell? ⟨p, 52, none⟩ = some (fnHas n) ∧ w'.cell? ⟨p, 53, none⟩ = some (fnPeek n) ∧ w'.cell? ⟨p, 54, none⟩ = some (fnDone n) ∧ w'.cell? ⟨p, 55, none⟩ = some (.int .i8 3) ∧ w'.cell? ⟨p, 56, none⟩ = some (.map none) ∧ w'.cell? ⟨N, 0, none⟩ = some (.int .i32 0) ∧ w'.cell? ⟨N, 1, none⟩ = some (.int .i32 0)) ((first | (refine HS2.out _ HP2.out HN2.out; done) | (refine HS.out _ ?_; (repeat (first | with_reducible exact Below.refl _ _ | with_reducible refine Below.drew ?_ | with_reducible refine below_drewN ?_ _ | with_reducible refine Below.alloc ?_ (by simp <;> omega) _)); done)))
    (first | (go_at_call 16; refine (c16 _ _ HF.out).mono ?_; rintro e w1 ⟨⟨s, rfl⟩, rfl⟩) | (go_at_call 14; refine (HC.out _ _ (by repeat (first | with_reducible exact Below.refl _ _ | with_reducible refine Below.drew ?_ | with_reducible refine below_drewN ?_ _ | with_reducible refine Below.alloc ?_ (by simp <;> omega) _))).mono ?_; rintro e w2 ⟨rfl, ho, hb2, hp2, hn2⟩; have HP2 := Lib.hid hp2; have HN2 := Lib.hid hn2; clear hp2 hn2))
  all_goals
    have h54 := Lib.hid ((HP2.out 54 (by decide)).trans n54)
    have HO := Lib.hid ho
    have HB := Lib.hid hb2
    clear ho hb2
    go_wp2_with fail
    go_ret
    exact ⟨rfl, HO.out, HB.out, h54.out⟩
end Go.Proofs.YtlcbaglphhbljaaFmt.es
