/- The contracts of the line tracker at an empty text, and of 'MsgData'. No conditions beyond the hypotheses. -/
import Derived.Test.YtlcbaglphhbljaaFmtEsmA
import Derived.BigQuiet
namespace Go.Proofs.YtlcbaglphhbljaaFmt.es
open Go.ChangeShapes Go.WideShapes Go.ChangeAt Go.RowKit Go.Mine
set_option linter.unusedVariables false
set_option linter.unusedSimpArgs false
set_option maxRecDepth 100000

theorem Blk.drewN {w : World} {p : Nat} {C : Array Value} {t : TypeId} (h : Blk w p C t) (m : Nat) : Blk (w.drewN m) p C t := h
theorem below_drewN {B : Nat} {a w : World} (h : Below B a w) (m : Nat) : Below B a (w.drewN m) := ⟨h.os, h.tape, h.output, h.size, h.block⟩
set_option maxHeartbeats 2000000 in
theorem c52 (p n : Nat) (f u : Int) (C : Array Value) (w : World) (hb : Blk w p C 165) (hp : Par n f u C) :
    Calls Tryf.prog 52 #[.pointer (some ⟨p, 67, none⟩), .int .i32 0] w fun e w' => e = .returned (.tuple #[]) ∧ w = w' := by
  have n0 : w.cell? ⟨p, 67, none⟩ = some (.string ⟨#[]⟩) := (hb.cell 67).trans (hp.tr 0 (by decide))
  have n3 : w.cell? ⟨p, 70, none⟩ = some (.int .i32 0) := (hb.cell 70).trans (hp.tr 3 (by decide))
  have fl := hb.lt
  clear hb hp
  go_enter Tryf.func52, Tryf.ntmps52
  go_wp2
  go_end0
  exact ⟨rfl, rfl⟩
set_option maxHeartbeats 2000000 in
theorem c43 (p n : Nat) (f u : Int) (C : Array Value) (w : World) (hb : Blk w p C 165) (hp : Par n f u C) :
    Calls Tryf.prog 43 #[.pointer (some ⟨p, 67, none⟩), .int .i64 0] w fun e w' => e = .returned (.tuple #[.int .i64 0, .int .i64 0, .int .i64 0, .int .i64 0]) ∧ ∃ m, w' = ((w.setCell ⟨p, 75, none⟩ (.bool true)).setCell ⟨p, 73, none⟩ (.int .i32 0)).drewN m := by
  have n0 : w.cell? ⟨p, 67, none⟩ = some (.string ⟨#[]⟩) := (hb.cell 67).trans (hp.tr 0 (by decide))
  have n3 : w.cell? ⟨p, 70, none⟩ = some (.int .i32 0) := (hb.cell 70).trans (hp.tr 3 (by decide))
  have n4 : w.cell? ⟨p, 71, none⟩ = some (.int .i32 0) := (hb.cell 71).trans (hp.tr 4 (by decide))
  have n5 : w.cell? ⟨p, 72, none⟩ = some (.int .i32 0) := (hb.cell 72).trans (hp.tr 5 (by decide))
  have n6 : w.cell? ⟨p, 73, none⟩ = some (.int .i32 0) := (hb.cell 73).trans (hp.tr 6 (by decide))
  have n7 : w.cell? ⟨p, 74, none⟩ = some (.bool true) := (hb.cell 74).trans (hp.tr 7 (by decide))
  have n8 : w.cell? ⟨p, 75, none⟩ = some (.bool false) := (hb.cell 75).trans (hp.tr 8 (by decide))
  have f6 := hb.free 73
  have f8 := hb.free 75
  have fl := hb.lt
  have KB := Lib.hid hb
  have KP := Lib.hid hp
  clear hb hp
  go_enter Tryf.func43, Tryf.ntmps43
  go_wp2_with (first | (go_at_call 52; refine (c52 p n f u C _ KB.out KP.out).mono ?_; rintro e w1 ⟨rfl, rfl⟩))
  refine wp_loop_rounds 1 ?_
  rw [rounds_succ]
  go_wp2_with fail
  go_quiet (fail)
  go_wp2_with fail
  exact bodyPost_ret (v := .tuple #[.int .i64 0, .int .i64 0, .int .i64 0, .int .i64 0]) (by simp [results, Tryf.results43, go_sem]; try rfl) rfl ⟨rfl, _, rfl⟩
set_option maxHeartbeats 2000000 in
theorem c32 (p n : Nat) (f u : Int) (C : Array Value) (w : World) (hb : Blk w p C 165) (hp : Par n f u C) :
    Calls Tryf.prog 32 #[.pointer (some ⟨p, 67, none⟩), .agg #[.int .i32 0, .int .i32 0]] w fun e w' => ∃ q, e = .returned (.pointer (some ⟨q, 0, none⟩)) ∧ Below p w w' ∧ Same (fun k => k = p) w w' ∧ (∀ o, o < 67 → w'.cell? ⟨p, o, none⟩ = w.cell? ⟨p, o, none⟩) := by
  have n0 : w.cell? ⟨p, 67, none⟩ = some (.string ⟨#[]⟩) := (hb.cell 67).trans (hp.tr 0 (by decide))
  have n1 : w.cell? ⟨p, 68, none⟩ = some (.string ⟨#[]⟩) := (hb.cell 68).trans (hp.tr 1 (by decide))
  have n2 : w.cell? ⟨p, 69, none⟩ = some (.string ⟨#[]⟩) := (hb.cell 69).trans (hp.tr 2 (by decide))
  have n9 : w.cell? ⟨p, 76, none⟩ = some (.bool true) := (hb.cell 76).trans (hp.tr 9 (by decide))
  have fl := hb.lt
  have fl1 : p < w.heap.size + 1 := by omega
  have KW := Lib.hid hb
  have KB := Lib.hid (hb.alloc (.cells #[.int .i32 0, .int .i32 0] 57))
  have KP := Lib.hid hp
  clear hb hp
  go_enter Tryf.func32, Tryf.ntmps32
  go_upto_region 4 with (first | (go_at_call 43; refine (c43 p n f u C _ KB.out KP.out).mono ?_; rintro e w1 ⟨rfl, m, rfl⟩))
  go_region
  go_wp2_with fail
  go_ret
  refine ⟨_, rfl, ?_, ?_, ?_⟩
  · (repeat (first | with_reducible exact Below.refl _ _ | with_reducible refine Below.drew ?_ | with_reducible refine below_drewN ?_ _ | with_reducible refine Below.alloc ?_ (by simp <;> omega) _ | with_reducible refine Below.setCell ?_ (by simp <;> omega) _))
  · (repeat (first | with_reducible exact Same.refl _ _ | with_reducible refine Same.drew ?_ | with_reducible refine Same.drewN ?_ _ | with_reducible refine Same.alloc ?_ _ | refine Same.setCell (p := ⟨p, _, none⟩) ?_ (by simp) _))
  · have hpn : p ≠ w.heap.size := by omega
    have hpn1 : p ≠ w.heap.size + 1 := by omega
    intro o ho
    exact ((((((((KW.out.set 75 (.bool true)).set 73 (.int .i32 0)).alloc _) |> (Blk.drewN · (m + 1))).alloc _)).cell o).trans (by rw [Array.getElem?_setIfInBounds_ne (by omega), Array.getElem?_setIfInBounds_ne (by omega)])).trans (KW.out.cell o).symm
set_option maxHeartbeats 2000000 in
theorem c27 (p n : Nat) (f u : Int) (C : Array Value) (t : ByteArray) (w : World) (hb : Blk w p C 165) (hp : Par n f u C) :
    Calls Tryf.prog 27 #[.pointer (some ⟨p, 67, none⟩), .agg #[.int .i32 0, .int .i32 0], .string t] w fun e w' => ∃ q, e = .returned (.agg #[.nilIface, .pointer (some ⟨q, 0, none⟩), .string t, .bool false]) ∧ Below p w w' ∧ Same (fun k => k = p) w w' ∧ (∀ o, o < 67 → w'.cell? ⟨p, o, none⟩ = w.cell? ⟨p, o, none⟩) := by
  have fl := hb.lt
  have KB := Lib.hid hb
  have KP := Lib.hid hp
  clear hb hp
  go_enter Tryf.func27, Tryf.ntmps27
  go_wp2_with fail
  refine (c32 p n f u C _ ((KB.out.alloc _).alloc _) KP.out).mono ?_
  rintro e w1 ⟨q, rfl, hb1, hs1, n54⟩
  have HK := Lib.hid n54
  clear n54
  have hB0 : Blk ((w.alloc (Obj.cells #[Value.int IntKind.i32 0, Value.int IntKind.i32 0] 57)).alloc (Obj.cells #[Value.nilIface, Value.pointer none, Value.string ⟨#[]⟩, Value.bool false] 31)) (w.heap.size + 1) #[Value.nilIface, Value.pointer none, Value.string ⟨#[]⟩, Value.bool false] 31 := blk_new' _ (by simp)
  have hb2 : Below p w w1 := (((Below.refl p w).alloc (by omega) _).alloc (by simp; omega) _).trans hb1
  have hs2 : Same (fun k => k = p) w w1 := (((Same.refl _ w).alloc _).alloc _).trans hs1
  have k1 := hB0.same hs1 (by omega)
  have fl1 := k1.lt
  have c0 := k1.cell 0
  have c1 := k1.cell 1
  have c2 := k1.cell 2
  have c3 := k1.cell 3
  have f0 := k1.free 0
  have f1 := k1.free 1
  have f2 := k1.free 2
  have f3 := k1.free 3
  simp at c0 c1 c2 c3
  have HB := Lib.hid hb2
  have HS := Lib.hid hs2
  clear hB0 hb1 hs1 hb2 hs2 k1
  go_wp2_with fail
  refine bodyPost_ret (v := .agg #[.nilIface, .pointer (some ⟨q, 0, none⟩), .string t, .bool false]) (by simp [results, Tryf.results27, go_sem, fl1, c0, c1, c2, c3]; try rfl) rfl ⟨q, rfl, ?_, ?_, ?_⟩
  · have h := HB.out
    (repeat (first | with_reducible exact h | with_reducible refine Below.setCell ?_ (by simp <;> omega) _))
  · have h := HS.out
    (repeat (first | with_reducible exact h | with_reducible refine Same.setNew ?_ (by simp) _))
  · have hpn : w.heap.size + 1 ≠ p := by omega
    intro o ho
    rw [World.cell?_setCell_other _ ⟨w.heap.size + 1, 3, none⟩ ⟨p, o, none⟩ _ (fun e => hpn (congrArg Addr.block e)), World.cell?_setCell_other _ ⟨w.heap.size + 1, 2, none⟩ ⟨p, o, none⟩ _ (fun e => hpn (congrArg Addr.block e)), World.cell?_setCell_other _ ⟨w.heap.size + 1, 1, none⟩ ⟨p, o, none⟩ _ (fun e => hpn (congrArg Addr.block e)), World.cell?_setCell_other _ ⟨w.heap.size + 1, 0, none⟩ ⟨p, o, none⟩ _ (fun e => hpn (congrArg Addr.block e)), HK.out o ho]
    exact ((((KB.out.alloc _).alloc _).cell o).trans (KB.out.cell o).symm)
end Go.Proofs.YtlcbaglphhbljaaFmt.es
