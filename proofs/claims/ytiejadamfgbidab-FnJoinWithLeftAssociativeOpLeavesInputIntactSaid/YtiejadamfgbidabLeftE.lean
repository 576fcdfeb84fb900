/- JoinWithLeftAssociativeOp on two trees: it returns a node and writes nothing into what was there. No conditions beyond their hypotheses. -/
import Derived.Test.YtiejadamfgbidabLeftD
namespace Go.Proofs.Ytiejadamfgbidab.left
open Go.ChangeShapes Go.WideShapes Go.ChangeAt Go.RowKit Go.Mine
set_option linter.unusedVariables false
set_option maxRecDepth 100000

theorem join_any (op : Int) (ho : op ≠ 36) (hop0 : 0 ≤ op) : ∀ (m : Nat) (t : E), t.size ≤ m → ∀ (w : World) (T p : Nat) (l : Int), NC w T p → t.rep w → Calls Try.prog 13 #[.int .u8 op, valL T p l, valL t.ty t.at_ t.n] w (JP op w)
  | 0, t, hm, _, _, _, _, _, _ => by have := sz_pos t; omega
  | m + 1, t, hm, w, T, p, l, hn, ht => join_nc op ho hop0 t w T p l hn ht fun t' ht' w T p l hn ht => join_any op ho hop0 m t' (by omega) w T p l hn ht
def JW (w : World) (e : Ending) (w' : World) : Prop := ∃ p l, e = .returned (.agg #[.iface 110 (.pointer (some ⟨p, 0, none⟩)), .int .i32 l]) ∧ Below w.heap.size w w'
set_option maxHeartbeats 4000000 in
theorem join_comma (op : Int) (p n : Nat) (l r t : E) (w : World) (hc : Blk w p #[.iface l.ty (.pointer (some ⟨l.at_, 0, none⟩)), .int .i32 (l.n : Int), .iface r.ty (.pointer (some ⟨r.at_, 0, none⟩)), .int .i32 (r.n : Int), .int .u8 36, .bool false] 112)
    (ih : ∀ w1, Below w.heap.size w w1 → Calls Try.prog 13 #[.int .u8 op, valL r.ty r.at_ r.n, valL t.ty t.at_ t.n] w1 (JW w1)) :
    Calls Try.prog 13 #[.int .u8 op, valL 110 p (n : Int), valL t.ty t.at_ t.n] w (JW w) := by
  have c0 : w.cell? ⟨p, 0, none⟩ = some (.iface l.ty (.pointer (some ⟨l.at_, 0, none⟩))) := hc.cell 0
  have c1 : w.cell? ⟨p, 1, none⟩ = some (.int .i32 (l.n : Int)) := hc.cell 1
  have c2 : w.cell? ⟨p, 2, none⟩ = some (.iface r.ty (.pointer (some ⟨r.at_, 0, none⟩))) := hc.cell 2
  have c3 : w.cell? ⟨p, 3, none⟩ = some (.int .i32 (r.n : Int)) := hc.cell 3
  have c4 : w.cell? ⟨p, 4, none⟩ = some (.int .u8 36) := hc.cell 4
  have c5 : w.cell? ⟨p, 5, none⟩ = some (.bool false) := hc.cell 5
  have h0 := hc.lt
  have h1 : p < w.heap.size + 1 := by omega
  have h2 : p < w.heap.size + 1 + 1 := by omega
  have h3 : p < w.heap.size + 1 + 1 + 1 := by omega
  have IH := Lib.hid ih
  clear ih hc
  go_enter Try.func13, Try.ntmps13
  go_wp2_with fail
  refine (IH.out _ (balloc (balloc (balloc (balloc (Below.refl _ _) _) _) _) _)).mono ?_
  rintro e w2 ⟨p2, l2, rfl, hb2⟩
  have k3 := Blk.below (blkNew (q := w.heap.size + 1 + 1 + 1) _ _ (by simp)) hb2
  have k0 := Blk.below (Blk.alloc (Blk.alloc (Blk.alloc (blkNew (q := w.heap.size) _ _ (by simp)) _) _) _) hb2
  have k2 := Blk.below (Blk.alloc (blkNew (q := w.heap.size + 1 + 1) _ _ (by simp)) _) hb2
  have a0 := k0.cell 0
  have a1 := k0.cell 1
  have b0 := k2.cell 0
  have b1 := k2.cell 1
  have f0 := k2.free 0
  have f1 := k2.free 1
  have d2 := k3.cell 2
  have d3 := k3.cell 3
  have g2 := k3.free 2
  have g3 := k3.free 3
  have hl3 := k3.lt
  have hl2 : w.heap.size + 1 + 1 < w2.heap.size := k2.lt
  have hl0 : w.heap.size < w2.heap.size := k0.lt
  have B2 := Lib.hid (below2 (balloc (balloc (balloc (balloc (Below.refl w.heap.size w) _) _) _) _) hb2)
  clear hb2 k3 k0 k2
  simp at a0 a1 b0 b1 d2 d3
  go_wp2_with fail
  refine bodyPost_ret (v := .agg #[.iface 110 (.pointer (some ⟨w.heap.size + 1 + 1 + 1, 0, none⟩)), .int .i32 (n : Int)]) (by simp [results, Try.results13, go_sem, b0, b1, hl2]) rfl ⟨_, _, rfl, ?_⟩
  go_light
  have h := B2.out
  repeat (first | with_reducible exact h | with_reducible refine balloc ?_ _ | with_reducible refine Below.setCell ?_ (by simp <;> omega) _)
theorem join13 (op : Int) (ho : op ≠ 36) (hop0 : 0 ≤ op) (t : E) : ∀ (a : E) (w : World), a.rep w → t.rep w → Calls Try.prog 13 #[.int .u8 op, valL a.ty a.at_ a.n, valL t.ty t.at_ t.n] w (JW w)
  | .num p n, w, _, ht => (join_any op ho hop0 t.size t (Nat.le_refl _) w 46 p n (.num p) ht).mono fun e w' ⟨p, l, he, _, hb⟩ => ⟨p, l, he, hb⟩
  | .bin p o n l r, w, ⟨hc, hl, hr⟩, ht => by
    by_cases h : o = 36
    · subst h
      exact join_comma op p n l r t w hc fun w1 hb => join13 op ho hop0 t r w1 (E.rep_below hb hr) (E.rep_below hb ht)
    · exact (join_any op ho hop0 t.size t (Nat.le_refl _) w 110 p n (.bin p _ _ _ _ o hc h) ht).mono fun e w' ⟨p, l, he, _, hb⟩ => ⟨p, l, he, hb⟩
end Go.Proofs.Ytiejadamfgbidab.left
