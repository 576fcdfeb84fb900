/- JoinWithLeftAssociativeOp: it returns a node and writes nothing into what was there. No conditions beyond their hypotheses. -/
import Derived.Test.YtiejadamfgbidabLeftA
import Derived.Deep.DeepCutAuto
import Derived.Deep.LoopGhost
namespace Go.Proofs.Ytiejadamfgbidab.left
open Go.ChangeShapes Go.WideShapes Go.ChangeAt Go.RowKit Go.Mine
set_option linter.unusedVariables false
set_option maxRecDepth 100000

/-- A data value that is no comma: a number, or a binary node of another operator. -/
inductive NC (w : World) : Nat → Nat → Prop
  | num (p : Nat) : NC w 46 p
  | bin (p : Nat) (a b : Value) (c d op : Int) (h : Blk w p #[a, .int .i32 c, b, .int .i32 d, .int .u8 op, .bool false] 112) (ho : op ≠ 36) : NC w 110 p
theorem NC.below {w w' : World} {T p : Nat} (h : NC w T p) (hb : Below w.heap.size w w') : NC w' T p := by
  cases h with
  | num => exact .num _
  | bin _ a b c d op h ho => exact .bin _ _ _ _ _ _ (h.below hb) ho
theorem NC.set {w : World} {T p q : Nat} {C : Array Value} (h : NC w T p) (hq : Blk w q C 32) (o : Nat) (u : Value) : NC (w.setCell ⟨q, o, none⟩ u) T p := by
  cases h with
  | num => exact .num _
  | bin _ a b c d op h ho => exact .bin _ _ _ _ _ _ (h.setOther (a := ⟨q, o, none⟩) (blk_ne h hq (by decide)) u) ho
/-- What the joining call leaves: a binary node of the operator op, nothing turned. -/
def JP (op : Int) (w : World) (e : Ending) (w' : World) : Prop := ∃ p l, e = .returned (.agg #[.iface 110 (.pointer (some ⟨p, 0, none⟩)), .int .i32 l]) ∧ NC w' 110 p ∧ Below w.heap.size w w'
def E.size : E → Nat
  | .num _ _ => 1
  | .bin _ _ _ l r => l.size + r.size + 1
abbrev valL (T p : Nat) (l : Int) : Value := .agg #[.iface T (.pointer (some ⟨p, 0, none⟩)), .int .i32 l]
theorem sz_pos (t : E) : 0 < t.size := by cases t <;> simp [E.size]

/-- The loop's relation: what is still to be joined, and the three variables' cells. -/
def LR (op : Int) (w : World) (m k : Nat) (wr : World) : Prop :=
  ∃ (t : E) (T p : Nat) (l : Int), t.size = k ∧ k ≤ m ∧ t.rep wr ∧ NC wr T p ∧ Blk wr w.heap.size #[.iface T (.pointer (some ⟨p, 0, none⟩)), .int .i32 l] 32 ∧
    Blk wr (w.heap.size + 1) #[.iface t.ty (.pointer (some ⟨t.at_, 0, none⟩)), .int .i32 (t.n : Int)] 32 ∧ Blk wr (w.heap.size + 2) #[.nilIface, .int .i32 0] 32 ∧ Below w.heap.size w wr
theorem lr_step {op : Int} {w wJ : World} {m p2 : Nat} {l2 : Int} {D L D2 L2 : Value} {t : E} (hm : t.size ≤ m) (ht : t.rep wJ) (hn : NC wJ 110 p2) (h0 : Blk wJ w.heap.size #[D, L] 32) (h1 : Blk wJ (w.heap.size + 1) #[D2, L2] 32) (h2 : Blk wJ (w.heap.size + 2) #[.nilIface, .int .i32 0] 32) (hb : Below w.heap.size w wJ) :
    LR op w m t.size ((((wJ.setCell ⟨w.heap.size, 0, none⟩ (.iface 110 (.pointer (some ⟨p2, 0, none⟩)))).setCell ⟨w.heap.size, 1, none⟩ (.int .i32 l2)).setCell ⟨w.heap.size + 1, 0, none⟩ (.iface t.ty (.pointer (some ⟨t.at_, 0, none⟩)))).setCell ⟨w.heap.size + 1, 1, none⟩ (.int .i32 (t.n : Int))) := by
  have a0 := h0.set 0 (.iface 110 (.pointer (some ⟨p2, 0, none⟩)))
  have a1 := a0.set 1 (.int .i32 l2)
  have b0 := (h1.setOther (a := ⟨w.heap.size, 0, none⟩) (by show w.heap.size + 1 ≠ w.heap.size; omega) (.iface 110 (.pointer (some ⟨p2, 0, none⟩)))).setOther (a := ⟨w.heap.size, 1, none⟩) (by show w.heap.size + 1 ≠ w.heap.size; omega) (.int .i32 l2)
  have b1 := b0.set 0 (.iface t.ty (.pointer (some ⟨t.at_, 0, none⟩)))
  have b2 := b1.set 1 (.int .i32 (t.n : Int))
  have a2 := (a1.setOther (a := ⟨w.heap.size + 1, 0, none⟩) (by show w.heap.size ≠ w.heap.size + 1; omega) (.iface t.ty (.pointer (some ⟨t.at_, 0, none⟩)))).setOther (a := ⟨w.heap.size + 1, 1, none⟩) (by show w.heap.size ≠ w.heap.size + 1; omega) (.int .i32 (t.n : Int))
  rw [set2] at a2 b2
  refine ⟨t, 110, p2, l2, rfl, hm, ?_, ?_, a2, b2, ?_, ?_⟩
  · exact E.rep_set b1 1 _ (E.rep_set b0 0 _ (E.rep_set a0 1 _ (E.rep_set h0 0 _ ht)))
  · exact NC.set (NC.set (NC.set (NC.set hn h0 0 _) a0 1 _) b0 0 _) b1 1 _
  · exact (((h2.setOther (a := ⟨w.heap.size, 0, none⟩) (by show w.heap.size + 2 ≠ w.heap.size; omega) _).setOther (a := ⟨w.heap.size, 1, none⟩) (by show w.heap.size + 2 ≠ w.heap.size; omega) _).setOther (a := ⟨w.heap.size + 1, 0, none⟩) (by show w.heap.size + 2 ≠ w.heap.size + 1; omega) _).setOther (a := ⟨w.heap.size + 1, 1, none⟩) (by show w.heap.size + 2 ≠ w.heap.size + 1; omega) _
  · exact (((hb.setCell (Nat.le_refl _) _).setCell (Nat.le_refl _) _).setCell (Nat.le_succ _) _).setCell (Nat.le_succ _) _
/-- The round's cells. -/
structure Cs (w wr : World) (T p : Nat) (l : Int) (t : E) : Prop where
  x0 : wr.cell? ⟨w.heap.size, 0, none⟩ = some (.iface T (.pointer (some ⟨p, 0, none⟩)))
  x1 : wr.cell? ⟨w.heap.size, 1, none⟩ = some (.int .i32 l)
  y0 : wr.cell? ⟨w.heap.size + 1, 0, none⟩ = some (.iface t.ty (.pointer (some ⟨t.at_, 0, none⟩)))
  y1 : wr.cell? ⟨w.heap.size + 1, 1, none⟩ = some (.int .i32 (t.n : Int))
  z0 : wr.cell? ⟨w.heap.size + 2, 0, none⟩ = some .nilIface
  z1 : wr.cell? ⟨w.heap.size + 2, 1, none⟩ = some (.int .i32 0)
  f0 : wr.frozen? ⟨w.heap.size + 2, 0, none⟩ = false
  f1 : wr.frozen? ⟨w.heap.size + 2, 1, none⟩ = false
  lt : w.heap.size + 2 < wr.heap.size

set_option maxHeartbeats 4000000 in
theorem join_nc (op : Int) (ho : op ≠ 36) (hop0 : 0 ≤ op) (t : E) (w : World) (T p : Nat) (l : Int) (hn : NC w T p) (ht : t.rep w)
    (ih : ∀ (t' : E), t'.size < t.size → ∀ (w : World) (T p : Nat) (l : Int), NC w T p → t'.rep w → Calls Try.prog 13 #[.int .u8 op, valL T p l, valL t'.ty t'.at_ t'.n] w (JP op w)) :
    Calls Try.prog 13 #[.int .u8 op, valL T p l, valL t.ty t.at_ t.n] w (JP op w) := by
  have HN := Lib.hid hn
  have HT := Lib.hid ht
  have IH := Lib.hid ih
  have HO := Lib.hid ho
  clear ih ht ho
  obtain ⟨o1, o2, hT, hcase⟩ : ∃ o1 o2 : Nat, True ∧ ((T = 46) ∨ (T = 110 ∧ ∃ op', w.cell? ⟨p, 4, none⟩ = some (.int .u8 op') ∧ (op' == 36) = false ∧ p < w.heap.size ∧ p < w.heap.size + 1 ∧ p < w.heap.size + 1 + 1)) := by
    cases hn with
    | num => exact ⟨0, 0, trivial, .inl rfl⟩
    | bin _ a b c d op' h ho' => exact ⟨0, 0, trivial, .inr ⟨rfl, op', h.cell 4, by simpa using ho', h.lt, Nat.lt_succ_of_lt h.lt, Nat.lt_succ_of_lt (Nat.lt_succ_of_lt h.lt)⟩⟩
  clear hn hT o1 o2
  rcases hcase with rfl | ⟨rfl, op', c4, hne, hlt, hlt1, hlt2⟩
  all_goals
    go_enter Try.func13, Try.ntmps13
    go_wp2_with fail
    go_loopg [10, 11] t.size (fun k _ _ wr => LR op w t.size k wr)
    case atStart =>
      exact ⟨t, _, p, l, rfl, Nat.le_refl _, E.rep_below (balloc (balloc (balloc (Below.refl _ _) _) _) _) HT.out, HN.out.below (balloc (balloc (balloc (Below.refl _ _) _) _) _),
        ((blkNew _ _ rfl).alloc _).alloc _, (blkNew _ _ (by simp)).alloc _, blkNew _ _ (by simp), balloc (balloc (balloc (Below.refl _ _) _) _) _⟩
    case round =>
      obtain ⟨s, T, p, l, hsz, hm, ht, hn, k0, k1, k2, hb⟩ := hrel
      have x0 : wr.cell? ⟨w.heap.size, 0, none⟩ = some (.iface T (.pointer (some ⟨p, 0, none⟩))) := k0.cell 0
      have x1 : wr.cell? ⟨w.heap.size, 1, none⟩ = some (.int .i32 l) := k0.cell 1
      have y1 : wr.cell? ⟨w.heap.size + 1, 1, none⟩ = some (.int .i32 (s.n : Int)) := k1.cell 1
      have z0 : wr.cell? ⟨w.heap.size + 1 + 1, 0, none⟩ = some .nilIface := k2.cell 0
      have z1 : wr.cell? ⟨w.heap.size + 1 + 1, 1, none⟩ = some (.int .i32 0) := k2.cell 1
      have f0 : wr.frozen? ⟨w.heap.size + 1 + 1, 0, none⟩ = false := k2.free 0
      have f1 : wr.frozen? ⟨w.heap.size + 1 + 1, 1, none⟩ = false := k2.free 1
      have hlz : w.heap.size + 1 + 1 < wr.heap.size := k2.lt
      have K0 := Lib.hid k0
      have K1 := Lib.hid k1
      have K2 := Lib.hid k2
      have HB := Lib.hid hb
      have HS := Lib.hid hsz
      have HN2 := Lib.hid hn
      cases s with
      | num q n =>
        have y0 : wr.cell? ⟨w.heap.size + 1, 0, none⟩ = some (.iface 46 (.pointer (some ⟨q, 0, none⟩))) := k1.cell 0
        clear k0 k1 k2 hb hsz hn ht
        go_wp2_with fail
        refine bodyPost_ret (v := .agg #[.iface 110 (.pointer (some ⟨wr.heap.size, 0, none⟩)), .int .i32 l]) (by simp [results, Try.results13, go_sem, z0, z1, hlz]) rfl ⟨_, _, rfl, ?_, ?_⟩
        · go_light
          exact .bin _ _ _ _ _ _ (blkNew _ _ (by simp [size_set])) HO.out
        · go_light
          exact balloc ((HB.out.setCell (by show w.heap.size ≤ w.heap.size + 1 + 1; omega) _).setCell (by show w.heap.size ≤ w.heap.size + 1 + 1; omega) _) _
      | bin q op2 n tl tr =>
        obtain ⟨hq, htl, htr⟩ := ht
        have y0 : wr.cell? ⟨w.heap.size + 1, 0, none⟩ = some (.iface 110 (.pointer (some ⟨q, 0, none⟩))) := k1.cell 0
        have q0 : wr.cell? ⟨q, 0, none⟩ = some (.iface tl.ty (.pointer (some ⟨tl.at_, 0, none⟩))) := hq.cell 0
        have q1 : wr.cell? ⟨q, 1, none⟩ = some (.int .i32 (tl.n : Int)) := hq.cell 1
        have q4 : wr.cell? ⟨q, 4, none⟩ = some (.int .u8 op2) := hq.cell 4
        have hql := hq.lt
        have HQ := Lib.hid hq
        have HL := Lib.hid htl
        have HR := Lib.hid htr
        clear k0 k1 k2 hb hsz hn hq htl htr
        by_cases hop : op2 = op
        · subst hop
          have hss : tl.size < t.size ∧ tr.size < gk := by
            have h := HS.out
            simp only [E.size] at h
            omega
          have SJ := Lib.hid fun w' (hb : Below wr.heap.size wr w') => IH.out tl hss.1 w' T p l (HN2.out.below hb) (E.rep_below hb HL.out)
          have hsr := Lib.hid hss.2
          clear hss
          go_wp2_with fail
          go_region_with (first
            | (go_at_call 13; (with_reducible refine (SJ.out _ ?_).mono ?_); (repeat (first | with_reducible exact Below.refl _ _ | with_reducible refine Below.drew ?_)); rintro e wJ ⟨p2, l2, rfl, hn2, hbJ⟩; have hbJ' := below2 (Below.drew (Below.refl wr.heap.size wr)) hbJ; have KJ := Lib.hid (K0.out.below hbJ'); have g0 := KJ.out.cell 0; have g1 := KJ.out.cell 1; have e0 := KJ.out.free 0; have e1 := KJ.out.free 1; have N2 := Lib.hid hn2; have BJ := Lib.hid hbJ'; clear hn2 hbJ hbJ'))
          all_goals
            have J1 := K1.out.below BJ.out
            have JQ := HQ.out.below BJ.out
            have JN : q ≠ w.heap.size := blk_ne HQ.out K0.out (by decide)
            have JN1 : q ≠ w.heap.size + 1 := blk_ne HQ.out K1.out (by decide)
            have v0 : wJ.cell? ⟨q, 2, none⟩ = some (.iface tr.ty (.pointer (some ⟨tr.at_, 0, none⟩))) := JQ.cell 2
            have v1 : wJ.cell? ⟨q, 3, none⟩ = some (.int .i32 (tr.n : Int)) := JQ.cell 3
            have u0 := J1.cell 0
            have u1 := J1.cell 1
            have i0 := J1.free 0
            have i1 := J1.free 1
            have hj1 := J1.lt
            have hjq := JQ.lt
            have RJ := Lib.hid (E.rep_below BJ.out HR.out)
            have HJ1 := Lib.hid J1
            clear J1 JQ x0 x1 y0 y1 z0 z1 f0 f1 q0 q1 q4
            go_wp2_with fail
            go_roundg tr.size
            case measure => exact hsr.out
            case rel =>
              exact lr_step (by have := hsr.out; omega) RJ.out N2.out KJ.out HJ1.out (K2.out.below BJ.out) (below2 HB.out BJ.out)
        · have hne2 : (op2 == op) = false := by simpa using hop
          clear hop
          go_wp2_with fail
          refine bodyPost_ret (v := .agg #[.iface 110 (.pointer (some ⟨wr.heap.size, 0, none⟩)), .int .i32 l]) (by simp [results, Try.results13, go_sem, z0, z1, hlz]) rfl ⟨_, _, rfl, ?_, ?_⟩
          · go_light
            exact .bin _ _ _ _ _ _ (blkNew _ _ (by simp [size_set])) HO.out
          · go_light
            exact balloc ((HB.out.setCell (by show w.heap.size ≤ w.heap.size + 1 + 1; omega) _).setCell (by show w.heap.size ≤ w.heap.size + 1 + 1; omega) _) _
end Go.Proofs.Ytiejadamfgbidab.left
