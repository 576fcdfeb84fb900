/- What 'MaybeSimplifyNot' answers on each leaf of the package n011_46, second part. No conditions beyond their hypotheses. -/
import Derived.Test.YtiejadamfgbidaaRows
import Derived.Test.YtiejadamfgbidaaLib
import Derived.Test.YtiejadamfgbidaaAsserts
import Derived.Test.YtiejadamfgbidaaLeafA
import Derived.Deep.RegionHeld3
import Derived.Deep.RegionWith
import Derived.RegionTactic
import Derived.Test.YtiejadamfgbidaaNotLeaf
namespace Go.Proofs.Ytiejadamfgbidaa.notLeaf
open Go.ChangeShapes Go.WideShapes Go.ChangeAt Go.RowKit Go.Mine leaf46
set_option linter.unusedVariables false
set_option maxRecDepth 100000

theorem rad_lt {a : ByteArray} (h : (a.size : Int) < 2) : rad a = false := by simp [rad]; omega
theorem rad_ge {a : ByteArray} (h : 2 ≤ (a.size : Int)) (h' : 0 < a.size) : rad a = ((a[0].toNat : Int) == 48) := by
  unfold rad; rw [dif_pos (by omega)]
theorem ret2b {a b c d : Bool} (h : a = c) (k : b = d) : Ending.returned (.tuple #[.bool a, .bool b]) = .returned (.tuple #[.bool c, .bool d]) := by rw [h, k]
theorem check_any (a : ByteArray) (w : World) (ha : a.size ≤ maxLen) : Calls Try.prog 42 #[.string a, .string ⟨#[48]⟩] w fun e w' => e = .returned (.tuple #[.bool (a.toList == zeroS), .bool (a.toList == zeroS || !rad a)]) ∧ w = w' := by
  unfold maxLen at ha
  by_cases h : (a.toList == [48]) = true
  · have hz : Hid ((a.toList == zeroS) = true) := h
    go_enter Try.func42, Try.ntmps42
    go_wp2
    go_ret2
    exact ⟨by rw [hz.out]; rfl, rfl⟩
  · have h : (a.toList == [48]) = false := Bool.eq_false_iff.2 h
    have hz : Hid ((a.toList == zeroS) = false) := h
    go_enter Try.func42, Try.ntmps42
    go_wp2
    all_goals
      go_ret2
      rw [hz.out]
      refine ⟨ret2b rfl ?_, rfl⟩
      go_light
      rw [Bool.false_or]
      clear h hz
      first
        | (rw [rad_lt (a := a) ‹_›]; rfl)
        | (rw [rad_ge (a := a) ‹_› ‹_›]; simp_all; done)
        | (rw [rad_ge (a := a) ‹_› ‹_›]; simp_all; omega)

theorem not5 (p : Nat) (big : ByteArray) (loc : Int) (w : World) (hl : big.size ≤ maxLen) (hc : w.cell? ⟨p, 0, none⟩ = some (.string big)) : Calls Try.prog 12 #[.agg #[.iface 33 (.pointer (some ⟨p, 0, none⟩)), .int .i32 loc]] w (NotPost (big.toList == zeroS || !rad big) (big.toList == zeroS) loc w) := by
  have hp0 : p < w.heap.size := cell_lt hc
  have hp1 : p < w.heap.size + 1 := by omega
  have hp2 : p < w.heap.size + 1 + 1 := by omega
  have hp3 : p < w.heap.size + 1 + 1 + 1 := by omega
  have HC := Lib.hid (fun w => check_any big w hl)
  obtain ⟨q, hq⟩ : ∃ q, q = (big.toList == zeroS) := ⟨_, rfl⟩
  obtain ⟨kn, hkn⟩ : ∃ kn, kn = (big.toList == zeroS || !rad big) := ⟨_, rfl⟩
  rw [← hkn, ← hq] at HC ⊢
  clear hq hkn
  cases kn
  · go_enter Try.func12, Try.ntmps12
    go_wp2_with fail
    refine (HC.out _).mono ?_
    rintro e w' ⟨rfl, rfl⟩
    go_wp2_with fail
    refine bodyPost_ret (v := .tuple #[.agg #[.nilIface, .int .i32 0], .bool false]) (by simp [results, Try.results12, go_sem]) rfl ⟨?_, .inr ⟨rfl, rfl⟩⟩
    go_light
    repeat (first | with_reducible exact Below.refl _ _ | with_reducible refine Below.drew ?_ | with_reducible refine Below.alloc ?_ (by simp <;> omega) _ | with_reducible refine Below.setCell ?_ (by simp <;> omega) _)
  · go_enter Try.func12, Try.ntmps12
    go_wp2_with fail
    refine (HC.out _).mono ?_
    rintro e w' ⟨rfl, rfl⟩
    go_wp2_with fail
    refine bodyPost_ret (v := .tuple #[.agg #[.iface 48 (.pointer (some ⟨_, 0, none⟩)), .int .i32 loc], .bool true]) (by simp [results, Try.results12, go_sem]; rfl) rfl ⟨?_, .inl ⟨rfl, _, rfl, by simp [go_sem]⟩⟩
    go_light
    repeat (first | with_reducible exact Below.refl _ _ | with_reducible refine Below.drew ?_ | with_reducible refine Below.alloc ?_ (by simp <;> omega) _ | with_reducible refine Below.setCell ?_ (by simp <;> omega) _)

theorem val3 (x : Nat) : (ord x 0 == some .eq || ord x 0 == none) = (!(ord x 0 == some .lt) && !(ord x 0 == some .gt)) := by
  rcases ord x 0 with _ | (_ | _ | _) <;> rfl

/-- The leaf's answer, in the world as it is. -/
theorem not_leaf {k : Int} {b : Bool} {x : Nat} {a : Option Addr} {l c : Nat} {big : ByteArray} {w : World} {p T : Nat} (loc : Int) (hl : l ≤ 1048576) (hb : big.size ≤ maxLen) (h : Cases k b x (.slice a l c) big w p T) :
    Calls Try.prog 12 #[.agg #[.iface T (.pointer (some ⟨p, 0, none⟩)), .int .i32 loc]] w (NotPost (known k big) (val k b x l big) loc w) := by
  rcases h with ⟨rfl, rfl⟩ | ⟨rfl, rfl⟩ | ⟨rfl, rfl, hc⟩ | ⟨rfl, rfl, hc⟩ | ⟨rfl, rfl, hc⟩ | ⟨rfl, rfl, hc⟩ | ⟨rfl, rfl⟩ | ⟨rfl, rfl⟩ | ⟨rfl, rfl⟩ | ⟨rfl, rfl⟩ | ⟨rfl, rfl⟩
  · exact not0 _ p loc w (.inl rfl)
  · exact not0 _ p loc w (.inr rfl)
  · exact not2 p b loc w hc
  · have := not3 p x loc w hc
    rw [val3] at this
    exact this
  · exact not4 p a l c loc w hl hc
  · exact not5 p big loc w hb hc
  · exact not6 _ p loc w (.inl rfl)
  · exact not6 _ p loc w (.inr (.inl rfl))
  · exact not6 _ p loc w (.inr (.inr rfl))
  · exact not9 _ p loc w (.inl rfl)
  · exact not9 _ p loc w (.inr rfl)

theorem cases_later {k : Int} {b : Bool} {x : Nat} {sv : Value} {big : ByteArray} {w w' : World} {p T : Nat} (h : Cases k b x sv big w p T) (hb : Below w.heap.size w w') : Cases k b x sv big w' p T := by
  rcases h with h | h | ⟨h1, h2, hc⟩ | ⟨h1, h2, hc⟩ | ⟨h1, h2, hc⟩ | ⟨h1, h2, hc⟩ | h | h | h | h | h
  · exact .inl h
  · exact .inr (.inl h)
  · exact .inr (.inr (.inl ⟨h1, h2, bcell hb hc⟩))
  · exact .inr (.inr (.inr (.inl ⟨h1, h2, bcell hb hc⟩)))
  · exact .inr (.inr (.inr (.inr (.inl ⟨h1, h2, bcell hb hc⟩))))
  · exact .inr (.inr (.inr (.inr (.inr (.inl ⟨h1, h2, bcell hb hc⟩)))))
  · exact .inr (.inr (.inr (.inr (.inr (.inr (.inl h))))))
  · exact .inr (.inr (.inr (.inr (.inr (.inr (.inr (.inl h)))))))
  · exact .inr (.inr (.inr (.inr (.inr (.inr (.inr (.inr (.inl h))))))))
  · exact .inr (.inr (.inr (.inr (.inr (.inr (.inr (.inr (.inr (.inl h)))))))))
  · exact .inr (.inr (.inr (.inr (.inr (.inr (.inr (.inr (.inr (.inr h)))))))))

theorem blk2 (w : World) (o : Obj) (C : Array Value) (t : TypeId) : Blk ((w.alloc o).alloc (.cells C t)) (w.heap.size + 1) C t := by
  have h := Blk.new (w.alloc o) C t
  simpa using h

/-- The same behind an annotation or an inlined enum: the leaf's own location counts. -/
theorem not_ann (kn vl : Bool) (T p q : Nat) (loc out : Int) (w : World) (H : ∀ w', Below w.heap.size w w' → Calls Try.prog 12 #[.agg #[.iface T (.pointer (some ⟨p, 0, none⟩)), .int .i32 loc]] w' (NotPost kn vl loc w'))
    (c0 : w.cell? ⟨q, 0, none⟩ = some (.iface T (.pointer (some ⟨p, 0, none⟩)))) (c1 : w.cell? ⟨q, 1, none⟩ = some (.int .i32 loc)) :
    Calls Try.prog 12 #[.agg #[.iface 37 (.pointer (some ⟨q, 0, none⟩)), .int .i32 out]] w (NotPost kn vl loc w) := by
  have hp0 : q < w.heap.size := cell_lt c0
  have HH := Lib.hid (fun o1 o2 => H ((w.alloc o1).alloc o2) (((Below.refl _ _).alloc (Nat.le_refl _) _).alloc (by simp) _))
  clear H
  go_enter Try.func12, Try.ntmps12
  go_wp2_with fail
  refine (HH.out _ _).mono ?_
  rintro e w1 ⟨hb1, hk⟩
  have P1 := (blk2 w _ #[.nilIface, .int .i32 0] 31).below hb1
  have hbw : Below w.heap.size w w1 := (((Below.refl _ _).alloc (Nat.le_refl _) _).alloc (by simp) _).trans (hb1.mono (by simp <;> omega))
  have e0 : w1.cell? ⟨w.heap.size + 1, 0, none⟩ = some .nilIface := P1.cell 0
  have e1 : w1.cell? ⟨w.heap.size + 1, 1, none⟩ = some (.int .i32 0) := P1.cell 1
  have g0 := P1.free 0
  have g1 := P1.free 1
  have hlt := P1.lt
  have P := Lib.hid P1
  have B := Lib.hid hbw
  clear hb1 P1 hbw
  rcases hk with ⟨rfl, qq, rfl, hv⟩ | ⟨rfl, rfl⟩
  · have hne : qq ≠ w.heap.size + 1 := by intro h; rw [h, e0] at hv; simp at hv
    have r0 : (w1.setCell ⟨w.heap.size + 1, 0, none⟩ (.iface 48 (.pointer (some ⟨qq, 0, none⟩)))).cell? ⟨w.heap.size + 1, 0, none⟩ = some (.iface 48 (.pointer (some ⟨qq, 0, none⟩))) := (P.out.set 0 _).cell 0
    have r1 : ((w1.setCell ⟨w.heap.size + 1, 0, none⟩ (.iface 48 (.pointer (some ⟨qq, 0, none⟩)))).setCell ⟨w.heap.size + 1, 1, none⟩ (.int .i32 loc)).cell? ⟨w.heap.size + 1, 1, none⟩ = some (.int .i32 loc) := ((P.out.set 0 _).set 1 _).cell 1
    have r2 : ((w1.setCell ⟨w.heap.size + 1, 0, none⟩ (.iface 48 (.pointer (some ⟨qq, 0, none⟩)))).setCell ⟨w.heap.size + 1, 1, none⟩ (.int .i32 loc)).cell? ⟨qq, 0, none⟩ = some (.bool vl) := by
      refine (Same.setCell (X := (· = w.heap.size + 1)) (p := ⟨w.heap.size + 1, 1, none⟩) (Same.setCell (X := (· = w.heap.size + 1)) (p := ⟨w.heap.size + 1, 0, none⟩) (Same.refl _ _) ?_ _) ?_ _).cell hne hv
      · rfl
      · rfl
    have HV := Lib.hid r2
    clear hv r2
    go_wp2_with fail
    refine bodyPost_ret (v := .tuple #[.agg #[.iface 48 (.pointer (some ⟨qq, 0, none⟩)), .int .i32 loc], .bool true]) (by simp [results, Try.results12, go_sem, r0, r1]) rfl ⟨(B.out.setCell (by simp) _).setCell (by simp) _, .inl ⟨rfl, qq, rfl, HV.out⟩⟩
  · have r0 : (w1.setCell ⟨w.heap.size + 1, 0, none⟩ .nilIface).cell? ⟨w.heap.size + 1, 0, none⟩ = some .nilIface := (P.out.set 0 _).cell 0
    have r1 : ((w1.setCell ⟨w.heap.size + 1, 0, none⟩ .nilIface).setCell ⟨w.heap.size + 1, 1, none⟩ (.int .i32 0)).cell? ⟨w.heap.size + 1, 1, none⟩ = some (.int .i32 0) := ((P.out.set 0 _).set 1 _).cell 1
    go_wp2_with fail
    refine bodyPost_ret (v := .tuple #[.agg #[.nilIface, .int .i32 0], .bool false]) (by simp [results, Try.results12, go_sem, r0, r1]) rfl ⟨(B.out.setCell (by simp) _).setCell (by simp) _, .inr ⟨rfl, rfl⟩⟩

theorem not_inl (kn vl : Bool) (T p q : Nat) (loc out : Int) (w : World) (H : ∀ w', Below w.heap.size w w' → Calls Try.prog 12 #[.agg #[.iface T (.pointer (some ⟨p, 0, none⟩)), .int .i32 loc]] w' (NotPost kn vl loc w'))
    (c0 : w.cell? ⟨q, 0, none⟩ = some (.iface T (.pointer (some ⟨p, 0, none⟩)))) (c1 : w.cell? ⟨q, 1, none⟩ = some (.int .i32 loc)) :
    Calls Try.prog 12 #[.agg #[.iface 41 (.pointer (some ⟨q, 0, none⟩)), .int .i32 out]] w (NotPost kn vl loc w) := by
  have hp0 : q < w.heap.size := cell_lt c0
  have HH := Lib.hid (fun o1 o2 => H ((w.alloc o1).alloc o2) (((Below.refl _ _).alloc (Nat.le_refl _) _).alloc (by simp) _))
  clear H
  go_enter Try.func12, Try.ntmps12
  go_wp2_with fail
  refine (HH.out _ _).mono ?_
  rintro e w1 ⟨hb1, hk⟩
  have P1 := (blk2 w _ #[.nilIface, .int .i32 0] 31).below hb1
  have hbw : Below w.heap.size w w1 := (((Below.refl _ _).alloc (Nat.le_refl _) _).alloc (by simp) _).trans (hb1.mono (by simp <;> omega))
  have e0 : w1.cell? ⟨w.heap.size + 1, 0, none⟩ = some .nilIface := P1.cell 0
  have e1 : w1.cell? ⟨w.heap.size + 1, 1, none⟩ = some (.int .i32 0) := P1.cell 1
  have g0 := P1.free 0
  have g1 := P1.free 1
  have hlt := P1.lt
  have P := Lib.hid P1
  have B := Lib.hid hbw
  clear hb1 P1 hbw
  rcases hk with ⟨rfl, qq, rfl, hv⟩ | ⟨rfl, rfl⟩
  · have hne : qq ≠ w.heap.size + 1 := by intro h; rw [h, e0] at hv; simp at hv
    have HV : Hid (∀ o, (((w1.setCell ⟨w.heap.size + 1, 0, none⟩ (.iface 48 (.pointer (some ⟨qq, 0, none⟩)))).setCell ⟨w.heap.size + 1, 1, none⟩ (.int .i32 loc)).alloc o).cell? ⟨qq, 0, none⟩ = some (.bool vl)) := by
      intro o
      refine (Same.alloc (Same.setCell (X := (· = w.heap.size + 1)) (p := ⟨w.heap.size + 1, 1, none⟩) (Same.setCell (X := (· = w.heap.size + 1)) (p := ⟨w.heap.size + 1, 0, none⟩) (Same.refl _ _) ?_ _) ?_ _) o).cell hne hv
      · rfl
      · rfl
    clear hv
    have Pf := fun o => ((P.out.set 0 (.iface 48 (.pointer (some ⟨qq, 0, none⟩)))).set 1 (.int .i32 loc)).alloc o
    rw [set2] at Pf
    have r0 := fun o => (Pf o).cell 0
    have r1 := fun o => (Pf o).cell 1
    simp only [List.getElem?_toArray, List.getElem?_cons_zero, List.getElem?_cons_succ] at r0 r1
    clear Pf
    have R0 := Lib.hid r0
    have R1 := Lib.hid r1
    clear r0 r1
    go_wp2_with fail
    refine bodyPost_ret (v := .tuple #[.agg #[.iface 48 (.pointer (some ⟨qq, 0, none⟩)), .int .i32 loc], .bool true]) (by have r0 := R0.out; have r1 := R1.out; simp [results, Try.results12, go_sem, r0, r1]) rfl ⟨((B.out.setCell (by simp) _).setCell (by simp) _).alloc (by rw [size_set, size_set]; exact B.out.size) _, .inl ⟨rfl, qq, rfl, HV.out _⟩⟩
  · have Pf := fun o => ((P.out.set 0 .nilIface).set 1 (.int .i32 0)).alloc o
    rw [set2] at Pf
    have r0 := fun o => (Pf o).cell 0
    have r1 := fun o => (Pf o).cell 1
    simp only [List.getElem?_toArray, List.getElem?_cons_zero, List.getElem?_cons_succ] at r0 r1
    clear Pf
    have R0 := Lib.hid r0
    have R1 := Lib.hid r1
    clear r0 r1
    go_wp2_with fail
    refine bodyPost_ret (v := .tuple #[.agg #[.nilIface, .int .i32 0], .bool false]) (by have r0 := R0.out; have r1 := R1.out; simp [results, Try.results12, go_sem, r0, r1]) rfl ⟨((B.out.setCell (by simp) _).setCell (by simp) _).alloc (by rw [size_set, size_set]; exact B.out.size) _, .inr ⟨rfl, rfl⟩⟩
end Go.Proofs.Ytiejadamfgbidaa.notLeaf
