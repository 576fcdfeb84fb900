/- The walk of the law 'FnSaveExprCommentsIsIdempotent': it returns true and leaves what was there as it was. No conditions beyond its hypotheses. -/
import Derived.Test.YtpahhgeliaeniaaDoorSavG
import Derived.Test.YtpahhgeliaeniaaDoorSavH
import Derived.Test.YtpahhgeliaeniaaDoorSavI
namespace Go.Proofs.YtpahhgeliaeniaaDoor.sav
open Go.ChangeShapes Go.WideShapes Go.ChangeAt Go.RowKit Go.Mine Go.Maps
set_option linter.unusedVariables false
set_option linter.unusedSimpArgs false
set_option maxRecDepth 100000

def Post (w : World) (e : Ending) (w' : World) : Prop := e = .returned (.bool true) ∧ Below w.heap.size w w'
theorem zero32 : (Tryd.prog.info? 32).map (·.zero) = some (some (.slice none 0 0)) := by kernel_rfl
theorem qL (w : World) : (Instr.lookup 31 (.map none) (.agg #[.int .i32 0]) true).run Tryd.prog w = .ok (.tuple #[.slice none 0 0, .bool false]) w := Maps.look_nil true lawK Tryd.underlying31 (run_zero_of w zero32) kl0
theorem qE (w : World) : (binOp .neq 28 (.agg #[.int .i32 0]) (.agg #[.int .i32 0])).run Tryd.prog w = .ok (.bool false) w := by kernel_rfl
theorem Rng.congr {g n : Nat} {f f' : Nat → Nat × Nat} {w : World} (h : Rng g n f w) (he : ∀ j, j < n → f j = f' j) : Rng g n f' w := by
  obtain ⟨C, h1, h2, h3⟩ := h
  exact ⟨C, h1, h2, fun j hj => by rw [← he j hj]; exact h3 j hj⟩
set_option maxHeartbeats 16000000 in
theorem walk (c : ByteArray) (a1 a2 : Option Addr) (l1 l2 k1 k2 : Nat) (z1 z2 : List Int) (b : Bool) (w : World) (wc0 : c.size ≤ maxLen) (h1 : IntRow .i32 w a1 l1 k1 z1) (h2 : IntRow .i32 w a2 l2 k2 z2) :
    Calls Tryd.prog 3 #[.string c, .slice a1 l1 k1, .slice a2 l2 k2, .bool b] w (Post w) := by
  have m1 : l1 ≤ maxLen := Nat.le_trans h1.2.1 h1.2.2.1
  have m2 : l2 ≤ maxLen := Nat.le_trans h2.2.1 h2.2.2.1
  unfold maxLen at wc0 m1 m2
  have HT : Hid (∀ w', Below w.heap.size w w' → Post w (.returned (.bool true)) w') := Lib.hid fun w' hb => ⟨rfl, hb⟩
  by_cases hs : c.size ≤ 65536 ∧ l1 ≤ 4096 ∧ l2 ≤ 4096
  case neg =>
    go_enter Tryd.func3, Tryd.ntmps3
    go_wp2_with fail
    refine (bytes4 c a1 a2 l1 l2 k1 k2 b w (by omega) (by omega) (by omega)).mono ?_
    rintro e w1 ⟨bb, rfl, rfl⟩
    cases bb
    · go_wp2_with fail
      go_ret
      exact HT.out _ (Below.refl _ _)
    · by_cases e1 : c.size ≤ 65536
      · by_cases e2 : l1 ≤ 4096
        · have e3 : ¬ l2 ≤ 4096 := fun e3 => hs ⟨e1, e2, e3⟩
          go_wp2_with fail
          all_goals (first | (exfalso; omega) | (go_ret; exact HT.out _ (Below.refl _ _)))
        · go_wp2_with fail
          all_goals (first | (exfalso; omega) | (go_ret; exact HT.out _ (Below.refl _ _)))
      · go_wp2_with fail
        all_goals (first | (exfalso; omega) | (go_ret; exact HT.out _ (Below.refl _ _)))
  obtain ⟨s0, s1, s2⟩ := hs
  have H5 := Lib.hid (ranges5 c a1 a2 l1 l2 k1 k2 z1 z2 w h1 h2 s0 s1 s2)
  have q24 := fun w' => mk24 l1 s1 w'
  clear h1 h2
  go_enter Tryd.func3, Tryd.ntmps3
  go_wp2_with fail
  refine (bytes4 c a1 a2 l1 l2 k1 k2 b w (by omega) (by omega) (by omega)).mono ?_
  rintro e w1 ⟨bb, rfl, rfl⟩
  cases bb
  · go_wp2_with fail
    go_ret
    exact HT.out _ (Below.refl _ _)
  go_wp2_with fail
  all_goals try (exfalso; omega)
  refine H5.out.mono ?_
  rintro e w1 ⟨hb1, rfl | ⟨f, rfl, hr, hg⟩⟩
  · go_wp2_with fail
    go_ret
    exact HT.out _ hb1
  have HB1 := Lib.hid hb1
  have HR1 := Lib.hid hr
  have HG := Lib.hid hg
  clear hb1 hr hg H5
  go_upto_region 9 with fail
  have HH0 := Lib.hid (Rng.made l1 w1)
  have HW0 : Hid (Below w1.heap.size w1 (w1.alloc (.cells (madeCells #[.int .i32 0, .int .i32 0] (l1 * 2)) 30))) := Lib.hid ((Below.refl _ _).alloc (Nat.le_refl _) _)
  generalize w1.alloc (.cells (madeCells #[.int .i32 0, .int .i32 0] (l1 * 2)) 30) = W at *
  clear q24
  go_wp2_with fail
  go_loopw [12] (fun s12 wr => ∃ (j : Nat) (f' : Nat → Nat × Nat), j ≤ l1 ∧ s12 = .int .i64 j ∧ Hid (Rng w1.heap.size l1 f' wr) ∧ Hid (∀ i, i < j → f' i = f i) ∧ Hid (Below w1.heap.size w1 wr)) (fun s12 _ => l1 - (intOf s12).toNat)
  case atStart => exact ⟨0, _, Nat.zero_le _, rfl, HH0, fun i hi => absurd hi (Nat.not_lt_zero _), HW0⟩
  case round =>
    clear HH0 HW0
    obtain ⟨j, f', hj, rfl, HH, HE, HW⟩ := hrel
    by_cases hlt : j < l1
    · have hr := (HR1.out.below HW.out).at hlt
      have r1 := hr.1
      have r2 := hr.2
      have ht := HH.out.at hlt
      have t1 := ht.1
      have t2 := ht.2
      have t3 := HH.out.free (j * 2)
      have t4 := HH.out.free (j * 2 + 1)
      have HP := Lib.hid (HH.out.put hlt (f j).1 (f j).2)
      have HE2 : Hid (∀ i, i < j + 1 → upd f' j ((f j).1, (f j).2) i = f i) := Lib.hid fun i hi => by
        unfold upd
        by_cases e : i = j
        · rw [if_pos e, e]
        · rw [if_neg e]; exact HE.out i (by omega)
      have HW2 : Hid (Below w1.heap.size w1 ((wr.setCell ⟨w1.heap.size, j * 2, none⟩ (.int .i32 ((f j).1 : Int))).setCell ⟨w1.heap.size, j * 2 + 1, none⟩ (.int .i32 ((f j).2 : Int)))) := Lib.hid ((HW.out.setCell (p := ⟨w1.heap.size, j * 2, none⟩) (Nat.le_refl _) _).setCell (p := ⟨w1.heap.size, j * 2 + 1, none⟩) (Nat.le_refl _) _)
      have hjn : (j : Int) < (l1 : Int) := by omega
      clear hr ht
      go_wp2_with fail
      go_round
      case rel => exact ⟨j + 1, _, by omega, by go_num, HP, HE2, HW2⟩
      case measure => simp [intOf]; omega
    · obtain rfl : j = l1 := by omega
      have HH2 := Lib.hid (HH.out.congr HE.out)
      have HR2 := Lib.hid (HR1.out.below HW.out)
      have HB2 := Lib.hid (below2 HB1.out HW.out)
      clear HH HE HW HR1 HB1 hlt
      go_upto_region 15 with fail
      have hb3 : Below wr.heap.size wr ((wr.alloc (.cells #[.int .i32 0] 28)).alloc (.cells #[.int .i32 7] 28)) := ((Below.refl _ _).alloc (Nat.le_refl _) _).alloc (by simp) _
      have HH := Lib.hid (HH2.out.below hb3)
      have HR := Lib.hid (HR2.out.below hb3)
      have HB := Lib.hid (below2 HB2.out hb3)
      have HK0 := Lib.hid ((Blk.new wr #[.int .i32 0] 28).alloc (.cells #[.int .i32 7] 28))
      have HK7 : Hid (Blk ((wr.alloc (.cells #[.int .i32 0] 28)).alloc (.cells #[.int .i32 7] 28)) (wr.heap.size + 1) #[.int .i32 7] 28) := Lib.hid (by
        have := Blk.new (wr.alloc (.cells #[.int .i32 0] 28)) #[.int .i32 7] 28
        simpa using this)
      clear hb3 HH2 HR2 HB2
      generalize (wr.alloc (.cells #[.int .i32 0] 28)).alloc (.cells #[.int .i32 7] 28) = W3 at *
      generalize wr.heap.size = B0 at *
      generalize w1.heap.size = Hd at *
      have qn := fun w' => qN w' none
      have qe := qE
      cases b
      · -- no map
        have ql := qL
        have q0 := fun w' => mk32 0 (by omega) w'
        simp at q0
        go_wp2_with fail
        refine (made6 c none (some ⟨Hd, 0, none⟩) j j W3).mono ?_
        rintro e w4 ⟨rfl, hp4, hb4⟩
        have HP4 := Lib.hid hp4
        have HB4 := Lib.hid hb4
        clear hp4 hb4
        go_wp2_with fail
        refine (idle7 W3.heap.size w4 (fun w' hb => saveN _ j j c _ w' (HP4.out.below hb))).mono ?_
        rintro e w5 ⟨rfl, hb5⟩
        have HY6 : Hid (Below w4.heap.size w4 (w5.alloc (.cells #[.int .i32 0] 28))) := Lib.hid (below2 hb5 ((Below.refl _ _).alloc (Nat.le_refl _) _))
        have HL1 := Lib.hid (Blk.new w5 #[.int .i32 0] 28)
        clear hb5
        go_wp2_with fail
        refine (com8 W3.heap.size j j c none _ _ (HP4.out.below HY6.out)).mono ?_
        rintro e w6 ⟨rfl, rfl⟩
        generalize w5.alloc (.cells #[.int .i32 0] 28) = w6 at *
        generalize w5.heap.size = L1 at *
        have x1 := ((HK0.out.below HB4.out).below HY6.out).cell 0
        simp at x1
        go_wp2_with fail
        refine wp_loop_rounds 1 ?_
        rw [rounds_succ]
        go_wp2_with fail
        have hA : Below w6.heap.size w6 (w6.alloc (.cells (madeCells #[.string ⟨#[]⟩] 0) 9)) := (Below.refl _ _).alloc (Nat.le_refl _) _
        refine (idle7 W3.heap.size _ (fun w' hb => saveN _ j j c _ w' (HP4.out.below (below3 HY6.out hA hb)))).mono ?_
        rintro e w8 ⟨rfl, hb8⟩
        have hb9 := below2 hA (below2 hb8 ((Below.refl _ _).alloc (Nat.le_refl _) (.cells #[.int .i32 0] 28)))
        have HY9 := Lib.hid (below2 HY6.out hb9)
        have HL2 := Lib.hid (Blk.new w8 #[.int .i32 0] 28)
        have HL1' := Lib.hid (HL1.out.below hb9)
        clear hb8 hb9 hA x1
        go_upto_region 30 with fail
        generalize w8.alloc (.cells #[.int .i32 0] 28) = w9 at *
        generalize w8.heap.size = L2 at *
        have x1 := HL1'.out.cell 0
        have x2 := HL2.out.cell 0
        have x3 := ((HK0.out.below HB4.out).below HY9.out).cell 0
        simp at x1 x2 x3
        go_wp2_with fail
        refine (com8 W3.heap.size j j c none _ _ (HP4.out.below HY9.out)).mono ?_
        rintro e w6 ⟨rfl, rfl⟩
        go_wp2_with fail
        refine wp_loop_rounds 1 ?_
        rw [rounds_succ]
        go_wp2_with fail
        refine (lex9 W3.heap.size j j c none _ _ (HP4.out.below HY9.out)).mono ?_
        rintro e w6 ⟨rfl, rfl⟩
        go_wp2_with fail
        have HH9 := Lib.hid ((HH.out.below HB4.out).below HY9.out)
        have HR9 := Lib.hid ((HR.out.below HB4.out).below HY9.out)
        have hg := guard30
        have hne := neq30
        go_loopw [32] (fun s32 wr => ∃ i : Nat, i ≤ j ∧ s32 = .int .i64 i ∧ Hid (Below w9.heap.size w9 wr)) (fun s32 _ => j - (intOf s32).toNat)
        case atStart => exact ⟨0, Nat.zero_le _, rfl, Below.refl _ _⟩
        case round =>
          obtain ⟨i, hi, rfl, HZ⟩ := hrel
          by_cases hlt : i < j
          · have ra := (HR9.out.below HZ.out).at hlt
            have rb := (HH9.out.below HZ.out).at hlt
            have y1 := ra.1
            have y2 := ra.2
            have y3 := rb.1
            have y4 := rb.2
            have hij : (i : Int) < (j : Int) := by omega
            clear ra rb
            go_wp2_with fail
            go_region_with fail
            all_goals
              go_wp2_with fail
              go_round
              case rel => exact ⟨i + 1, by omega, by go_num, by first | exact HZ | exact Lib.hid HZ.out.drew⟩
              case measure => simp [intOf]; omega
          · go_wp2_with fail
            go_ret
            exact HT.out _ (below4 HB.out HB4.out HY9.out HZ.out)
      · -- a map that holds another entry
        have qm := fun w' => run_makeMap (P := Tryd.prog) 31 w'
        clear qn
        go_upto_region 18 with fail
        clear qm
        have ho0 : Owns (W3.alloc (.map #[] 0)) W3.heap.size 0 (.map []) := World.ownsMap_made W3 _ _ _
        have hb0 : Below W3.heap.size W3 (W3.alloc (.map #[] 0)) := (Below.refl _ _).alloc (Nat.le_refl _) _
        have hsz0 : W3.heap.size < (W3.alloc (.map #[] 0)).heap.size := by simp
        generalize W3.alloc (.map #[] 0) = Wm at *
        have x7 := (HK7.out.below hb0).cell 0
        simp at x7
        obtain ⟨W4, hrun, hownU, hgrowU⟩ := World.ownsMap.update (w := Wm.alloc (.cells #[.string ⟨#[107, 101, 101, 112]⟩] 9)) (t := 31) (e := 32) (ho0.alloc _) lawK Tryd.underlying31 (by unfold maxLen; omega) (key := .agg #[.int .i32 7]) (val := .slice (some ⟨Wm.heap.size, 0, none⟩) 1 1) kl7 rfl
        have HO4 : Hid (Owns W4 W3.heap.size 1 (D1 (.slice (some ⟨Wm.heap.size, 0, none⟩) 1 1))) := Lib.hid hownU
        have HKP := Lib.hid ((Blk.new Wm #[.string ⟨#[107, 101, 101, 112]⟩] 9).same (same_grown hgrowU) (by show ¬ Wm.heap.size = W3.heap.size; omega))
        have HX4 : Hid (Below W3.heap.size W3 W4) := Lib.hid ((hb0.alloc (by omega) _).grown hgrowU (by simp; omega) (fun k hk => by injection hk with hk; omega))
        clear ho0 hb0 hownU hgrowU
        go_upto_region 19 with fail
        clear hrun x7
        generalize Wm.heap.size = KB at *
        go_wp2_with fail
        refine (made6 c (some W3.heap.size) (some ⟨Hd, 0, none⟩) j j W4).mono ?_
        rintro e w4 ⟨rfl, hp4, hb4⟩
        have HP4 := Lib.hid hp4
        have HB4 := Lib.hid hb4
        have HO5 := Lib.hid (HO4.out.below hb4)
        have HKP5 := Lib.hid (HKP.out.below hb4)
        have HX5 := Lib.hid (below2 HX4.out hb4)
        clear hp4 hb4
        go_wp2_with fail
        by_cases hj0 : j = 0
        · have HZ0 : Hid (∀ w', Below w4.heap.size w4 w' → Calls Tryd.prog 10 #[.pointer (some ⟨W4.heap.size, 0, none⟩)] w' (Idle w')) := Lib.hid fun w' hb => by
            have h := HP4.out.below hb
            rw [hj0] at h
            exact saveZ W4.heap.size W3.heap.size 0 c _ w' h
          clear hj0
          refine (idle7 W4.heap.size w4 HZ0.out).mono ?_
          rintro e w5 ⟨rfl, hb5⟩
          have HY6 : Hid (Below w4.heap.size w4 (w5.alloc (.cells #[.int .i32 0] 28))) := Lib.hid (below2 hb5 ((Below.refl _ _).alloc (Nat.le_refl _) _))
          have HL1 := Lib.hid (Blk.new w5 #[.int .i32 0] 28)
          clear hb5
          go_wp2_with fail
          refine (com8 W4.heap.size j j c (some W3.heap.size) _ _ (HP4.out.below HY6.out)).mono ?_
          rintro e w6 ⟨rfl, rfl⟩
          generalize w5.alloc (.cells #[.int .i32 0] 28) = w6 at *
          generalize w5.heap.size = L1 at *
          have x1 := ((HK0.out.below HX5.out).below HY6.out).cell 0
          simp at x1
          have x4 := look10 (HO5.out.below HY6.out)
          have x5 := len1 (HO5.out.below HY6.out)
          have q0 := fun w' => mk32 0 (by omega) w'
          simp at q0
          go_upto_region 25 with fail
          have hA : Below w6.heap.size w6 (w6.alloc (.cells (madeCells #[.string ⟨#[]⟩] 0) 9)) := (Below.refl _ _).alloc (Nat.le_refl _) _
          clear x1 x4 x5
          have x5 := len1 (HO5.out.below (below2 HY6.out hA))
          refine wp_loop_rounds 1 ?_
          rw [rounds_succ]
          go_wp2_with fail
          refine (idle7 W4.heap.size _ (fun w' hb => HZ0.out w' (below3 HY6.out hA hb))).mono ?_
          rintro e w8 ⟨rfl, hb8⟩
          have hb9 := below2 hA (below2 hb8 ((Below.refl _ _).alloc (Nat.le_refl _) (.cells #[.int .i32 0] 28)))
          have HY9 := Lib.hid (below2 HY6.out hb9)
          have HL2 := Lib.hid (Blk.new w8 #[.int .i32 0] 28)
          have HL1' := Lib.hid (HL1.out.below hb9)
          clear hb8 hb9 hA x5
          go_upto_region 30 with fail
          generalize w8.alloc (.cells #[.int .i32 0] 28) = w9 at *
          generalize w8.heap.size = L2 at *
          have x1 := HL1'.out.cell 0
          have x2 := HL2.out.cell 0
          have x3 := ((HK0.out.below HX5.out).below HY9.out).cell 0
          have x7 := ((HK7.out.below HX5.out).below HY9.out).cell 0
          have x8 := (HKP5.out.below HY9.out).cell 0
          simp at x1 x2 x3 x7 x8
          have x4 := look10 (HO5.out.below HY9.out)
          have x6 := look17 (HO5.out.below HY9.out)
          have x5 := len1 (HO5.out.below HY9.out)
          go_wp2_with fail
          refine (com8 W4.heap.size j j c (some W3.heap.size) _ _ (HP4.out.below HY9.out)).mono ?_
          rintro e w6 ⟨rfl, rfl⟩
          go_wp2_with fail
          refine wp_loop_rounds 1 ?_
          rw [rounds_succ]
          go_wp2_with fail
          refine (lex9 W4.heap.size j j c (some W3.heap.size) _ _ (HP4.out.below HY9.out)).mono ?_
          rintro e w6 ⟨rfl, rfl⟩
          go_wp2_with fail
          have HH9 := Lib.hid ((HH.out.below HX5.out).below HY9.out)
          have HR9 := Lib.hid ((HR.out.below HX5.out).below HY9.out)
          have hg := guard30
          have hne := neq30
          go_loopw [32] (fun s32 wr => ∃ i : Nat, i ≤ j ∧ s32 = .int .i64 i ∧ Hid (Below w9.heap.size w9 wr)) (fun s32 _ => j - (intOf s32).toNat)
          case atStart => exact ⟨0, Nat.zero_le _, rfl, Below.refl _ _⟩
          case round =>
            obtain ⟨i, hi, rfl, HZ⟩ := hrel
            by_cases hlt : i < j
            · have ra := (HR9.out.below HZ.out).at hlt
              have rb := (HH9.out.below HZ.out).at hlt
              have y1 := ra.1
              have y2 := ra.2
              have y3 := rb.1
              have y4 := rb.2
              have hij : (i : Int) < (j : Int) := by omega
              clear ra rb
              go_wp2_with fail
              go_region_with fail
              all_goals
                go_wp2_with fail
                go_round
                case rel => exact ⟨i + 1, by omega, by go_num, by first | exact HZ | exact Lib.hid HZ.out.drew⟩
                case measure => simp [intOf]; omega
            · go_wp2_with fail
              go_ret
              exact HT.out _ (below4 HB.out HX5.out HY9.out HZ.out)
        · have hn : 0 < j := by omega
          have lm : W3.heap.size < W4.heap.size := World.ownsMap.lt HO4.out
          have lk : KB < W4.heap.size := HKP.out.lt
          have lp : W4.heap.size < w4.heap.size := HP4.out.lt
          have hsv : Calls Tryd.prog 7 #[.pointer (some ⟨W4.heap.size, 0, none⟩)] w4 (Saved W4.heap.size W3.heap.size j Hd c f 1 (D1 (.slice (some ⟨KB, 0, none⟩) 1 1)) w4) :=
            saved7 _ _ _ _ _ _ _ _ _ lp (by omega) (fun w' hb => saveY _ _ _ _ _ _ _ _ _ (HP4.out.below hb) ((HH.out.below HX5.out).below hb) (HO5.out.below hb) hn s1 (by omega) s0 HG.out)
          refine hsv.mono ?_
          clear hsv
          rintro e w5 ⟨S1, rfl, hO, hS, hP, hss, hge, hbb⟩
          have HO6 : Hid (Owns w5 W3.heap.size 2 (D2 (.slice (some ⟨KB, 0, none⟩) 1 1) (.slice (some ⟨S1, 0, none⟩) j j))) := Lib.hid hO
          have HS1 := Lib.hid hS
          have HP6 := Lib.hid hP
          have HX6 : Hid (Below W3.heap.size W3 w5) := Lib.hid (HX5.out.trans (hbb _ (by omega) (Nat.le_refl _) (by omega)))
          have HKP6 := Lib.hid (HKP5.out.same hss (by show ¬ (KB = W4.heap.size ∨ KB = W3.heap.size); omega))
          clear hO hS hP hss hbb
          have hb6 : Below w5.heap.size w5 (w5.alloc (.cells #[.int .i32 0] 28)) := (Below.refl _ _).alloc (Nat.le_refl _) _
          have HP7 := Lib.hid (HP6.out.below hb6)
          have HO7 := Lib.hid (HO6.out.below hb6)
          have HS7 := Lib.hid (HS1.out.below hb6)
          have HX7 := Lib.hid (below2 HX6.out hb6)
          have HKP7 := Lib.hid (HKP6.out.below hb6)
          have HL1 := Lib.hid (Blk.new w5 #[.int .i32 0] 28)
          have lS1 : S1 < w5.heap.size := HS1.out.lt
          have lp5 : W4.heap.size < w5.heap.size := HP6.out.lt
          clear hb6 HP6 HO6 HS1 HX6 HKP6
          go_wp2_with fail
          refine (com8 W4.heap.size j j c (some W3.heap.size) _ _ HP7.out).mono ?_
          rintro e w6 ⟨rfl, rfl⟩
          generalize w5.alloc (.cells #[.int .i32 0] 28) = w6 at *
          generalize w5.heap.size = L1 at *
          have x1 := (HK0.out.below HX7.out).cell 0
          simp at x1
          have x4 := look20 HO7.out
          have q0 := fun w' => mk32 j s1 w'
          go_upto_region 24 with fail
          clear x1 x4 q0
          have hF : Blk (w6.alloc (.cells (madeCells #[.string ⟨#[]⟩] j) 9)) w6.heap.size (fillTo (txs c f j) (.string ⟨#[]⟩) 0) 9 := by
            rw [← fill_start']
            exact Blk.new w6 _ _
          have hbF : Below w6.heap.size w6 (w6.alloc (.cells (madeCells #[.string ⟨#[]⟩] j) 9)) := (Below.refl _ _).alloc (Nat.le_refl _) _
          have HF0 := Lib.hid hF
          have HBF0 := Lib.hid hbF
          clear hF hbF
          generalize w6.alloc (.cells (madeCells #[.string ⟨#[]⟩] j) 9) = w7 at *
          go_wp2_with fail
          go_loopw [22] (fun s22 wr => ∃ i : Nat, i ≤ j ∧ s22 = .int .i64 i ∧ Hid (Blk wr w6.heap.size (fillTo (txs c f j) (.string ⟨#[]⟩) i) 9) ∧ Hid (Below w6.heap.size w6 wr)) (fun s22 _ => j - (intOf s22).toNat)
          case atStart => exact ⟨0, Nat.zero_le _, rfl, HF0, HBF0⟩
          case round =>
            clear HF0 HBF0
            obtain ⟨i, hi, rfl, HF, HBF⟩ := hrel
            by_cases hlt : i < j
            · have y1 := (HS7.out.below HBF.out).cell i
              rw [List.getElem?_toArray, txs_at c f hlt] at y1
              obtain ⟨v, hv⟩ := fill_cell c f hlt
              have y2 := (HF.out.cell i).trans hv
              have y3 := HF.out.free i
              have HF2 := Lib.hid (fill_put c f hlt HF.out)
              have HBF2 : Hid (Below w6.heap.size w6 (wr.setCell ⟨w6.heap.size, i, none⟩ (.string (txt c f i)))) := Lib.hid (HBF.out.setCell (p := ⟨w6.heap.size, i, none⟩) (Nat.le_refl _) _)
              have hij : (i : Int) < (j : Int) := by omega
              clear hv
              generalize txt c f i = T at *
              go_wp2_with fail
              go_round
              case rel => exact ⟨i + 1, by omega, by go_num, HF2, HBF2⟩
              case measure => simp [intOf]; omega
            · obtain rfl : j = i := by omega
              have hfe : fillTo (txs c f j) (.string ⟨#[]⟩) j = (txs c f j).toArray := by
                have := fill_end (txs c f j) (.string ⟨#[]⟩)
                rw [txs_len] at this
                exact this
              rw [hfe] at HF
              clear hfe hlt
              have lL1 : L1 < w6.heap.size := HL1.out.lt
              have lF : w6.heap.size < wr.heap.size := HF.out.lt
              have HPr := Lib.hid (HP7.out.below HBF.out)
              have HOr := Lib.hid (HO7.out.below HBF.out)
              have HXr := Lib.hid (below2 HX7.out HBF.out)
              have x5 := len2 HOr.out
              have hsv : Calls Tryd.prog 7 #[.pointer (some ⟨W4.heap.size, 0, none⟩)] wr (Saved W4.heap.size W3.heap.size j Hd c f 2 (D2 (.slice (some ⟨KB, 0, none⟩) 1 1) (.slice (some ⟨S1, 0, none⟩) j j)) wr) :=
                saved7 _ _ _ _ _ _ _ _ _ (by omega) (by omega) (fun w' hb => saveY _ _ _ _ _ _ _ _ _ (HPr.out.below hb) ((HH.out.below HXr.out).below hb) (HOr.out.below hb) hn s1 (by omega) s0 HG.out)
              have HSV := Lib.hid hsv
              clear hsv
              go_wp2_with fail
              refine HSV.out.mono ?_
              rintro e w8 ⟨S2, rfl, hO, hS, hP, hss, hge, hbb⟩
              have hx8 : Below W3.heap.size W3 w8 := HXr.out.trans (hbb _ (by omega) (Nat.le_refl _) (by omega))
              have hkp8 := (HKP7.out.below HBF.out).same hss (by show ¬ (KB = W4.heap.size ∨ KB = W3.heap.size); omega)
              have hl8 := (HL1.out.below HBF.out).same hss (by show ¬ (L1 = W4.heap.size ∨ L1 = W3.heap.size); omega)
              have hf8 := HF.out.same hss (by show ¬ (w6.heap.size = W4.heap.size ∨ w6.heap.size = W3.heap.size); omega)
              have hb9 : Below w8.heap.size w8 (w8.alloc (.cells #[.int .i32 0] 28)) := (Below.refl _ _).alloc (Nat.le_refl _) _
              have HO9 : Hid (Owns (w8.alloc (.cells #[.int .i32 0] 28)) W3.heap.size 3 (D3 (.slice (some ⟨KB, 0, none⟩) 1 1) (.slice (some ⟨S1, 0, none⟩) j j) (.slice (some ⟨S2, 0, none⟩) j j))) := Lib.hid (Owns.below hO hb9)
              have HS9 := Lib.hid (hS.below hb9)
              have HP9 := Lib.hid (hP.below hb9)
              have HX9 := Lib.hid (below2 hx8 hb9)
              have HK9 := Lib.hid (hkp8.below hb9)
              have HL19 := Lib.hid (hl8.below hb9)
              have HF9 := Lib.hid (hf8.below hb9)
              have HL2 := Lib.hid (Blk.new w8 #[.int .i32 0] 28)
              clear hO hS hP hss hge hbb hx8 hkp8 hl8 hf8 hb9 x5
              go_upto_region 30 with fail
              generalize w8.alloc (.cells #[.int .i32 0] 28) = w9 at *
              generalize w8.heap.size = L2 at *
              have x1 := HL19.out.cell 0
              have x2 := HL2.out.cell 0
              have x3 := (HK0.out.below HX9.out).cell 0
              have x7 := (HK7.out.below HX9.out).cell 0
              have x8 := HK9.out.cell 0
              simp at x1 x2 x3 x7 x8
              have x4 := look30 HO9.out
              have x6 := look37 HO9.out
              have x5 := len3 HO9.out
              go_wp2_with fail
              refine (com8 W4.heap.size j j c (some W3.heap.size) _ _ HP9.out).mono ?_
              rintro e w6' ⟨rfl, rfl⟩
              go_wp2_with fail
              go_loopw [30] (fun s30 wr' => ∃ i : Nat, i ≤ j ∧ s30 = .int .i64 i ∧ Hid (Below w9.heap.size w9 wr')) (fun s30 _ => j - (intOf s30).toNat)
              case atStart => exact ⟨0, Nat.zero_le _, rfl, Below.refl _ _⟩
              case round =>
                clear x1 x2 x3 x4 x5 x6 x7 x8
                obtain ⟨i, hi, rfl, HZ⟩ := hrel
                by_cases hlt : i < j
                · have y1 := (HS9.out.below HZ.out).cell i
                  have y2 := (HF9.out.below HZ.out).cell i
                  rw [List.getElem?_toArray, txs_at c f hlt] at y1 y2
                  have hij : (i : Int) < (j : Int) := by omega
                  generalize txt c f i = T at *
                  have hTT : (T.toList != T.toList) = false := by simp
                  go_wp2_with fail
                  go_region_with fail
                  all_goals
                    go_wp2_with fail
                    go_round
                    case rel => exact ⟨i + 1, by omega, by go_num, by first | exact HZ | exact Lib.hid HZ.out.drew⟩
                    case measure => simp [intOf]; omega
                · obtain rfl : j = i := by omega
                  clear hlt
                  have HP10 := Lib.hid (HP9.out.below HZ.out)
                  go_wp2_with fail
                  refine (lex9 W4.heap.size j j c (some W3.heap.size) _ _ HP10.out).mono ?_
                  rintro e w10 ⟨rfl, rfl⟩
                  go_wp2_with fail
                  have HH9 := Lib.hid (HH.out.below HX9.out)
                  have HR9 := Lib.hid (HR.out.below HX9.out)
                  have hg := guard30
                  have hne := neq30
                  go_loopw [32] (fun s32 wr => ∃ i : Nat, i ≤ j ∧ s32 = .int .i64 i ∧ Hid (Below w9.heap.size w9 wr)) (fun s32 _ => j - (intOf s32).toNat)
                  case atStart => exact ⟨0, Nat.zero_le _, rfl, HZ⟩
                  case round =>
                    obtain ⟨i, hi, rfl, HZ⟩ := hrel
                    by_cases hlt : i < j
                    · have ra := (HR9.out.below HZ.out).at hlt
                      have rb := (HH9.out.below HZ.out).at hlt
                      have y1 := ra.1
                      have y2 := ra.2
                      have y3 := rb.1
                      have y4 := rb.2
                      have hij : (i : Int) < (j : Int) := by omega
                      clear ra rb
                      go_wp2_with fail
                      go_region_with fail
                      all_goals
                        go_wp2_with fail
                        go_round
                        case rel => exact ⟨i + 1, by omega, by go_num, by first | exact HZ | exact Lib.hid HZ.out.drew⟩
                        case measure => simp [intOf]; omega
                    · go_wp2_with fail
                      go_ret
                      exact HT.out _ (below3 HB.out HX9.out HZ.out)
end Go.Proofs.YtpahhgeliaeniaaDoor.sav
