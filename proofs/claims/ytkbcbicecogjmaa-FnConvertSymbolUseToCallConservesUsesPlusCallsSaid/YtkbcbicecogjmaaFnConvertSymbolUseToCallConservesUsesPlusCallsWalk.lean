/- The walk of the law 'FnConvertSymbolUseToCallConservesUsesPlusCalls': it returns true and leaves what was there as it was. No conditions beyond its hypotheses. -/
import Derived.Test.YtkbcbicecogjmaaCnvE
import Derived.Test.YtkbcbicecogjmaaClones
import Derived.Deep.RegionLaw
import Derived.Deep.RegionWith
import Derived.Deep.DeepCutAuto
import Derived.Deep.CutBlock
import Derived.Deep.QuietTactic
import Derived.BigQuiet
namespace Go.Proofs.Ytkbcbicecogjmaa.cnv
open Go.ChangeShapes Go.WideShapes Go.ChangeAt Go.RowKit Go.Mine Go.Maps
set_option linter.unusedVariables false
set_option linter.unusedSimpArgs false
set_option maxRecDepth 100000

def Post (w : World) (e : Ending) (w' : World) : Prop := e = .returned (.bool true) ∧ Below w.heap.size w w'
set_option maxHeartbeats 8000000 in
theorem walk (a0 a1 : Option Addr) (l0 l1 c0 c1 : Nat) (z : List Int) (B : List Bool) (I : Nat → Nat) (w : World) (h0 : IntRow .u8 w a0 l0 c0 z) (h1 : BoolRow w a1 l1 c1 B) (hI : ∀ k, k < 4 → I k < 4294967296) :
    Calls Try.prog 3 #[.slice a0 l0 c0, .slice a1 l1 c1, .agg (row4 I)] w (Post w) := by
  have m0 : l0 ≤ maxLen := Nat.le_trans h0.2.1 h0.2.2.1
  have m1 : l1 ≤ maxLen := Nat.le_trans h1.2.1 h1.2.2.1
  unfold maxLen at m0 m1
  have HT : Hid (∀ w', Below w.heap.size w w' → Post w (.returned (.bool true)) w') := Lib.hid fun w' hb => ⟨rfl, hb⟩
  have hb1 : Below w.heap.size w (w.alloc (.cells (row4 I) 25)) := (Below.refl _ _).alloc (Nat.le_refl _) _
  have HB1 := Lib.hid hb1
  have HI1 := Lib.hid (Blk.new w (row4 I) 25)
  have H0 := Lib.hid h0
  have H1 := Lib.hid h1
  clear hb1 h0 h1
  go_enter Try.func3, Try.ntmps3
  go_upto_region 1 with fail
  generalize w.alloc (.cells (row4 I) 25) = W1 at *
  have x0 := HI1.out.cell 0
  have x1 := HI1.out.cell 1
  have x2 := HI1.out.cell 2
  have x3 := HI1.out.cell 3
  rw [row4_at I (by decide)] at x0 x1 x2 x3
  go_wp2_with fail
  refine (bytes4 a0 a1 l0 l1 c0 c1 _ W1 (by omega) (by omega)).mono ?_
  rintro e W2 ⟨bb, rfl, hbb, hb2⟩
  have HB2 := Lib.hid (below2 HB1.out hb2)
  have HI2 := Lib.hid (HI1.out.below hb2)
  clear hb2 HB1 HI1 x0 x1 x2 x3
  cases bb
  · go_wp2_with fail
    go_ret
    exact HT.out _ HB2.out
  obtain ⟨m0, m1⟩ := hbb rfl
  by_cases s1 : l0 + l1 ≤ 1048576
  case neg =>
    have i1 : decide ((1048576 : Int) < (l0 : Int) + (l1 : Int)) = true := decide_eq_true (by omega)
    go_wp2_with fail
    go_ret
    exact HT.out _ HB2.out
  have i1 : decide ((1048576 : Int) < (l0 : Int) + (l1 : Int)) = false := decide_eq_false (by omega)
  by_cases s0 : l0 ≤ 65536
  case neg =>
    have i2 : decide ((65536 : Int) < (l0 : Int)) = true := decide_eq_true (by omega)
    go_wp2_with fail
    go_ret
    exact HT.out _ HB2.out
  have i2 : decide ((65536 : Int) < (l0 : Int)) = false := decide_eq_false (by omega)
  go_upto_region 9 with fail
  have HX3 : Hid (Box w W2.heap.size (W2.heap.size + 1) I (cs (keyAt z) 0) (gs (keyAt z) (bat B l1) 0) ((W2.alloc (.cells #[.int .u32 0, .int .u32 0, .int .u32 0, .int .u32 0] 25)).alloc (.cells #[.int .u32 0, .int .u32 0, .int .u32 0, .int .u32 0] 25))) := Lib.hid (Box.start w I HB2.out HI2.out)
  clear HB2 HI2
  generalize (W2.alloc (.cells #[.int .u32 0, .int .u32 0, .int .u32 0, .int .u32 0] 25)).alloc (.cells #[.int .u32 0, .int .u32 0, .int .u32 0, .int .u32 0] 25) = W3 at *
  generalize hSb : W2.heap.size + 1 = Sb at *
  generalize W2.heap.size = Ob at *
  clear hSb
  go_wp2_with fail
  go_loopw [9] (fun s9 wr => ∃ i : Nat, i ≤ l0 ∧ s9 = .int .i64 i ∧ Hid (Box w Ob Sb I (cs (keyAt z) i) (gs (keyAt z) (bat B l1) i) wr)) (fun s9 _ => l0 - (intOf s9).toNat)
  case atStart => exact ⟨0, Nat.zero_le _, rfl, HX3⟩
  case round =>
    clear HX3
    obtain ⟨i, hi, rfl, HX⟩ := hrel
    by_cases hlt : i < l0
    · obtain ⟨b, off, rfl, hb, hc⟩ := (H0.out.below HX.out.below).at hlt
      have hkb := and3_of (row_wf H0.out hlt)
      have hk := keyAt_lt z i
      have hke : ((z.getD i 0) % 4).toNat = keyAt z i := rfl
      rw [hke] at hkb
      have H5 := Lib.hid (fun w' hb => bool5 a1 l1 c1 i B w' (H1.out.below hb))
      have hcl := cs_le (keyAt z) i (keyAt z i)
      have hgl := gs_le (keyAt z) (bat B l1) i (keyAt z i)
      have o1 := (HX.out.occ.cell (keyAt z i)).trans (row4_at _ hk)
      have o2 := HX.out.occ.free (keyAt z i)
      have hin : (i : Int) < (l0 : Int) := by omega
      have HX2 := Lib.hid (HX.out.addOcc hk)
      clear hke
      generalize hkk : keyAt z i = k at *
      generalize z.getD i 0 = x at *
      go_upto_region 14 with fail
      generalize wr.setCell ⟨Ob, k, none⟩ (.int .u32 ((cs (keyAt z) i k : Int) + 1)) = wr2 at *
      have g1 := (HX2.out.sng.cell k).trans (row4_at _ hk)
      have g2 := HX2.out.sng.free k
      go_wp2_with fail
      refine (H5.out _ HX2.out.below).mono ?_
      rintro e w5 ⟨rfl, rfl⟩
      cases hbi : bat B l1 i
      · have HX4 : Hid (Box w Ob Sb I (cs (keyAt z) (i + 1)) (gs (keyAt z) (bat B l1) (i + 1)) wr2) := Lib.hid (by
          have e1 : cs (keyAt z) (i + 1) = cnv.put (cs (keyAt z) i) k (cs (keyAt z) i k + 1) := by rw [← hkk]; rfl
          have e2 : gs (keyAt z) (bat B l1) (i + 1) = gs (keyAt z) (bat B l1) i := by
            funext j
            show cnv.put _ (keyAt z i) (gs (keyAt z) (bat B l1) i (keyAt z i) + (bat B l1 i).toNat) j = _
            rw [hbi]
            unfold cnv.put
            split
            · rename_i h; subst h; rfl
            · rfl
          rw [e1, e2]
          exact HX2.out)
        go_wp2_with fail
        go_round
        case rel => exact ⟨i + 1, by omega, by go_num, HX4⟩
        case measure => simp [intOf]; omega
      · have HX4 : Hid (Box w Ob Sb I (cs (keyAt z) (i + 1)) (gs (keyAt z) (bat B l1) (i + 1)) (wr2.setCell ⟨Sb, k, none⟩ (.int .u32 ((gs (keyAt z) (bat B l1) i k : Int) + 1)))) := Lib.hid (by
          have e1 : cs (keyAt z) (i + 1) = cnv.put (cs (keyAt z) i) k (cs (keyAt z) i k + 1) := by rw [← hkk]; rfl
          have e2 : gs (keyAt z) (bat B l1) (i + 1) = cnv.put (gs (keyAt z) (bat B l1) i) k (gs (keyAt z) (bat B l1) i k + 1) := by
            rw [← hkk]
            show cnv.put _ (keyAt z i) (gs (keyAt z) (bat B l1) i (keyAt z i) + (bat B l1 i).toNat) = _
            rw [hbi]
            rfl
          rw [e1, e2]
          exact HX2.out.addSng hk)
        go_wp2_with fail
        go_round
        case rel => exact ⟨i + 1, by omega, by go_num, HX4⟩
        case measure => simp [intOf]; omega
    · obtain rfl : i = l0 := by omega
      clear hi hlt
      go_wp2_with fail
      go_loopw [11] (fun s11 wr => ∃ k : Nat, k ≤ 4 ∧ s11 = .int .i64 k ∧ (∀ j, j < k → cs (keyAt z) i j ≤ I j) ∧ Hid (Box w Ob Sb I (cs (keyAt z) i) (gs (keyAt z) (bat B l1) i) wr)) (fun s11 _ => 4 - (intOf s11).toNat)
      case atStart => exact ⟨0, by omega, rfl, fun j hj => absurd hj (Nat.not_lt_zero _), HX⟩
      case round =>
        clear HX
        obtain ⟨k, hk, rfl, hle, HX⟩ := hrel
        by_cases hlt : k < 4
        · have o1 := (HX.out.occ.cell k).trans (row4_at _ hlt)
          have o2 := (HX.out.ini.cell k).trans (row4_at _ hlt)
          have hk4 : (k : Int) < 4 := by omega
          go_wp2_with fail
          go_region_with fail
          all_goals
            have HX2 : Hid (Box w Ob Sb I (cs (keyAt z) i) (gs (keyAt z) (bat B l1) i) wr.drew) := Lib.hid (HX.out.later (Below.refl _ wr).drew)
            by_cases hc : I k < cs (keyAt z) i k
            · have hc1 : decide ((I k : Int) < (cs (keyAt z) i k : Int)) = true := decide_eq_true (by omega)
              go_wp2_with fail
              go_ret
              exact HT.out _ HX2.out.below
            · have hc1 : decide ((I k : Int) < (cs (keyAt z) i k : Int)) = false := decide_eq_false (by omega)
              go_wp2_with fail
              go_round
              case rel => exact ⟨k + 1, by omega, by go_num, fun j hj => by
                by_cases e : j = k
                · subst e; omega
                · exact hle j (by omega), HX2⟩
              case measure => simp [intOf]; omega
        · obtain rfl : k = 4 := by omega
          clear hk hlt
          have H6 := Lib.hid (clone6 a0 i c0 z wr (H0.out.below HX.out.below) (by omega))
          go_wp2_with fail
          refine H6.out.mono ?_
          rintro e w4 ⟨a4, rfl, hr4, _, _, hb4⟩
          have HX4 := Lib.hid (HX.out.later hb4)
          have HR4 := Lib.hid hr4
          clear hr4 hb4 H6 HX
          have H7 := Lib.hid (clone7 a1 l1 c1 B w4 (H1.out.below HX4.out.below) (by omega))
          go_wp2_with fail
          refine H7.out.mono ?_
          rintro e w5 ⟨a5, rfl, hr5, _, _, hb5⟩
          have HX5 := Lib.hid (HX4.out.later hb5)
          have HR5 := Lib.hid hr5
          have HQ5 := Lib.hid (HR4.out.below hb5)
          clear hr5 hb5 H7 HX4 HR4 H0 H1
          have q1 := run_makeMap (P := Try.prog) 30 w5
          go_upto_region 25 with fail
          have hb6 : Below w5.heap.size w5 (w5.alloc (.map #[] 0)) := (Below.refl _ _).alloc (Nat.le_refl _) _
          have HX6 := Lib.hid (HX5.out.later hb6)
          have HR6 : Hid (∀ w', Below w5.heap.size (w5.alloc (.map #[] 0)) w' → BoolRow w' a5 l1 l1 B) := Lib.hid fun w' hb => HR5.out.below (hb6.trans hb)
          have HQ6 : Hid (∀ w', Below w5.heap.size (w5.alloc (.map #[] 0)) w' → IntRow .u8 w' a4 i i z) := Lib.hid fun w' hb => HQ5.out.below (hb6.trans hb)
          have HM6 : Hid (Owns (w5.alloc (.map #[] 0)) w5.heap.size 0 (.map [])) := Lib.hid (World.ownsMap_made w5 _ _ _)
          have hSm : Sb < w5.heap.size := HX5.out.sng.lt
          have HSZ : Hid (w5.heap.size < (w5.alloc (.map #[] 0)).heap.size) := Lib.hid (by simp)
          have HU6 : Hid (Uses (.map []) (fill I 0)) := Lib.hid (Uses.empty.congr fun k hk => by simp [fill])
          clear hb6 HX5 HR5 HQ5 q1
          generalize w5.alloc (.map #[] 0) = w6 at *
          generalize w5.heap.size = mu at *
          have HB6 : Hid (Below mu w6 w6) := Lib.hid (Below.refl _ _)
          go_wp2_with fail
          go_loopw [13] (fun s13 wr => ∃ (k : Nat) (D : DataW Value), k ≤ 4 ∧ s13 = .int .i64 k ∧ Hid (Owns wr mu k D) ∧ Hid (Uses D (fill I k)) ∧ Hid (Below mu w6 wr)) (fun s13 _ => 4 - (intOf s13).toNat)
          case atStart => exact ⟨0, _, by omega, rfl, HM6, HU6, HB6⟩
          case round =>
            clear HM6 HU6 HB6
            obtain ⟨k, D, hk, rfl, HM, HU, HB⟩ := hrel
            have HX7 := Lib.hid (HX6.out.up HB.out hSm (Nat.le_of_lt HSZ.out))
            by_cases hlt : k < 4
            · have o2 := (HX7.out.ini.cell k).trans (row4_at _ hlt)
              have hk4 : (k : Int) < 4 := by omega
              have hIk := hI k hlt
              by_cases hI0 : I k = 0
              · have hc1 : decide ((0 : Int) < (I k : Int)) = false := decide_eq_false (by omega)
                have HU2 := Lib.hid (HU.out.fillSkip hI0)
                have HM2 : Hid (Owns wr mu (k + 1) D) := Lib.hid (HM.out.mono (Nat.le_succ _))
                go_wp2_with fail
                go_round
                case rel => exact ⟨k + 1, D, by omega, by go_num, HM2, HU2, HB⟩
                case measure => simp [intOf]; omega
              · have hc1 : decide ((0 : Int) < (I k : Int)) = true := decide_eq_true (by omega)
                obtain ⟨wU, hrun, hOU, hgU⟩ := World.ownsMap.update (w := wr) (t := 30) (e := 32) HM.out lawK Try.underlying30 (by unfold maxLen; omega) (key := ref k) (val := use (I k)) (kl_is hlt) rfl
                have HU2 := Lib.hid (HU.out.fillPut hlt (Nat.pos_of_ne_zero hI0))
                have HMU : Hid (Owns wU mu (k + 1) (D.put (kl k) (.held (use (I k))))) := Lib.hid hOU
                have HBU := Lib.hid (HB.out.trans (below_grown hgU (Nat.le_refl _) (Nat.le_of_lt HM.out.lt)))
                clear hOU hgU
                go_wp2_with fail
                go_round
                case rel => exact ⟨k + 1, _, by omega, by go_num, HMU, HU2, HBU⟩
                case measure => simp [intOf]; omega
            · obtain rfl : k = 4 := by omega
              have HU4 := Lib.hid HU.out.fillAll
              clear hk hlt HU
              go_upto_region 30 with fail
              have hb8 : Below wr.heap.size wr (wr.alloc (.cells #[.slice none 0 0, .slice none 0 0, .slice none 0 0, .slice none 0 0, .map (some mu), .map none, .map none, .slice none 0 0, .bool false, .bool false, .bool false] 44)) := (Below.refl _ _).alloc (Nat.le_refl _) _
              have hP8 : Prt wr.heap.size mu none (wr.alloc (.cells #[.slice none 0 0, .slice none 0 0, .slice none 0 0, .slice none 0 0, .map (some mu), .map none, .map none, .slice none 0 0, .bool false, .bool false, .bool false] 44)) := ⟨_, Blk.new _ _ _, rfl, rfl⟩
              have hmq : mu < wr.heap.size := HM.out.lt
              have hm8 := HM.out.below hb8
              have HB8 := Lib.hid (HB.out.trans (hb8.mono (Nat.le_of_lt hmq)))
              have HP8 := Lib.hid hP8
              have HM8 := Lib.hid hm8
              clear hb8 hP8 hm8 HB HM HX7
              generalize wr.alloc (.cells #[.slice none 0 0, .slice none 0 0, .slice none 0 0, .slice none 0 0, .map (some mu), .map none, .map none, .slice none 0 0, .bool false, .bool false, .bool false] 44) = w8 at *
              generalize wr.heap.size = q at *
              have H8 := Lib.hid (made8 q w8)
              go_wp2_with fail
              refine H8.out.mono ?_
              rintro e w9 ⟨rfl, hP9, hb9⟩
              have hqp : q < w8.heap.size := HP8.out.lt
              have HS9 : Hid (Sta w8.heap.size q mu none 4 (us (keyAt z) I 0) (cs (keyAt z) 0) (gs (keyAt z) (bat B l1) 0) w9) := Lib.hid ⟨hP9, HP8.out.same (Same.of_below (X := fun _ => False) hb9) id, ⟨D, HM8.out.below hb9, HU4.out⟩, .inl ⟨rfl, fun _ _ => ⟨rfl, rfl⟩⟩, by omega, hmq⟩
              have HB9 := Lib.hid (HB8.out.trans (hb9.mono (by omega)))
              clear hP9 hb9 HP8 HM8 HB8 HU4 H8
              generalize w8.heap.size = p at *
              go_wp2_with fail
              go_loopw [16] (fun s16 wr => ∃ (j : Nat) (o : Option Nat), j ≤ i ∧ s16 = .int .i64 j ∧ Hid (Sta p q mu o (4 + 2 * j) (us (keyAt z) I j) (cs (keyAt z) j) (gs (keyAt z) (bat B l1) j) wr) ∧ Hid (Below mu w6 wr) ∧ Hid (o.isNone = decide (j = 0))) (fun s16 _ => i - (intOf s16).toNat)
              case atStart => exact ⟨0, none, Nat.zero_le _, rfl, HS9, HB9, rfl⟩
              case round =>
                clear HS9 HB9
                obtain ⟨j, o, hj, rfl, HS, HB, HOn⟩ := hrel
                by_cases hlt : j < i
                · obtain ⟨b, off, rfl, hb, hc⟩ := (HQ6.out _ HB.out).at hlt
                  have hkb := and3_of (row_wf (HQ6.out _ HB.out) hlt)
                  have hk := keyAt_lt z j
                  have hke : ((z.getD j 0) % 4).toNat = keyAt z j := rfl
                  rw [hke] at hkb
                  have hmw : mu ≤ wr.heap.size := by obtain ⟨D', hD', _⟩ := HS.out.uses; exact Nat.le_of_lt hD'.lt
                  have H5 := Lib.hid (fun w' (hb : Below wr.heap.size wr w') => bool5 a5 l1 l1 j B w' (HR6.out _ (HB.out.trans (hb.mono hmw))))
                  have hup := us_pos (keyAt z) I (fun k hk => hle k hk) hlt hk
                  have hul := Nat.lt_of_le_of_lt (us_le (keyAt z) I (fun k hk => hle k hk) (Nat.le_of_lt hlt) hk) (hI _ hk)
                  have hcl := cs_le (keyAt z) j (keyAt z j)
                  have hgl := gs_le (keyAt z) (bat B l1) j (keyAt z j)
                  have H9 := Lib.hid (fun w' (hb : Below wr.heap.size wr w') => conv9 p q mu (4 + 2 * j) (keyAt z j) o (bat B l1 j) _ _ _ w' (HS.out.below hb) hk hup hul (by omega) (by omega) (by omega))
                  have hin : (j : Int) < (i : Int) := by omega
                  have HBM : Hid (∀ w', Below mu wr w' → Below mu w6 w') := Lib.hid fun w' hb => HB.out.trans hb
                  clear hke hup hul hcl hgl HB
                  generalize hkk : keyAt z j = k at *
                  generalize z.getD j 0 = x at *
                  have hwk : IntKind.u32.wrap (k : Int) = (k : Int) := wrapU (by omega) (by omega)
                  go_wp2_with fail
                  go_region_with (first | (go_at_call 5; (with_reducible refine (H5.out _ ?_).mono ?_); (repeat (first | with_reducible exact Below.refl _ _ | with_reducible refine Below.drew ?_)); rintro e w1 ⟨rfl, rfl⟩) | (go_at_call 9; (with_reducible refine (H9.out _ ?_).mono ?_); (repeat (first | with_reducible exact Below.refl _ _ | with_reducible refine Below.drew ?_)); rintro e w1 ⟨rfl, hbC, mc, hsC⟩; have HSC := Lib.hid hsC; have HBC := Lib.hid (HBM.out _ ((Below.refl _ wr).drew.trans hbC)); clear hbC hsC))
                  all_goals
                    have HS2 : Hid (Sta p q mu (some mc) (4 + 2 * (j + 1)) (us (keyAt z) I (j + 1)) (cs (keyAt z) (j + 1)) (gs (keyAt z) (bat B l1) (j + 1)) w1) := Lib.hid (by
                      have h := HSC.out
                      rw [← hkk] at h
                      exact h)
                    go_wp2_with fail
                    go_round
                    case rel => exact ⟨j + 1, some mc, by omega, by go_num, HS2, HBC, Lib.hid (by simp)⟩
                    case measure => simp [intOf]; omega
                · obtain rfl : j = i := by omega
                  have HX8 := Lib.hid (HX6.out.up HB.out hSm (Nat.le_of_lt HSZ.out))
                  clear hj hlt HQ6 HR6 HX6
                  have HBj := Lib.hid HX8.out.below
                  have x1 := HS.out.prt.cals
                  have qn : ∀ w', (binOp .neq 40 (.map o) (.map none)).run Try.prog w' = .ok (.bool (decide ((0 : Int) < (j : Int)))) w' := fun w' => by
                    rw [mapNeq, HOn.out]
                    by_cases e : j = 0
                    · rw [decide_eq_true e, decide_eq_false (show ¬ (0 : Int) < (j : Int) by omega)]; rfl
                    · rw [decide_eq_false e, decide_eq_true (show (0 : Int) < (j : Int) by omega)]; rfl
                  have hxx : (decide ((0 : Int) < (j : Int)) != decide ((0 : Int) < (j : Int))) = false := by simp
                  go_upto_region 40 with fail
                  have HSUM : Hid (∀ k, k < 4 → us (keyAt z) I j k + cs (keyAt z) j k = I k) := Lib.hid fun k hk => us_cs (keyAt z) I (n := j) (fun k hk => hle k hk) j (Nat.le_refl _) k hk
                  have hmw := hmq
                  clear qn hxx x1 HOn HBj hle HB
                  generalize us (keyAt z) I j = u at *
                  generalize cs (keyAt z) j = c at *
                  generalize gs (keyAt z) (bat B l1) j = g at *
                  go_wp2_with fail
                  go_loopw [17, 18, 19] (fun s17 s18 s19 wr => ∃ k a b : Nat, k ≤ 4 ∧ a ≤ k ∧ b ≤ k ∧ a = upTo (fun m => decide (0 < u m)) k ∧ b = upTo (fun m => decide (0 < c m)) k ∧ s17 = .int .i64 a ∧ s18 = .int .i64 b ∧ s19 = .int .i64 k ∧ Hid (Sta p q mu o (4 + 2 * j) u c g wr) ∧ Hid (Box w Ob Sb I c g wr)) (fun _ _ s19 _ => 4 - (intOf s19).toNat)
                  case atStart => exact ⟨0, 0, 0, by omega, Nat.le_refl _, Nat.le_refl _, rfl, rfl, rfl, rfl, rfl, HS, HX8⟩
                  case round =>
                    clear HS HX8
                    obtain ⟨k, a, b, hk, hak, hbk, ha, hb, rfl, rfl, rfl, HS, HX⟩ := hrel
                    by_cases hlt : k < 4
                    · have hwk : IntKind.u32.wrap (k : Int) = (k : Int) := wrapU (by omega) (by omega)
                      have hk4 : (k : Int) < 4 := by omega
                      go_upto_region 43 with fail
                      have hb1 : Below wr.heap.size wr (wr.alloc (.cells #[.int .u32 0, .int .u32 k] 34)) := (Below.refl _ _).alloc (Nat.le_refl _) _
                      have HS1 := Lib.hid (HS.out.below hb1)
                      have HX1 := Lib.hid (HX.out.later hb1)
                      have HK1 := Lib.hid (Blk.new wr #[.int .u32 0, .int .u32 k] 34)
                      clear hb1 HS HX
                      generalize wr.alloc (.cells #[.int .u32 0, .int .u32 k] 34) = W1 at *
                      have r0 := HK1.out.cell 0
                      have r1 := HK1.out.cell 1
                      simp at r0 r1
                      have x1 := HS1.out.prt.uses
                      obtain ⟨D1, hO1, hU1⟩ := HS1.out.uses
                      have hb2 : Below W1.heap.size W1 (W1.alloc (.cells #[.int .u32 0] 32)) := (Below.refl _ _).alloc (Nat.le_refl _) _
                      have y1 := look_uses hO1.drew hU1 hlt
                      have y2 := look_uses (hO1.below hb2).drew hU1 hlt
                      have lk1 := HK1.out.lt
                      have lq1 := HS1.out.prt.lt
                      clear hO1 hU1 hb2
                      go_cut [21, 22] (fun s21 s22 Wc => s21 = .pointer (some ⟨W1.heap.size, 0, none⟩) ∧ s22 = .bool (decide (0 < u k)) ∧ Wc = (W1.alloc (.cells #[.int .u32 (u k)] 32)).drew)
                      case first =>
                        go_region
                        all_goals
                          go_wp2_with fail
                          go_meet
                          exact ⟨rfl, rfl, rfl⟩
                      case rest =>
                        obtain ⟨rfl, rfl, rfl⟩ := hcut
                        have hb3 : Below W1.heap.size W1 (W1.alloc (.cells #[.int .u32 (u k)] 32)).drew := ((Below.refl _ _).alloc (Nat.le_refl _) _).drew
                        have HS2 := Lib.hid (HS1.out.below hb3)
                        have HX2 := Lib.hid (HX1.out.later hb3)
                        have HK2 := Lib.hid (HK1.out.below hb3)
                        have HV2 : Hid (Blk (W1.alloc (.cells #[.int .u32 (u k)] 32)).drew W1.heap.size #[.int .u32 (u k)] 32) := Lib.hid (Blk.new W1 _ _)
                        clear hb3 HS1 HX1 HK1 r0 r1 x1 y1 y2 lk1 lq1
                        generalize (W1.alloc (.cells #[.int .u32 (u k)] 32)).drew = W2 at *
                        have r0 := HK2.out.cell 0
                        have r1 := HK2.out.cell 1
                        simp at r0 r1
                        have x1 := HS2.out.prt.cals
                        have hb4 : Below W2.heap.size W2 (W2.alloc (.cells #[.int .u32 0, .int .u32 0] 50)) := (Below.refl _ _).alloc (Nat.le_refl _) _
                        have y1 := look_cls (HS2.out.below (Below.refl _ W2).drew).cals hlt
                        have y2 := look_cls (HS2.out.below hb4.drew).cals hlt
                        have lk2 := HK2.out.lt
                        have lq2 := HS2.out.prt.lt
                        clear hb4
                        go_wp2_with fail
                        go_cut [23, 24] (fun s23 s24 Wc => s23 = .pointer (some ⟨W2.heap.size, 0, none⟩) ∧ s24 = .bool (decide (0 < c k)) ∧ Wc = (W2.alloc (.cells #[.int .u32 (c k), .int .u32 (g k)] 50)).drew)
                        case first =>
                          go_region
                          all_goals
                            go_wp2_with fail
                            go_meet
                            exact ⟨rfl, rfl, rfl⟩
                        case rest =>
                          obtain ⟨rfl, rfl, rfl⟩ := hcut
                          have hb5 : Below W2.heap.size W2 (W2.alloc (.cells #[.int .u32 (c k), .int .u32 (g k)] 50)).drew := ((Below.refl _ _).alloc (Nat.le_refl _) _).drew
                          have HS3 := Lib.hid (HS2.out.below hb5)
                          have HX3 := Lib.hid (HX2.out.later hb5)
                          have HV3 := Lib.hid (HV2.out.below hb5)
                          have HC3 : Hid (Blk (W2.alloc (.cells #[.int .u32 (c k), .int .u32 (g k)] 50)).drew W2.heap.size #[.int .u32 (c k), .int .u32 (g k)] 50) := Lib.hid (Blk.new W2 _ _)
                          clear hb5 HS2 HX2 HK2 HV2 r0 r1 x1 y1 y2 lk2 lq2
                          generalize (W2.alloc (.cells #[.int .u32 (c k), .int .u32 (g k)] 50)).drew = W3 at *
                          have v0 := HV3.out.cell 0
                          have v1 := HC3.out.cell 0
                          have v2 := HC3.out.cell 1
                          simp at v0 v1 v2
                          have o1 := (HX3.out.ini.cell k).trans (row4_at _ hlt)
                          have o2 := (HX3.out.occ.cell k).trans (row4_at _ hlt)
                          have o3 := (HX3.out.sng.cell k).trans (row4_at _ hlt)
                          have hsum := HSUM.out k hlt
                          have hIk := hI k hlt
                          have hadd : IntKind.u32.wrap ((u k : Int) + (c k : Int)) = (I k : Int) := by rw [wrapU (by omega) (by omega)]; omega
                          have hcpos : decide ((0 : Int) < (c k : Int)) = decide (0 < c k) := by
                            by_cases e : 0 < c k
                            · rw [decide_eq_true e, decide_eq_true (by omega)]
                            · rw [decide_eq_false e, decide_eq_false (by omega)]
                          have hn1 : ((I k : Int) != (I k : Int)) = false := by simp
                          have hn2 : ((c k : Int) != (c k : Int)) = false := by simp
                          have hn3 : ((g k : Int) != (g k : Int)) = false := by simp
                          have ha1 : a + (decide (0 < u k)).toNat = upTo (fun m => decide (0 < u m)) (k + 1) := by rw [ha]; rfl
                          have hb1 : b + (decide (0 < c k)).toNat = upTo (fun m => decide (0 < c m)) (k + 1) := by rw [hb]; rfl
                          obtain ⟨bu, hbu⟩ : ∃ b, decide (0 < u k) = b := ⟨_, rfl⟩
                          obtain ⟨bc, hbc⟩ : ∃ b, decide (0 < c k) = b := ⟨_, rfl⟩
                          have d2 : bu = true → ((u k : Int) == 0) = false := fun h => beq_eq_false_iff_ne.2 (by rw [h] at hbu; have := of_decide_eq_true hbu; omega)
                          rw [hbc] at hcpos hb1
                          rw [hbu] at ha1
                          rw [hbu, hbc]
                          have HA1 := Lib.hid ha1
                          have HB1 := Lib.hid hb1
                          clear ha1 hb1 ha hb
                          cases bu <;> cases bc
                          all_goals
                            have d3 := d2
                            simp only [reduceCtorEq, false_implies, true_implies] at d3
                            clear d2
                            go_wp2_with fail
                            go_quiet (fail)
                            go_wp2_with fail
                            go_quiet (fail)
                            have hd2 : ∀ n, Below W3.heap.size W3 (W3.drewN n) := fun n => below_drewN (Below.refl _ _) n
                            have HS4 := fun n => Lib.hid (HS3.out.below (hd2 n))
                            have HX4 := fun n => Lib.hid (HX3.out.later (hd2 n))
                            clear hd2
                            go_wp2_with fail
                            go_round
                            case rel => exact ⟨k + 1, _, _, by omega, by simp <;> omega, by simp <;> omega, HA1.out, HB1.out, by first | rfl | simp, by first | rfl | simp, by go_num, HS4 _, HX4 _⟩
                            case measure => simp [intOf]; omega
                    · obtain rfl : k = 4 := by omega
                      rw [upTo_four] at ha hb
                      have x1 := HS.out.prt.uses
                      have x2 := HS.out.prt.cals
                      obtain ⟨D1, hO1, hU1⟩ := HS.out.uses
                      have y1 := len_uses hO1 hU1
                      have y2 := len_cls HS.out.cals
                      rw [← ha] at y1
                      rw [← hb] at y2
                      clear hO1 hU1 ha hb
                      have z1 : ((a : Int) == (a : Int)) = true := by simp
                      have z2 : ((b : Int) == (b : Int)) = true := by simp
                      go_wp2_with fail
                      go_ret
                      exact HT.out _ HX.out.below
end Go.Proofs.Ytkbcbicecogjmaa.cnv
