/- The contract of 'zzCommentRanges'. No conditions beyond the hypotheses. -/
import Derived.Test.YtpahhgeliaeniaaDoorSavF
import Derived.BigGuardPart
import Derived.Lib.IndexBytes
import Derived.Deep.DeepCutAuto
import Derived.Deep.CutBlock
namespace Go.Proofs.YtpahhgeliaeniaaDoor.sav
open Go.ChangeShapes Go.WideShapes Go.ChangeAt Go.RowKit Go.Mine Go.Maps
set_option linter.unusedVariables false
set_option linter.unusedSimpArgs false
set_option maxRecDepth 100000

theorem plain_of (c : ByteArray) (s l : Nat) (hsl : s + l ≤ c.size) (h : l < 2 ∨ ∃ (h1 : s < c.size) (h2 : s + 1 < c.size), ¬ ((c[s]'h1).toNat = 47 ∧ (c[s + 1]'h2).toNat = 42)) : Plain (c.extract s (s + l)) := by
  have hz : (c.extract s (s + l)).size = l := by rw [ByteArray.size_extract]; omega
  rcases h with h | ⟨h1, h2, h⟩
  · exact .inl (by omega)
  · by_cases hl : l < 2
    · exact .inl (by omega)
    refine .inr ⟨by omega, beq_eq_false_iff_ne.2 fun e => h ?_⟩
    rw [ByteArray.toList_eq, ByteArray.data_extract, ByteArray.data_extract, Array.toList_extract, Array.toList_extract] at e
    simp only [List.extract_eq_take_drop] at e
    have e0 := congrArg (·[0]?) e
    have e1 := congrArg (·[1]?) e
    have k0 : s < c.data.size := h1
    have k1 : s + 1 < c.data.size := h2
    simp [List.getElem?_take, List.getElem?_drop] at e0 e1
    have d0 : c.data[s] = c[s]'h1 := rfl
    have d1 : c.data[s + 1] = c[s + 1]'h2 := rfl
    have e2 := e0.2
    have e3 := e1.2
    rw [Array.getElem?_eq_getElem k0] at e2
    rw [Array.getElem?_eq_getElem k1] at e3
    injection e2 with e2
    injection e3 with e3
    exact ⟨by rw [← d0, e2]; rfl, by rw [← d1, e3]; rfl⟩
theorem row_rng {w : World} {a : Option Addr} {l k : Nat} {z : List Int} (h : IntRow .i32 w a l k z) {j : Nat} (hj : j < l) : -2147483648 ≤ z.getD j 0 ∧ z.getD j 0 ≤ 2147483647 := by
  have hl : j < z.length := by rw [h.1]; exact hj
  have := h.2.2.2.1 (z.getD j 0) (by simp [hl])
  simpa [Lit.wf, IntKind.min, IntKind.max, IntKind.signed, IntKind.bits] using this
def Good (c : ByteArray) (f : Nat → Nat × Nat) (n : Nat) : Prop := ∀ j, j < n → (f j).1 + (f j).2 ≤ c.size ∧ Plain (txt c f j)
theorem Good.put {c : ByteArray} {f : Nat → Nat × Nat} {j s l : Nat} (h : Good c f j) (h1 : s + l ≤ c.size) (h2 : Plain (c.extract s (s + l))) : Good c (upd f j (s, l)) (j + 1) := fun i hi => by
  unfold txt upd
  by_cases e : i = j
  · rw [if_pos e]
    exact ⟨h1, h2⟩
  · rw [if_neg e]
    exact h i (by omega)
def Ranged (c : ByteArray) (n : Nat) (w : World) (e : Ending) (w' : World) : Prop :=
  Below w.heap.size w w' ∧ (e = .returned (.tuple #[.slice none 0 0, .bool false]) ∨
    ∃ f, e = .returned (.tuple #[.slice (some ⟨w.heap.size, 0, none⟩) n n, .bool true]) ∧ Rng w.heap.size n f w' ∧ Good c f n)
set_option maxHeartbeats 16000000 in
theorem ranges5 (c : ByteArray) (a1 a2 : Option Addr) (l1 l2 k1 k2 : Nat) (z1 z2 : List Int) (w : World) (h1 : IntRow .i32 w a1 l1 k1 z1) (h2 : IntRow .i32 w a2 l2 k2 z2) (hz : c.size ≤ 65536) (m1 : l1 ≤ 4096) (m2 : l2 ≤ 4096) :
    Calls Tryd.prog 5 #[.string c, .slice a1 l1 k1, .slice a2 l2 k2] w (Ranged c l1 w) := by
  have H1 := Lib.hid h1
  have H2 := Lib.hid h2
  clear h1 h2
  have q2 := fun w' => mk24 l1 m1 w'
  have HB0 : Hid (Below w.heap.size w (w.alloc (.cells (madeCells #[.int .i32 0, .int .i32 0] (l1 * 2)) 30))) := Lib.hid ((Below.refl _ _).alloc (Nat.le_refl _) _)
  have HR0 := Lib.hid (Rng.made l1 w)
  have HN : Hid (∀ w', Below w.heap.size w w' → Ranged c l1 w (.returned (.tuple #[.slice none 0 0, .bool false])) w') := Lib.hid fun w' hb => ⟨hb, .inl rfl⟩
  go_enter Tryd.func5, Tryd.ntmps5
  go_upto_region 4 with fail
  generalize w.alloc (.cells (madeCells #[.int .i32 0, .int .i32 0] (l1 * 2)) 30) = W at *
  clear q2
  go_wp2_with fail
  go_loopw [9, 11] (fun s9 s11 wr => ∃ (j t : Nat) (f : Nat → Nat × Nat), j ≤ l1 ∧ t ≤ 1048576 ∧ s9 = .int .i64 t ∧ s11 = .int .i64 j ∧ Hid (Below w.heap.size w wr) ∧ Hid (Rng w.heap.size l1 f wr) ∧ Hid (Good c f j)) (fun _ s11 _ => l1 - (intOf s11).toNat)
  case atStart => exact ⟨0, 0, _, Nat.zero_le _, by omega, rfl, rfl, HB0, HR0, fun j hj => absurd hj (Nat.not_lt_zero _)⟩
  case round =>
    clear HB0 HR0
    obtain ⟨j, t, f, hj, ht, rfl, rfl, HB, HR, HG⟩ := hrel
    by_cases hlt : j < l1
    · obtain ⟨b, off, ea, hb, hc⟩ := (H1.out.below HB.out).at hlt
      subst ea
      have hr1 := row_rng H1.out hlt
      generalize z1.getD j 0 = x at *
      have hjn : (j : Int) < (l1 : Int) := by omega
      go_upto_if 33 with fail
      go_cut [13] (fun s13 Wc => ∃ y : Int, s13 = .int .i64 y ∧ -2147483648 ≤ y ∧ y ≤ 2147483647 ∧ Wc = wr)
      case first =>
        by_cases hj2 : j < l2
        · obtain ⟨b2, off2, ea2, hb2, hc2⟩ := (H2.out.below HB.out).at hj2
          subst ea2
          have hr2 := row_rng H2.out hj2
          generalize z2.getD j 0 = y at *
          have hjn2 : (j : Int) < (l2 : Int) := by omega
          go_wp2_with fail
          go_meet
          exact ⟨y, rfl, hr2.1, hr2.2, rfl⟩
        · go_wp2_with fail
          go_meet
          exact ⟨0, rfl, by omega, by omega, rfl⟩
      case rest =>
      obtain ⟨y, rfl, hy1, hy2, rfl⟩ := hcut
      clear hc hb
      by_cases c1 : x < 0
      · go_wp2_with fail
        refine bodyPost_ret (results_tmp2 rfl _ _ _) rfl ?_
        exact HN.out _ HB.out
      by_cases c2 : y < 0
      · go_wp2_with fail
        refine bodyPost_ret (results_tmp2 rfl _ _ _) rfl ?_
        exact HN.out _ HB.out
      obtain ⟨s, rfl⟩ : ∃ s : Nat, x = s := ⟨x.toNat, by omega⟩
      obtain ⟨l, rfl⟩ : ∃ l : Nat, y = l := ⟨y.toNat, by omega⟩
      by_cases c3 : s ≤ c.size
      case neg =>
        go_wp2_with fail
        all_goals
          refine bodyPost_ret (results_tmp2 rfl _ _ _) rfl ?_
          exact HN.out _ HB.out
      by_cases c4 : s + l ≤ c.size
      case neg =>
        go_wp2_with fail
        all_goals
          refine bodyPost_ret (results_tmp2 rfl _ _ _) rfl ?_
          exact HN.out _ HB.out
      have i1 : decide ((s : Int) < 0) = false := decide_eq_false (by omega)
      have i2 : decide ((l : Int) < 0) = false := decide_eq_false (by omega)
      have i3 : decide ((s : Int) > (c.size : Int)) = false := decide_eq_false (by omega)
      have i4 : decide ((l : Int) > (c.size : Int) - (s : Int)) = false := decide_eq_false (by omega)
      clear c1 c2
      clear H1 H2
      by_cases hst : ∃ (k0 : s < c.size) (k1 : s + 1 < c.size), 2 ≤ l ∧ (((c[s]'k0).toNat : Int) == 47) = true ∧ (((c[s + 1]'k1).toNat : Int) == 42) = true
      · obtain ⟨k0, k1, c5, d6, d7⟩ := hst
        go_wp2_with fail
        refine bodyPost_ret (results_tmp2 rfl _ _ _) rfl ?_
        exact HN.out _ HB.out
      have hall : (l < 2 ∧ Plain (c.extract s (s + l))) ∨ ∃ (k0 : s < c.size) (k1 : s + 1 < c.size), 2 ≤ l ∧ Plain (c.extract s (s + l)) ∧ ((((c[s]'k0).toNat : Int) == 47) = false ∨ ((((c[s]'k0).toNat : Int) == 47) = true ∧ (((c[s + 1]'k1).toNat : Int) == 42) = false)) := by
        by_cases c5 : l < 2
        · exact .inl ⟨c5, plain_of c s l c4 (.inl c5)⟩
        · have k0 : s < c.size := by omega
          have k1 : s + 1 < c.size := by omega
          refine .inr ⟨k0, k1, by omega, ?_⟩
          cases d6 : (((c[s]'k0).toNat : Int) == 47)
          · exact ⟨plain_of c s l c4 (.inr ⟨k0, k1, fun h => by rw [h.1] at d6; cases d6⟩), .inl rfl⟩
          · cases d7 : (((c[s + 1]'k1).toNat : Int) == 42)
            · exact ⟨plain_of c s l c4 (.inr ⟨k0, k1, fun h => by rw [h.2] at d7; cases d7⟩), .inr ⟨rfl, rfl⟩⟩
            · exact absurd ⟨k0, k1, by omega, d6, d7⟩ hst
      clear hst
      have hr := HR.out.at hlt
      have r1 := hr.1
      have r2 := hr.2
      have r3 := HR.out.free (j * 2)
      have r4 := HR.out.free (j * 2 + 1)
      clear hr
      have HRP := Lib.hid (HR.out.put hlt s l)
      have HBP : Hid (Below w.heap.size w ((wc.setCell ⟨w.heap.size, j * 2, none⟩ (.int .i32 (s : Int))).setCell ⟨w.heap.size, j * 2 + 1, none⟩ (.int .i32 (l : Int)))) := Lib.hid ((HB.out.setCell (p := ⟨w.heap.size, j * 2, none⟩) (Nat.le_refl _) _).setCell (p := ⟨w.heap.size, j * 2 + 1, none⟩) (Nat.le_refl _) _)
      rcases hall with ⟨c5, hp⟩ | ⟨k0, k1, c5, hp, d6 | ⟨d6, d7⟩⟩
      all_goals
        have HGP := Lib.hid (HG.out.put c4 hp)
        clear hp
        by_cases c8 : t + l ≤ 1048576
        · have i8 : decide ((t : Int) + (l : Int) > 1048576) = false := decide_eq_false (by omega)
          go_wp2_with fail
          all_goals
            first
              | (exfalso; omega)
              | (refine bodyPost_ret (results_tmp2 rfl _ _ _) rfl ?_
                 exact HN.out _ HB.out)
              | (go_round
                 case rel => exact ⟨j + 1, t + l, _, by omega, c8, by go_num, by go_num, HBP, HRP, HGP⟩
                 case measure => simp [intOf]; omega)
        · have i8 : decide ((t : Int) + (l : Int) > 1048576) = true := decide_eq_true (by omega)
          go_wp2_with fail
          all_goals
            first
              | (exfalso; omega)
              | (refine bodyPost_ret (results_tmp2 rfl _ _ _) rfl ?_
                 exact HN.out _ HB.out)
    · obtain rfl : j = l1 := by omega
      go_wp2_with fail
      refine bodyPost_ret (results_tmp2 rfl _ _ _) rfl ?_
      exact ⟨HB.out, .inr ⟨f, rfl, HR.out, HG.out⟩⟩
end Go.Proofs.YtpahhgeliaeniaaDoor.sav
