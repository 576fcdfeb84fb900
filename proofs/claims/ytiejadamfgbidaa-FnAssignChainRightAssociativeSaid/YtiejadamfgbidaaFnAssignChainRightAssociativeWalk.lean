/- The walk of the law 'FnAssignChainRightAssociative': it returns true and leaves what was there as it was. No conditions. -/
import Derived.Test.YtiejadamfgbidaaRows
import Derived.Test.YtiejadamfgbidaaLib
import Derived.Test.YtiejadamfgbidaaClones
import Derived.Test.YtiejadamfgbidaaChainB
import Derived.Deep.RegionHeld3
import Derived.Deep.RegionWith
import Derived.Deep.CutBlock
import Derived.Deep.DeepCutAuto
import Derived.IntWalk
import Derived.Outline
namespace Go.Proofs.Ytiejadamfgbidaa.fnAssignChainRightAssociative
open Go.ChangeShapes Go.WideShapes Go.ChangeAt Go.RowKit Go.Mine build27
open Go.Proofs.Ytiejadamfgbidaa.fnAssignStmtValueTypeIsRightSide (not_assign)
set_option linter.unusedVariables false
set_option maxRecDepth 100000

theorem bytes_any (a0 : Option Addr) (l0 c0 : Nat) (a1 : Option Addr) (l1 c1 : Nat) (a2 : Nat) (a3 : Int) (w : World) (h0 : l0 ≤ maxLen) (h1 : l1 ≤ maxLen) :
    Calls Try.prog 25 #[.slice a0 l0 c0, .slice a1 l1 c1, .float .f64 a2, .int .i32 a3] w fun e w' => (∃ r : Bool, e = .returned (.bool r)) ∧ w = w' := by
  unfold maxLen at h0 h1
  go_enter Try.func25, Try.ntmps25
  go_wp2
  all_goals
    go_ret
    exact ⟨⟨_, rfl⟩, rfl⟩

theorem guard29 : Try.prog.eqGuardType Try.prog.depth 29 = false := by kernel_rfl
theorem st29 : Try.prog.underlying 29 = some (.struct (Try.prog.fieldsOf 29)) := by kernel_rfl
theorem held29 : Try.prog.stoodInHeld 29 = false := by kernel_rfl
theorem eqIn29 (w : World) (a s : Int) : (Op.equalIn 10000 29 (.agg #[.int .i32 a]) (.agg #[.int .i32 s])).run Try.prog w = .ok ((a == s)) w := by
  have hf : (Try.prog.fieldsOf 29).toList.map (fun f => (f.name, f.type, f.offset)) = [("Start", 21, 0)] := by kernel_rfl
  rw [run_equalIn_agg w 9999 29 _ _ st29 held29]
  generalize (Try.prog.fieldsOf 29).toList = fs at hf
  obtain ⟨f0, fs0, rfl, g0, hf⟩ := List.map_eq_cons_iff.1 hf
  obtain rfl := List.map_eq_nil_iff.1 hf
  simp only [Prod.mk.injEq] at g0
  obtain ⟨p0, q0, r0⟩ := g0
  have e0 : ∀ (x0 : Value) (w : World), (part 21 #[x0] 0).run Try.prog w = .ok x0 w := fun x0 w => by kernel_rfl
  have k0 := fun (w : World) (a b : Int) => run_equalIn_int (P := Try.prog) w 9998 21 .i32 .i32 a b Try.underlying21
  by_cases z0 : a = s <;> simp [Op.eqFields, p0, q0, r0, e0, k0, z0]
theorem eql29 (w : World) (a s : Int) : (binOp .eql 29 (.agg #[.int .i32 a]) (.agg #[.int .i32 s])).run Try.prog w = .ok (.bool ((a == s))) w := by
  rw [run_eql_struct, eqIn29]; rfl
theorem neq29 (w : World) (a s : Int) : (binOp .neq 29 (.agg #[.int .i32 a]) (.agg #[.int .i32 s])).run Try.prog w = .ok (.bool (!((a == s)))) w := by
  rw [run_neq_struct, eqIn29]; rfl

/-- What the loop holds when xk, .., xn are chained: the variable's data, its location, its known type. -/
def Rel (wb : World) (loc c : Int) (n q k : Nat) (wr : World) : Prop :=
  ∃ D, Blk wr q #[D, .int .i32 (if k = 0 then loc else (k : Int))] 31 ∧ Frm D ∧ Says Try.prog (· = q) 18 #[D] (.int .u8 (ty c)) wr ∧ Below wb.heap.size wb wr ∧
    (k + 1 < n → ∃ p, D = .iface 130 (.pointer (some ⟨p, 0, none⟩)) ∧ wr.cell? ⟨p, 4, none⟩ = some (.int .u8 37) ∧ p ≠ q)
theorem rel_start {wb W : World} {loc c : Int} {n q : Nat} {D : Value} (hn : 2 ≤ n) (h1 : Blk W q #[D, .int .i32 ((n - 1 : Nat) : Int)] 31) (h2 : Frm D) (h3 : Says Try.prog (· = q) 18 #[D] (.int .u8 (ty c)) W) (h4 : Below wb.heap.size wb W) : Rel wb loc c n q (n - 1) W :=
  ⟨D, by rw [if_neg (by omega)]; exact h1, h2, h3, h4, fun h => absurd h (by omega)⟩
theorem rel_step {wb wr wc w3 : World} {loc c : Int} {n q k p : Nat} {D1 D2 : Value} {l2 : Int} (hk : k + 1 < n) (hq : wb.heap.size ≤ q) (hB : Below wb.heap.size wb w3) (hf : Frm D2) (h1 : Blk w3 q #[D2, .int .i32 l2] 31) (h2 : Says Try.prog (· = q) 18 #[D2] (.int .u8 (ty c)) w3)
    (h3 : Blk w3 p #[D1, .int .i32 (if k = 0 then loc else (k : Int)), D2, .int .i32 l2, .int .u8 37, .bool false] 132) (hp : p ≠ q) :
    Rel wb loc c n q k ((w3.setCell ⟨q, 0, none⟩ (.iface 130 (.pointer (some ⟨p, 0, none⟩)))).setCell ⟨q, 1, none⟩ (.int .i32 (if k = 0 then loc else (k : Int)))) := by
  have h := (h1.set 0 (.iface 130 (.pointer (some ⟨p, 0, none⟩)))).set 1 (.int .i32 (if k = 0 then loc else (k : Int)))
  rw [set2] at h
  have hs : Same (fun k => k = q) w3 ((w3.setCell ⟨q, 0, none⟩ (.iface 130 (.pointer (some ⟨p, 0, none⟩)))).setCell ⟨q, 1, none⟩ (.int .i32 (if k = 0 then loc else (k : Int)))) :=
    Same.setCell (X := fun k => k = q) (p := ⟨q, 1, none⟩) (Same.setCell (X := fun k => k = q) (p := ⟨q, 0, none⟩) (Same.refl _ _) rfl _) rfl _
  exact ⟨_, h, .inr ⟨_, _, rfl⟩, (kp_asn (X := fun k => k = q) hf hp h2 (h3.cell 2) (h3.cell 4)).later hs, (hB.setCell hq _).setCell hq _, fun _ => ⟨p, rfl, hs.cell hp (h3.cell 4), hp⟩⟩

set_option maxHeartbeats 8000000 in
theorem walk (a0 : Option Addr) (len0 cap0 : Nat) (z0 : List Int) (a1 : Option Addr) (len1 cap1 : Nat) (z1 : List Int) (a2 : Nat) (a3 : Int) (w : World) (w0 : IntRow .u8 w a0 len0 cap0 z0) (w1 : IntRow .u8 w a1 len1 cap1 z1) (w2 : (Lit.float .f64 a2).wf = true) (w3 : (Lit.int .i32 a3).wf = true) :
    Calls Try.prog 6 #[.slice a0 len0 cap0, .slice a1 len1 cap1, .float .f64 a2, .int .i32 a3] w fun e w' => e = .returned (.bool true) ∧ Below w.heap.size w w' := by
  have hm0 : len0 ≤ maxLen := Nat.le_trans w0.2.1 w0.2.2.1
  have hm1 : len1 ≤ maxLen := Nat.le_trans w1.2.1 w1.2.2.1
  have k0 := hm0
  have k1 := hm1
  unfold maxLen at k0 k1
  have R0 := Lib.hid w0
  have R1 := Lib.hid w1
  clear w0 w1 w2 w3
  by_cases h : len0 ≤ 4096 ∧ 2 ≤ len0 ∧ len1 = len0
  rotate_left
  · have hc : 4096 < len0 ∨ (len0 ≤ 4096 ∧ 4096 < len1) ∨ (len0 ≤ 4096 ∧ len1 ≤ 4096 ∧ len0 < 2) ∨ (len0 ≤ 4096 ∧ len1 ≤ 4096 ∧ 2 ≤ len0 ∧ ((len1 : Int) != (len0 : Int)) = true) := by
      simp only [bne_iff_ne, ne_eq]; omega
    clear h
    rcases hc with h1 | ⟨h1, h2⟩ | ⟨h1, h2, h3⟩ | ⟨h1, h2, h3, h4⟩
    all_goals
      go_enter Try.func6, Try.ntmps6
      go_wp2_with fail
      refine (bytes_any _ _ _ _ _ _ _ _ _ hm0 hm1).mono ?_
      rintro e w' ⟨⟨r, rfl⟩, rfl⟩
      cases r
      all_goals
        go_wp2_with fail
        go_ret
        exact ⟨rfl, Below.refl _ _⟩
  obtain ⟨h1, h2, rfl⟩ := h
  have hq : ((len1 : Int) != (len1 : Int)) = false := by simp
  go_enter Try.func6, Try.ntmps6
  go_wp2_with fail
  refine (bytes_any _ _ _ _ _ _ _ _ _ hm0 hm1).mono ?_
  rintro e w' ⟨⟨r, rfl⟩, rfl⟩
  cases r with
  | false =>
    go_wp2_with fail
    go_ret
    exact ⟨rfl, Below.refl _ _⟩
  | true =>
    go_wp2_with fail
    refine (clone26 _ _ _ z0 _ R0.out (by omega)).mono ?_
    rintro e wa ⟨u0, rfl, ra, y1, y2, hba⟩
    have RA := Lib.hid ra
    have BA := Lib.hid hba
    have RB := Lib.hid (R1.out.below hba)
    clear ra y1 y2 hba R0 R1
    go_wp2_with fail
    refine (clone26 _ _ _ z1 _ RB.out (by omega)).mono ?_
    rintro e wb ⟨u1, rfl, rb, y1, y2, hbb⟩
    have PB := Lib.hid rb
    have PA := Lib.hid (RA.out.below hbb)
    have BB := Lib.hid (below2 BA.out hbb)
    clear rb y1 y2 hbb RA RB BA
    obtain ⟨B0, O0, rfl, hb0, c0⟩ := PA.out.at (i := len1 - 1) (by omega)
    obtain ⟨B1, O1, rfl, hb1, c1⟩ := PB.out.at (i := len1 - 1) (by omega)
    obtain ⟨x, hx⟩ : ∃ x, x = z0.getD (len1 - 1) 0 := ⟨_, rfl⟩
    obtain ⟨y, hy⟩ : ∃ y, y = z1.getD (len1 - 1) 0 := ⟨_, rfl⟩
    rw [← hx] at c0
    rw [← hy] at c1
    have hx0 : 0 ≤ x := by
      obtain ⟨q, e⟩ := elt_of PA.out (by omega) hx
      rw [e]; exact (bounds_u8 (PA.out.2.2.2.1 _ (List.getElem_mem q))).1
    have HX := Lib.hid hx
    obtain ⟨c, hc⟩ : ∃ c, c = x % 20 := ⟨_, rfl⟩
    have HE := Lib.hid hc
    clear hx hy hc
    go_upto_region 10 with fail
    go_cut [10] (fun s10 W => After wb (len1 - 1 : Nat) c s10 W)
    case first =>
      by_cases hn : x % 20 = 15
      · have C := Lib.hid fun (b : Bool) (l : Int) w => build_nil x y b a2 l w hx0 hn
        obtain rfl : c = 15 := by rw [HE.out]; exact hn
        clear hn
        have i1 : IntKind.i64.wrap ((len1 : Int) - 1) = (len1 : Int) - 1 := IntWalk.i64_in _ (by omega)
        have i5 : IntKind.i32.wrap ((len1 : Int) - 1) = ((len1 - 1 : Nat) : Int) := by rw [IntWalk.i32_in _ (by omega)]; omega
        have i2 : (0 : Int) ≤ (len1 : Int) - 1 := by clear i1 i5; omega
        have i3 : (len1 : Int) - 1 < (len1 : Int) := by clear i1 i5; omega
        have i4 : ((len1 : Int) - 1).toNat = len1 - 1 := by clear i1 i5; omega
        have i6 : (1 : Int) ≤ (len1 : Int) := by clear i1 i5 i4; omega
        have HC : Hid (∀ w', Below wb.heap.size wb w' → w'.cell? ⟨B0, O0 + (len1 - 1), none⟩ = some (.int .u8 x) ∧ w'.cell? ⟨B1, O1 + (len1 - 1), none⟩ = some (.int .u8 y)) := fun w' h => ⟨bcell h c0, bcell h c1⟩
        go_region_held3 (fun w' => w'.cell? ⟨B0, O0 + (len1 - 1), none⟩ = some (.int .u8 x) ∧ w'.cell? ⟨B1, O1 + (len1 - 1), none⟩ = some (.int .u8 y)) ((refine HC.out _ ?_; (repeat (first | with_reducible exact Below.refl _ _ | with_reducible refine Below.drew ?_ | with_reducible refine balloc ?_ _ | with_reducible refine Below.setCell ?_ (by exact Nat.le_refl _) _ | with_reducible refine below2 ?_ BL.out)); done))
          (first | (go_at_call 27; (with_reducible refine (C.out _ _ _).mono ?_); rintro e wL ⟨rfl, bL⟩; have BL := Lib.hid bL; have cL := cellAll bL; have fL := frozenAll bL; have zL := bL.size; (try simp at zL); (try (have yL : wb.heap.size < wL.heap.size := Nat.lt_of_lt_of_le (Nat.lt_succ_self _) zL)); clear bL))
        all_goals (go_wp2_with fail; go_meet)
        · exact after_nil zL (blkNew _ _ rfl) (by repeat (first | with_reducible exact Below.refl _ _ | with_reducible refine Below.drew ?_ | with_reducible refine balloc ?_ _ | with_reducible refine Below.setCell ?_ (by exact Nat.le_refl _) _ | with_reducible refine below2 ?_ BL.out))
        · exact after_setn (by repeat (first | with_reducible exact Below.refl _ _ | with_reducible refine Below.drew ?_ | with_reducible refine balloc ?_ _ | with_reducible refine Below.setCell ?_ (by exact Nat.le_refl _) _ | with_reducible refine below2 ?_ BL.out)) (Blk.below (by first | exact blkNew _ _ rfl | exact blkDrew (blkNew _ _ rfl)) BL.out) (Nat.le_refl _)
      · have C : Hid (∀ (b : Bool) (l : Int) w, Calls Try.prog 27 #[.int .u8 x, .int .u8 y, .bool b, .float .f64 a2, .int .i32 l] w (BuiltSome c l w)) := by
          rw [HE.out]
          exact fun b l w => build_some x y b a2 l w hx0 hn
        clear hn
        have i1 : IntKind.i64.wrap ((len1 : Int) - 1) = (len1 : Int) - 1 := IntWalk.i64_in _ (by omega)
        have i5 : IntKind.i32.wrap ((len1 : Int) - 1) = ((len1 - 1 : Nat) : Int) := by rw [IntWalk.i32_in _ (by omega)]; omega
        have i2 : (0 : Int) ≤ (len1 : Int) - 1 := by clear i1 i5; omega
        have i3 : (len1 : Int) - 1 < (len1 : Int) := by clear i1 i5; omega
        have i4 : ((len1 : Int) - 1).toNat = len1 - 1 := by clear i1 i5; omega
        have i6 : (1 : Int) ≤ (len1 : Int) := by clear i1 i5 i4; omega
        have HC : Hid (∀ w', Below wb.heap.size wb w' → w'.cell? ⟨B0, O0 + (len1 - 1), none⟩ = some (.int .u8 x) ∧ w'.cell? ⟨B1, O1 + (len1 - 1), none⟩ = some (.int .u8 y)) := fun w' h => ⟨bcell h c0, bcell h c1⟩
        go_region_held3 (fun w' => w'.cell? ⟨B0, O0 + (len1 - 1), none⟩ = some (.int .u8 x) ∧ w'.cell? ⟨B1, O1 + (len1 - 1), none⟩ = some (.int .u8 y)) ((refine HC.out _ ?_; (repeat (first | with_reducible exact Below.refl _ _ | with_reducible refine Below.drew ?_ | with_reducible refine balloc ?_ _ | with_reducible refine Below.setCell ?_ (by exact Nat.le_refl _) _ | with_reducible refine below2 ?_ BL.out)); done))
          (first | (go_at_call 27; (with_reducible refine (C.out _ _ _).mono ?_); rintro e wL ⟨T, p, rfl, bL, nL⟩; have BL := Lib.hid bL; have NL := Lib.hid nL; have cL := cellAll bL; have fL := frozenAll bL; have zL := bL.size; (try simp at zL); (try (have yL : wb.heap.size < wL.heap.size := Nat.lt_of_lt_of_le (Nat.lt_succ_self _) zL)); clear bL nL))
        all_goals (go_wp2_with fail; go_meet)
        · exact after_new (by repeat (first | with_reducible exact Below.refl _ _ | with_reducible refine Below.drew ?_ | with_reducible refine balloc ?_ _ | with_reducible refine Below.setCell ?_ (by exact Nat.le_refl _) _ | with_reducible refine below2 ?_ BL.out)) NL.out
        · exact after_set (by repeat (first | with_reducible exact Below.refl _ _ | with_reducible refine Below.drew ?_ | with_reducible refine balloc ?_ _ | with_reducible refine Below.setCell ?_ (by exact Nat.le_refl _) _ | with_reducible refine below2 ?_ BL.out)) (Blk.below (by first | exact blkNew _ _ rfl | exact blkDrew (blkNew _ _ rfl)) BL.out) (Nat.le_refl _) (by simp) NL.out
    case rest =>
      obtain ⟨q, D, rfl, hq, hk, hfr, hsy, hbw⟩ := hcut
      have R := Lib.hid (rel_start (loc := a3) h2 hk hfr hsy hbw)
      clear hk hfr hsy hbw c0 c1 hb0 hb1
      go_wp2_with fail
      go_loopw [11] (fun i wr => ∃ k : Nat, k + 1 ≤ len1 ∧ i = .int .i64 ((k : Int) - 1) ∧ Hid (Rel wb a3 c len1 q k wr)) (fun i _ => (intOf i + 1).toNat)
      case atStart => exact ⟨len1 - 1, by omega, by go_num, R⟩
      case round =>
        obtain ⟨k, hk, rfl, hr⟩ := hrel
        rcases k with _ | j
        · rw [show (((0 : Nat) : Int) - 1) = -1 from rfl]
          obtain ⟨D, kq, hf, hs, hbr, ha⟩ := hr.out
          obtain ⟨p, rfl, c4, hpq⟩ := ha (by omega)
          rw [if_pos rfl] at kq
          have d0 := kq.cell 0
          have d1 := kq.cell 1
          have hqw := kq.lt
          have hpw := cell_lt c4
          have KQ := Lib.hid kq
          have KS := Lib.hid hs
          have BR := Lib.hid (below2 BB.out hbr)
          have PX := Lib.hid (PA.out.below hbr)
          clear hr hf hs hbr kq ha
          obtain ⟨n, hn⟩ : ∃ n, n = ty c := ⟨_, rfl⟩
          rw [← hn] at KS
          have C29 : Hid (∀ w, Calls Try.prog 29 #[.int .u8 x] w fun e w' => e = .returned (.int .u8 n) ∧ w' = w) := by
            rw [hn, HE.out]
            exact fun w => type29 x w hx0
          have hnn : (n != n) = false := by simp
          clear hn
          have hg := guard29
          have hne := neq29
          go_wp2_with fail
          go_upto_region 21 with fail
          go_cut [114] (fun s W => s = .bool false ∧ Below wr.heap.size wr W)
          case first =>
            obtain ⟨b0, o0, eb, hb0, c0⟩ := PX.out.at (i := len1 - 1) (by omega)
            obtain rfl : B0 = b0 := by injection eb with e; injection e
            obtain rfl : O0 = o0 := by injection eb with e; injection e
            rw [← HX.out] at c0
            have K18 := Lib.hid fun w' (hb : Below wr.heap.size wr w') => KS.out w' (Same.of_below hb)
            have i1 : IntKind.i64.wrap ((len1 : Int) - 1) = (len1 : Int) - 1 := IntWalk.i64_in _ (by omega)
            have i2 : (0 : Int) ≤ (len1 : Int) - 1 := by clear i1; omega
            have i3 : (len1 : Int) - 1 < (len1 : Int) := by clear i1; omega
            have i4 : ((len1 : Int) - 1).toNat = len1 - 1 := by clear i1; omega
            have i6 : (1 : Int) ≤ (len1 : Int) := by clear i1 i4; omega
            have HC : Hid (∀ w', Below wr.heap.size wr w' → w'.cell? ⟨q, 0, none⟩ = some (.iface 130 (.pointer (some ⟨p, 0, none⟩))) ∧ w'.cell? ⟨B0, O0 + (len1 - 1), none⟩ = some (.int .u8 x)) := fun w' h => ⟨bcell h d0, bcell h c0⟩
            go_region_held3 (fun w' => w'.cell? ⟨q, 0, none⟩ = some (.iface 130 (.pointer (some ⟨p, 0, none⟩))) ∧ w'.cell? ⟨B0, O0 + (len1 - 1), none⟩ = some (.int .u8 x)) ((refine HC.out _ ?_; (repeat (first | with_reducible exact Below.refl _ _ | with_reducible refine Below.drew ?_ | with_reducible refine balloc ?_ _ | with_reducible refine Below.setCell ?_ (by exact Nat.le_refl _) _ | with_reducible refine below2 ?_ BL.out)); done))
              (first
                | (go_at_call 18; (with_reducible refine (K18.out _ ?_).mono ?_); (repeat (first | with_reducible exact Below.refl _ _ | with_reducible refine Below.drew ?_ | with_reducible refine balloc ?_ _ | with_reducible refine Below.setCell ?_ (by exact Nat.le_refl _) _ | with_reducible refine below2 ?_ BL.out)); rintro e wL ⟨rfl, bL⟩; have BL := Lib.hid bL; clear bL)
                | (go_at_call 29; (with_reducible refine (C29.out _).mono ?_); rintro e w' ⟨rfl, rfl⟩))
            all_goals (go_wp2_with fail; go_meet)
            all_goals exact ⟨rfl, by repeat (first | with_reducible exact Below.refl _ _ | with_reducible refine Below.drew ?_ | with_reducible refine balloc ?_ _ | with_reducible refine Below.setCell ?_ (by exact Nat.le_refl _) _ | with_reducible refine below2 ?_ BL.out)⟩
          case rest =>
            obtain ⟨rfl, hb5⟩ := hcut
            have e0 := bcell hb5 d0
            have e1 := bcell hb5 d1
            have e4 := bcell hb5 c4
            have hq5 := cell_lt e0
            have hp5 := cell_lt e4
            have K5 := Lib.hid (KQ.out.below hb5)
            have B5 := Lib.hid (below2 BR.out hb5)
            clear hb5 d0 d1 c4 hqw hpw KS PX C29 KQ
            go_wp2_with fail
            refine (not_assign p a3 _ hp5 e4).mono ?_
            rintro e w6 ⟨rfl, hb6⟩
            have f0 := bcell hb6 e0
            have f1 := bcell hb6 e1
            have f4 := bcell hb6 e4
            have hq6 := cell_lt f0
            have hp6 := cell_lt f4
            have hq6' := Nat.lt_succ_of_lt hq6
            have hp6' := Nat.lt_succ_of_lt hp6
            have B6 := Lib.hid (below2 B5.out hb6)
            clear hb6 e0 e1 e4 hq5 hp5
            go_wp2_with fail
            refine (not30 p a3 _ (by simp; omega) (by simp [go_sem, f4, hp6])).mono ?_
            rintro e w7 ⟨r, rfl, hr2, hb7⟩
            have K18 := Lib.hid (kp_un (fun _ => False) r 3 4 w7 (fun h => h) hr2 (by decide))
            have B7 := Lib.hid (below2 (balloc B6.out _) hb7)
            clear hb7 hr2 f0 f1 f4
            go_wp2_with fail
            refine (K18.out _ (Same.of_below ((Below.refl _ _).alloc (Nat.le_refl _) _))).mono ?_
            rintro e w8 ⟨rfl, hb8⟩
            have B8 := Lib.hid (below2 (balloc B7.out _) hb8)
            clear hb8
            go_wp2_with fail
            go_ret
            exact ⟨rfl, B8.out⟩
        · rw [show (((j + 1 : Nat) : Int) - 1) = (j : Int) by omega]
          obtain ⟨D, kq, hf, hs, hbr, _⟩ := hr.out
          obtain ⟨lq, KQ⟩ : ∃ lq : Int, Hid (Blk wr q #[D, .int .i32 lq] 31) := ⟨_, kq⟩
          have KF := Lib.hid hf
          have KS := Lib.hid hs
          have BR := Lib.hid hbr
          have PX := Lib.hid (PA.out.below hbr)
          have PY := Lib.hid (PB.out.below hbr)
          clear hr hf hs hbr kq
          have hj : j + 1 < len1 := by omega
          by_cases hj0 : j = 0
          · subst hj0
            have T : Hid (∀ W, Rel wb a3 c len1 q 0 W → Rel wb a3 c len1 q 0 W) := fun W h => h
            go_upto_region 17 with fail
            obtain ⟨b0, o0, eb0, hb0, c0⟩ := PX.out.at (i := 0) (by omega)
            obtain ⟨b1, o1, eb1, hb1, c1⟩ := PY.out.at (i := 0) (by omega)
            obtain ⟨x, hx⟩ : ∃ x, x = z0.getD 0 0 := ⟨_, rfl⟩
            obtain ⟨y, hy⟩ : ∃ y, y = z1.getD 0 0 := ⟨_, rfl⟩
            rw [← hx] at c0
            rw [← hy] at c1
            have hx0 : 0 ≤ x := by
              obtain ⟨q, e⟩ := elt_of PX.out (by omega) hx
              rw [e]; exact (bounds_u8 (PX.out.2.2.2.1 _ (List.getElem_mem q))).1
            obtain ⟨c2, hc⟩ : ∃ c, c = x % 20 := ⟨_, rfl⟩
            have HE3 := Lib.hid hc
            clear hx hy hc
            obtain rfl : B0 = b0 := by injection eb0 with e; injection e
            obtain rfl : O0 = o0 := by injection eb0 with e; injection e
            obtain rfl : B1 = b1 := by injection eb1 with e; injection e
            obtain rfl : O1 = o1 := by injection eb1 with e; injection e
            clear eb0 eb1
            go_cut [13] (fun s W => After wr a3 c2 s W)
            case first =>
              by_cases hn : x % 20 = 15
              · have C := Lib.hid fun (b : Bool) (l : Int) w => build_nil x y b a2 l w hx0 hn
                obtain rfl : c2 = 15 := by rw [HE3.out]; exact hn
                clear hn
                have i2 : (0 : Int) < (len1 : Int) := by omega
                have i3 : 0 < len1 := by omega
                have HC : Hid (∀ w', Below wr.heap.size wr w' → w'.cell? ⟨B0, O0, none⟩ = some (.int .u8 x) ∧ w'.cell? ⟨B1, O1, none⟩ = some (.int .u8 y)) := fun w' h => ⟨bcell h c0, bcell h c1⟩
                go_region_held3 (fun w' => w'.cell? ⟨B0, O0, none⟩ = some (.int .u8 x) ∧ w'.cell? ⟨B1, O1, none⟩ = some (.int .u8 y)) ((refine HC.out _ ?_; (repeat (first | with_reducible exact Below.refl _ _ | with_reducible refine Below.drew ?_ | with_reducible refine balloc ?_ _ | with_reducible refine Below.setCell ?_ (by exact Nat.le_refl _) _ | with_reducible refine below2 ?_ BL.out)); done))
                  (first | (go_at_call 27; (with_reducible refine (C.out _ _ _).mono ?_); rintro e wL ⟨rfl, bL⟩; have BL := Lib.hid bL; have cL := cellAll bL; have fL := frozenAll bL; have zL := bL.size; (try simp at zL); (try (have yL : wr.heap.size < wL.heap.size := Nat.lt_of_lt_of_le (Nat.lt_succ_self _) zL)); clear bL))
                all_goals (go_wp2_with fail; go_meet)
                · exact after_nil zL (blkNew _ _ rfl) (by repeat (first | with_reducible exact Below.refl _ _ | with_reducible refine Below.drew ?_ | with_reducible refine balloc ?_ _ | with_reducible refine Below.setCell ?_ (by exact Nat.le_refl _) _ | with_reducible refine below2 ?_ BL.out))
                · exact after_setn (by repeat (first | with_reducible exact Below.refl _ _ | with_reducible refine Below.drew ?_ | with_reducible refine balloc ?_ _ | with_reducible refine Below.setCell ?_ (by exact Nat.le_refl _) _ | with_reducible refine below2 ?_ BL.out)) (Blk.below (by first | exact blkNew _ _ rfl | exact blkDrew (blkNew _ _ rfl)) BL.out) (Nat.le_refl _)
              · have C : Hid (∀ (b : Bool) (l : Int) w, Calls Try.prog 27 #[.int .u8 x, .int .u8 y, .bool b, .float .f64 a2, .int .i32 l] w (BuiltSome c2 l w)) := by
                  rw [HE3.out]
                  exact fun b l w => build_some x y b a2 l w hx0 hn
                clear hn
                have i2 : (0 : Int) < (len1 : Int) := by omega
                have i3 : 0 < len1 := by omega
                have HC : Hid (∀ w', Below wr.heap.size wr w' → w'.cell? ⟨B0, O0, none⟩ = some (.int .u8 x) ∧ w'.cell? ⟨B1, O1, none⟩ = some (.int .u8 y)) := fun w' h => ⟨bcell h c0, bcell h c1⟩
                go_region_held3 (fun w' => w'.cell? ⟨B0, O0, none⟩ = some (.int .u8 x) ∧ w'.cell? ⟨B1, O1, none⟩ = some (.int .u8 y)) ((refine HC.out _ ?_; (repeat (first | with_reducible exact Below.refl _ _ | with_reducible refine Below.drew ?_ | with_reducible refine balloc ?_ _ | with_reducible refine Below.setCell ?_ (by exact Nat.le_refl _) _ | with_reducible refine below2 ?_ BL.out)); done))
                  (first | (go_at_call 27; (with_reducible refine (C.out _ _ _).mono ?_); rintro e wL ⟨T, p, rfl, bL, nL⟩; have BL := Lib.hid bL; have NL := Lib.hid nL; have cL := cellAll bL; have fL := frozenAll bL; have zL := bL.size; (try simp at zL); (try (have yL : wr.heap.size < wL.heap.size := Nat.lt_of_lt_of_le (Nat.lt_succ_self _) zL)); clear bL nL))
                all_goals (go_wp2_with fail; go_meet)
                · exact after_new (by repeat (first | with_reducible exact Below.refl _ _ | with_reducible refine Below.drew ?_ | with_reducible refine balloc ?_ _ | with_reducible refine Below.setCell ?_ (by exact Nat.le_refl _) _ | with_reducible refine below2 ?_ BL.out)) NL.out
                · exact after_set (by repeat (first | with_reducible exact Below.refl _ _ | with_reducible refine Below.drew ?_ | with_reducible refine balloc ?_ _ | with_reducible refine Below.setCell ?_ (by exact Nat.le_refl _) _ | with_reducible refine below2 ?_ BL.out)) (Blk.below (by first | exact blkNew _ _ rfl | exact blkDrew (blkNew _ _ rfl)) BL.out) (Nat.le_refl _) (by simp) NL.out
            case rest =>
              obtain ⟨q2, D2, rfl, hq2, hk2, hfr2, hsy2, hb2⟩ := hcut
              have g0 := hk2.cell 0
              have g1 := hk2.cell 1
              have kq2 := KQ.out.below hb2
              have d0 := kq2.cell 0
              have d1 := kq2.cell 1
              have hql := kq2.lt
              have hq2l := hk2.lt
              have A := Lib.hid (asn D2 (a3) D lq wc hfr2 KF.out)
              have K2 := Lib.hid kq2
              have B2 := Lib.hid hb2
              clear hk2 hsy2 hb2 kq2 KQ
              go_wp2_with fail
              refine A.out.mono ?_
              rintro e w3 ⟨p, rfl, hp, hpl, hb3⟩
              have k3 := K2.out.below hb3
              have d0' := k3.cell 0
              have d1' := k3.cell 1
              have z0' := k3.free 0
              have z1' := k3.free 1
              have hl3 := k3.lt
              have hpq : p ≠ q := by omega
              have K3 := Lib.hid k3
              have HP := Lib.hid hp
              have B3 := Lib.hid (below2 B2.out hb3)
              clear k3 hp hb3 g0 g1 d0 d1 A
              go_wp2_with fail
              go_roundw
              case rel =>
                have h := rel_step (wb := wb) (wr := wr) (wc := wc) (loc := a3) (c := c) (n := len1) (q := q) (k := 0) (p := p) (D1 := D2) (D2 := D) hj hq (below2 BR.out B3.out) KF.out K3.out (KS.out.later (Same.of_below B3.out)) (by rw [if_pos rfl]; exact HP.out) hpq
                rw [if_pos rfl] at h
                exact ⟨0, by omega, by go_num, h⟩
              case measure => simp [intOf]; try omega
          · have e : (if j = 0 then a3 else (j : Int)) = (j : Int) := if_neg hj0
            have HE2 := Lib.hid e
            have hj1 : ((j : Int) == 0) = false := by simpa using hj0
            clear e hj0
            go_upto_region 17 with fail
            obtain ⟨b0, o0, eb0, hb0, c0⟩ := PX.out.at (i := j) (by omega)
            obtain ⟨b1, o1, eb1, hb1, c1⟩ := PY.out.at (i := j) (by omega)
            obtain ⟨x, hx⟩ : ∃ x, x = z0.getD j 0 := ⟨_, rfl⟩
            obtain ⟨y, hy⟩ : ∃ y, y = z1.getD j 0 := ⟨_, rfl⟩
            rw [← hx] at c0
            rw [← hy] at c1
            have hx0 : 0 ≤ x := by
              obtain ⟨q, e⟩ := elt_of PX.out (by omega) hx
              rw [e]; exact (bounds_u8 (PX.out.2.2.2.1 _ (List.getElem_mem q))).1
            obtain ⟨c2, hc⟩ : ∃ c, c = x % 20 := ⟨_, rfl⟩
            have HE3 := Lib.hid hc
            clear hx hy hc
            obtain rfl : B0 = b0 := by injection eb0 with e; injection e
            obtain rfl : O0 = o0 := by injection eb0 with e; injection e
            obtain rfl : B1 = b1 := by injection eb1 with e; injection e
            obtain rfl : O1 = o1 := by injection eb1 with e; injection e
            clear eb0 eb1
            go_cut [13] (fun s W => After wr (j : Int) c2 s W)
            case first =>
              by_cases hn : x % 20 = 15
              · have C := Lib.hid fun (b : Bool) (l : Int) w => build_nil x y b a2 l w hx0 hn
                obtain rfl : c2 = 15 := by rw [HE3.out]; exact hn
                clear hn
                have i2 : (0 : Int) ≤ (j : Int) := by omega
                have i3 : (j : Int) < (len1 : Int) := by omega
                have HC : Hid (∀ w', Below wr.heap.size wr w' → w'.cell? ⟨B0, O0 + j, none⟩ = some (.int .u8 x) ∧ w'.cell? ⟨B1, O1 + j, none⟩ = some (.int .u8 y)) := fun w' h => ⟨bcell h c0, bcell h c1⟩
                go_region_held3 (fun w' => w'.cell? ⟨B0, O0 + j, none⟩ = some (.int .u8 x) ∧ w'.cell? ⟨B1, O1 + j, none⟩ = some (.int .u8 y)) ((refine HC.out _ ?_; (repeat (first | with_reducible exact Below.refl _ _ | with_reducible refine Below.drew ?_ | with_reducible refine balloc ?_ _ | with_reducible refine Below.setCell ?_ (by exact Nat.le_refl _) _ | with_reducible refine below2 ?_ BL.out)); done))
                  (first | (go_at_call 27; (with_reducible refine (C.out _ _ _).mono ?_); rintro e wL ⟨rfl, bL⟩; have BL := Lib.hid bL; have cL := cellAll bL; have fL := frozenAll bL; have zL := bL.size; (try simp at zL); (try (have yL : wr.heap.size < wL.heap.size := Nat.lt_of_lt_of_le (Nat.lt_succ_self _) zL)); clear bL))
                all_goals (go_wp2_with fail; go_meet)
                · exact after_nil zL (blkNew _ _ rfl) (by repeat (first | with_reducible exact Below.refl _ _ | with_reducible refine Below.drew ?_ | with_reducible refine balloc ?_ _ | with_reducible refine Below.setCell ?_ (by exact Nat.le_refl _) _ | with_reducible refine below2 ?_ BL.out))
                · exact after_setn (by repeat (first | with_reducible exact Below.refl _ _ | with_reducible refine Below.drew ?_ | with_reducible refine balloc ?_ _ | with_reducible refine Below.setCell ?_ (by exact Nat.le_refl _) _ | with_reducible refine below2 ?_ BL.out)) (Blk.below (by first | exact blkNew _ _ rfl | exact blkDrew (blkNew _ _ rfl)) BL.out) (Nat.le_refl _)
              · have C : Hid (∀ (b : Bool) (l : Int) w, Calls Try.prog 27 #[.int .u8 x, .int .u8 y, .bool b, .float .f64 a2, .int .i32 l] w (BuiltSome c2 l w)) := by
                  rw [HE3.out]
                  exact fun b l w => build_some x y b a2 l w hx0 hn
                clear hn
                have i2 : (0 : Int) ≤ (j : Int) := by omega
                have i3 : (j : Int) < (len1 : Int) := by omega
                have HC : Hid (∀ w', Below wr.heap.size wr w' → w'.cell? ⟨B0, O0 + j, none⟩ = some (.int .u8 x) ∧ w'.cell? ⟨B1, O1 + j, none⟩ = some (.int .u8 y)) := fun w' h => ⟨bcell h c0, bcell h c1⟩
                go_region_held3 (fun w' => w'.cell? ⟨B0, O0 + j, none⟩ = some (.int .u8 x) ∧ w'.cell? ⟨B1, O1 + j, none⟩ = some (.int .u8 y)) ((refine HC.out _ ?_; (repeat (first | with_reducible exact Below.refl _ _ | with_reducible refine Below.drew ?_ | with_reducible refine balloc ?_ _ | with_reducible refine Below.setCell ?_ (by exact Nat.le_refl _) _ | with_reducible refine below2 ?_ BL.out)); done))
                  (first | (go_at_call 27; (with_reducible refine (C.out _ _ _).mono ?_); rintro e wL ⟨T, p, rfl, bL, nL⟩; have BL := Lib.hid bL; have NL := Lib.hid nL; have cL := cellAll bL; have fL := frozenAll bL; have zL := bL.size; (try simp at zL); (try (have yL : wr.heap.size < wL.heap.size := Nat.lt_of_lt_of_le (Nat.lt_succ_self _) zL)); clear bL nL))
                all_goals (go_wp2_with fail; go_meet)
                · exact after_new (by repeat (first | with_reducible exact Below.refl _ _ | with_reducible refine Below.drew ?_ | with_reducible refine balloc ?_ _ | with_reducible refine Below.setCell ?_ (by exact Nat.le_refl _) _ | with_reducible refine below2 ?_ BL.out)) NL.out
                · exact after_set (by repeat (first | with_reducible exact Below.refl _ _ | with_reducible refine Below.drew ?_ | with_reducible refine balloc ?_ _ | with_reducible refine Below.setCell ?_ (by exact Nat.le_refl _) _ | with_reducible refine below2 ?_ BL.out)) (Blk.below (by first | exact blkNew _ _ rfl | exact blkDrew (blkNew _ _ rfl)) BL.out) (Nat.le_refl _) (by simp) NL.out
            case rest =>
              obtain ⟨q2, D2, rfl, hq2, hk2, hfr2, hsy2, hb2⟩ := hcut
              have g0 := hk2.cell 0
              have g1 := hk2.cell 1
              have kq2 := KQ.out.below hb2
              have d0 := kq2.cell 0
              have d1 := kq2.cell 1
              have hql := kq2.lt
              have hq2l := hk2.lt
              have A := Lib.hid (asn D2 ((j : Int)) D lq wc hfr2 KF.out)
              have K2 := Lib.hid kq2
              have B2 := Lib.hid hb2
              clear hk2 hsy2 hb2 kq2 KQ
              go_wp2_with fail
              refine A.out.mono ?_
              rintro e w3 ⟨p, rfl, hp, hpl, hb3⟩
              have k3 := K2.out.below hb3
              have d0' := k3.cell 0
              have d1' := k3.cell 1
              have z0' := k3.free 0
              have z1' := k3.free 1
              have hl3 := k3.lt
              have hpq : p ≠ q := by omega
              have K3 := Lib.hid k3
              have HP := Lib.hid hp
              have B3 := Lib.hid (below2 B2.out hb3)
              clear k3 hp hb3 g0 g1 d0 d1 A
              go_wp2_with fail
              go_roundw
              case rel =>
                have h := rel_step (wb := wb) (wr := wr) (wc := wc) (loc := a3) (c := c) (n := len1) (q := q) (k := j) (p := p) (D1 := D2) (D2 := D) hj hq (below2 BR.out B3.out) KF.out K3.out (KS.out.later (Same.of_below B3.out)) (by rw [HE2.out]; exact HP.out) hpq
                rw [HE2.out] at h
                exact ⟨j, by omega, by go_num, h⟩
              case measure => simp [intOf]; try omega
end Go.Proofs.Ytiejadamfgbidaa.fnAssignChainRightAssociative
