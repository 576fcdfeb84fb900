/- The contract of 'zzBuildChain'. No conditions beyond the hypotheses. -/
import Derived.Test.YtanaidcjiinpaaaRROptI
import Derived.Test.YtanaidcjiinpaaaRROptH
import Derived.Deep.RegionWith
namespace Go.Proofs.YtanaidcjiinpaaaRR.opt
open Go.ChangeShapes Go.WideShapes Go.ChangeAt Go.RowKit Go.Mine
set_option linter.unusedVariables false
set_option linter.unusedSimpArgs false
set_option maxRecDepth 100000

theorem bs_end {r : Int} {w : World} {m : Nat} {B : List Nd} {wr : World} (R : Bs r w m B wr) (hB : B.length = m) (v u : Value) :
    Built r m w (.returned (.tuple #[.agg #[ifp (ty B) (pl (w.heap.size + 1) B), .int .i32 0], .slice (some ⟨w.heap.size + 1 + 1 + 1, 0, none⟩) m m])) ((wr.setCell ⟨w.heap.size, 0, none⟩ v).setCell ⟨w.heap.size, 1, none⟩ u) := by
  have hne : w.heap.size + 3 ≠ w.heap.size := by omega
  refine ⟨B, rfl, hB, R.rp.kept (Nat.le_refl _) (fun k h1 h2 => ?_), (R.row.setOther (a := ⟨w.heap.size, 0, none⟩) hne _).setOther (a := ⟨w.heap.size, 1, none⟩) hne _, (R.bel.setCell (p := ⟨w.heap.size, 0, none⟩) (Nat.le_refl _) _).setCell (p := ⟨w.heap.size, 1, none⟩) (Nat.le_refl _) _⟩
  have hk : k ≠ w.heap.size := by rcases h1 with h1 | h1 <;> omega
  rw [Below.heap_setCell _ _ _ _ hk, Below.heap_setCell _ _ _ _ hk]
set_option maxHeartbeats 8000000 in
theorem build8 (r : Int) (a1 : Option Addr) (l1 c1 : Nat) (z1 : List Int) (a2 : Option Addr) (l2 c2 : Nat) (z2 : List ByteArray) (w : World) (h1 : IntRow .u8 w a1 l1 c1 z1) (h2 : StrRow w a2 l2 c2 z2) (hl : l1 ≤ 4096) (hs : Small z2 l2) :
    Calls Try.prog 8 #[.int .u32 r, .slice a1 l1 c1, .slice a2 l2 c2] w (Built r l1 w) := by
  obtain ⟨i0, hi, hz0, hz1, hz2⟩ := info_parts infoN
  have hmk := fun W : World => run_make (P := Try.prog) (w := W) 35 46 i0 (.agg #[.pointer none, .pointer none, .pointer none]) Try.underlying35 hi hz0 .i64 .i64 l1 l1 (by omega) (Int.le_refl _) (by rw [hz2]; omega) (by omega)
  simp only [Int.toNat_natCast, hz1] at hmk
  have H1 := Lib.hid h1
  have H2 := Lib.hid h2
  have HS := Lib.hid hs
  clear h1 h2 hs
  go_enter Try.func8, Try.ntmps8
  go_wp2_with fail
  have B0 : Hid (Bs r w l1 [] ((((w.alloc (.cells #[.nilIface, .int .i32 0] 34)).alloc (.cells #[.int .u32 0, .int .u32 r, .bool false, .bool false, .bool false] 51)).alloc (.cells #[.iface 47 (.pointer (some ⟨w.heap.size + 1, 0, none⟩)), .int .i32 0] 34)).alloc (.cells (madeCells #[.pointer none, .pointer none, .pointer none] (l1 * 3)) 46))) := by
    refine ⟨?_, ?_, ?_, ?_, ?_⟩
    · exact ((blkAt _ _ (by simp)).alloc _).alloc _
    · exact (blkAt _ _ (by simp)).alloc _
    · exact (((Blk.new w _ _).alloc _).alloc _).alloc _
    · have h := madeNil ((((w.alloc (.cells #[.nilIface, .int .i32 0] 34)).alloc (.cells #[.int .u32 0, .int .u32 r, .bool false, .bool false, .bool false] 51)).alloc (.cells #[.iface 47 (.pointer (some ⟨w.heap.size + 1, 0, none⟩)), .int .i32 0] 34))) l1
      simp only [World.size_alloc] at h
      exact h
    · repeat (first | with_reducible exact Below.refl _ _ | with_reducible refine Below.alloc ?_ (by simp <;> omega) _)
  clear hmk hi hz0 hz1 hz2
  go_loopw [10] (fun i wr => ∃ (k : Nat) (B : List Nd), k ≤ l1 ∧ i = .int .i64 (k : Int) ∧ B.length = k ∧ Hid (Bs r w l1 B wr)) (fun i _ => l1 - (intOf i).toNat)
  case atStart => exact ⟨0, [], Nat.zero_le _, rfl, rfl, B0⟩
  case round =>
    obtain ⟨k, B, hk, rfl, hBk, R⟩ := hrel
    have HBK := Lib.hid hBk
    clear B0 hBk
    by_cases hlt : k < l1
    · obtain ⟨b, off, ea, hb, hc⟩ := (H1.out.below R.out.bel).at hlt
      subst ea
      obtain ⟨x, hx⟩ : ∃ x, x = z1.getD k 0 := ⟨_, rfl⟩
      rw [← hx] at hc
      obtain ⟨q, ex⟩ := elt_of H1.out hlt hx
      have hx0 := (bounds_u8 (H1.out.2.2.2.1 _ (List.getElem_mem q)))
      rw [← ex] at hx0
      obtain ⟨hx0, hx1⟩ := hx0
      have NM := Lib.hid (name11 a2 l2 c2 z2 k wr (H2.out.below R.out.bel) HS.out (by omega))
      have d0 : wr.cell? ⟨w.heap.size + 1 + 1, 0, none⟩ = some (.iface (ty B) (.pointer (some ⟨pl (w.heap.size + 1) B, 0, none⟩))) := R.out.cur.cell 0
      have d1 : wr.cell? ⟨w.heap.size + 1 + 1, 1, none⟩ = some (.int .i32 0) := R.out.cur.cell 1
      have d2 : wr.frozen? ⟨w.heap.size + 1 + 1, 0, none⟩ = false := R.out.cur.free 0
      have d3 : wr.frozen? ⟨w.heap.size + 1 + 1, 1, none⟩ = false := R.out.cur.free 1
      have d4 : w.heap.size + 1 + 1 < wr.heap.size := R.out.cur.lt
      have e0 : wr.cell? ⟨w.heap.size + 1 + 1 + 1, k * 3, none⟩ = some (ndCell B (k * 3)) := R.out.row.cell (by omega)
      have e1 : wr.cell? ⟨w.heap.size + 1 + 1 + 1, k * 3 + 1, none⟩ = some (ndCell B (k * 3 + 1)) := R.out.row.cell (by omega)
      have e2 : wr.cell? ⟨w.heap.size + 1 + 1 + 1, k * 3 + 2, none⟩ = some (ndCell B (k * 3 + 2)) := R.out.row.cell (by omega)
      have e3 : wr.frozen? ⟨w.heap.size + 1 + 1 + 1, k * 3, none⟩ = false := R.out.row.frozen _
      have e4 : wr.frozen? ⟨w.heap.size + 1 + 1 + 1, k * 3 + 1, none⟩ = false := R.out.row.frozen _
      have e5 : wr.frozen? ⟨w.heap.size + 1 + 1 + 1, k * 3 + 2, none⟩ = false := R.out.row.frozen _
      have e6 : w.heap.size + 1 + 1 + 1 < wr.heap.size := R.out.row.lt
      have d4' := Nat.lt_succ_of_lt d4
      have e6' := Nat.lt_succ_of_lt e6
      generalize ndCell B (k * 3) = v0 at *
      generalize ndCell B (k * 3 + 1) = v1 at *
      generalize ndCell B (k * 3 + 2) = v2 at *
      generalize hT : ty B = T at *
      generalize hP : pl (w.heap.size + 1) B = P at *
      have HT := Lib.hid hT
      have HP := Lib.hid hP
      clear hx ex q hT hP
      have h3 : x % 3 = 0 ∨ x % 3 = 1 ∨ x % 3 = 2 := by omega
      rcases h3 with h3 | h3 | h3
      · go_wp2_with fail
        refine NM.out.mono ?_
        rintro e w' ⟨⟨s, hs, rfl⟩, rfl⟩
        have S := Lib.hid (step0 R.out HBK.out HT.out HP.out s e6 d4)
        unfold st5 at S
        clear hs
        go_wp2_with fail
        go_roundw
        case rel => exact ⟨k + 1, N0 s wr.heap.size :: B, by omega, by go_num, by rw [List.length_cons, HBK.out], S⟩
        case measure => simp [intOf]; omega
      · go_wp2_with fail
        refine NM.out.mono ?_
        rintro e w' ⟨⟨s, hs, rfl⟩, rfl⟩
        have S := Lib.hid (bs_drew (step1 R.out HBK.out HT.out HP.out s hs e6 d4))
        unfold st5 at S
        have U := Lib.hid fun W => utf12 s W hs
        have d5 := Nat.lt_succ_of_lt d4'
        have d6 := Nat.lt_succ_of_lt d5
        have e7 := Nat.lt_succ_of_lt e6'
        have e8 := Nat.lt_succ_of_lt e7
        clear hs
        go_wp2_with fail
        go_region_with (first | (go_at_call 12; (with_reducible refine (U.out _).mono ?_); rintro e w' ⟨rfl, rfl⟩))
        all_goals
          go_wp2_with fail
          go_roundw
          case rel => exact ⟨k + 1, N1 s (wr.heap.size + 1 + 1) :: B, by omega, by go_num, by rw [List.length_cons, HBK.out], S⟩
          case measure => simp [intOf]; omega
      · go_wp2_with fail
        refine NM.out.mono ?_
        rintro e w' ⟨⟨s, hs, rfl⟩, rfl⟩
        have S := Lib.hid (step2 R.out HBK.out HT.out HP.out s e6 d4)
        unfold st5 at S
        clear hs
        go_wp2_with fail
        go_roundw
        case rel => exact ⟨k + 1, N2 s wr.heap.size :: B, by omega, by go_num, by rw [List.length_cons, HBK.out], S⟩
        case measure => simp [intOf]; omega
    · obtain rfl : k = l1 := by omega
      have E := Lib.hid (bs_end R.out HBK.out)
      have d0 : wr.cell? ⟨w.heap.size + 1 + 1, 0, none⟩ = some (.iface (ty B) (.pointer (some ⟨pl (w.heap.size + 1) B, 0, none⟩))) := R.out.cur.cell 0
      have d1 : wr.cell? ⟨w.heap.size + 1 + 1, 1, none⟩ = some (.int .i32 0) := R.out.cur.cell 1
      have d4 : w.heap.size + 1 + 1 < wr.heap.size := R.out.cur.lt
      have f0 : wr.cell? ⟨w.heap.size, 0, none⟩ = some .nilIface := R.out.res.cell 0
      have f1 : wr.cell? ⟨w.heap.size, 1, none⟩ = some (.int .i32 0) := R.out.res.cell 1
      have f2 : wr.frozen? ⟨w.heap.size, 0, none⟩ = false := R.out.res.free 0
      have f3 : wr.frozen? ⟨w.heap.size, 1, none⟩ = false := R.out.res.free 1
      have f4 : w.heap.size < wr.heap.size := R.out.res.lt
      unfold ifp at E
      generalize ty B = T at *
      generalize pl (w.heap.size + 1) B = P at *
      clear H1 H2 HS
      go_wp2_with fail
      refine bodyPost_ret (v := .tuple #[.agg #[.iface T (.pointer (some ⟨P, 0, none⟩)), .int .i32 0], .slice (some ⟨w.heap.size + 1 + 1 + 1, 0, none⟩) k k]) (by simp [results, Try.results8, go_sem, f0, f1, f4]; try (first | exact ⟨rfl, rfl⟩ | rfl)) rfl (E.out _ _)
end Go.Proofs.YtanaidcjiinpaaaRR.opt
