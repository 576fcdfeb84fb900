/- 'zzDecodeBinding' whole. No conditions beyond the hypotheses. -/
import Derived.Test.YtiejadamfgbidabFindF
namespace Go.Proofs.Ytiejadamfgbidab.find
open Go.ChangeShapes Go.WideShapes Go.ChangeAt Go.RowKit Go.Mine
set_option linter.unusedVariables false
set_option linter.unusedSimpArgs false
set_option maxRecDepth 100000

theorem info79b : (Try.prog.info? 79).map (fun i => (i.zero, i.size, i.bytes)) = some (some (.agg #[.nilIface, .int .i32 0, .nilIface, .int .i32 0, .nilIface, .int .i32 0, .int .i32 0, .int .i32 0, .bool false, .bool false, .bool false]), 11, 88) := by kernel_rfl
theorem one5 (x : Kd) : ∀ u ∈ kcA x, u.oneCell' = true := by
  unfold kcA
  simp only [List.forall_mem_cons]
  exact ⟨rfl, rfl, rfl, rfl, rfl, by simp⟩
theorem one11 (x : Kd) : ∀ u ∈ kcO x, u.oneCell' = true := by
  unfold kcO
  simp only [List.forall_mem_cons]
  exact ⟨rfl, rfl, rfl, rfl, rfl, rfl, rfl, rfl, rfl, rfl, rfl, by simp⟩
theorem own_form1 {w : World} {B e size n : Nat} {v : Value} {xs : List Value} (h : w.ownsRow B e size v (n + 1) xs) : ∃ g c, v = .slice (some ⟨g, 0, none⟩) (n + 1) c := by
  rcases h.2 with ⟨_, h⟩ | ⟨g, cap, cur, rfl, _⟩
  · omega
  · exact ⟨_, _, rfl⟩
/-- The contract, from a place on. -/
def DecAt (B : Nat) (w0 : World) (a : Option Addr) (len c pos : Nat) : Prop :=
  ∀ (v : Value) (n : Nat) (xs : List Value) (w : World), Below B w0 w → B ≤ w.heap.size → w.ownsRow B 21 1 v n xs → n + (len - pos) ≤ 20000 → Calls Try.prog 21 (dargs a len c pos v) w (Dec B len pos v n xs w)
set_option maxHeartbeats 8000000 in
theorem dec_arr (B : Nat) (w0 : World) (a : Option Addr) (len c : Nat) (z : List Int) (hB0 : B ≤ w0.heap.size) (Z : ∀ w', Below B w0 w' → IntRow .u8 w' a len c z) (hl : len ≤ 4096) (pos : Nat) (h : pos < len) (IH : ∀ p, pos < p → p ≤ len → DecAt B w0 a len c p)
    (v : Value) (n : Nat) (xs : List Value) (w : World) (hbw : Below B w0 w) (hB : B ≤ w.heap.size) (ho : w.ownsRow B 21 1 v n xs) (hn : n + (len - pos) ≤ 20000) (b off : Nat) (e : a = some ⟨b, off, none⟩) (k : Int) (hc : w.cell? ⟨b, off + pos, none⟩ = some (.int .u8 k)) (hk0 : 0 ≤ k) (hk : k % 4 = 1) :
    Calls Try.prog 21 (dargs a len c pos v) w (Dec B len pos v n xs w) := by
  obtain ⟨i0, hi, hz0, hz1, hz2⟩ := info_parts info73
  obtain ⟨av0, cv0, rfl⟩ := own_form ho
  have hlb := cell_lt hc
  have hlb1 := Nat.lt_succ_of_lt hlb
  have hmx : n ≤ 20000 := by omega
  have N : Hid (∀ w', Below w.heap.size w w' → Calls Try.prog 39 #[.slice a len c, .int .i64 ((pos : Int) + 1)] w' fun e w'' => (∃ (f : Int) (pos' : Nat), e = .returned (.tuple #[.int .u8 f, .int .i64 (pos' : Int)]) ∧ (0 ≤ f ∧ f ≤ 255) ∧ pos + 1 ≤ pos' ∧ pos' ≤ len) ∧ w' = w'') := fun w' hb => by
    have := next39 a len c z (pos + 1) w' (Z w' (hbw.trans (hb.mono hB))) hl (by omega)
    rw [show ((pos + 1 : Nat) : Int) = (pos : Int) + 1 by omega] at this
    exact this
  have I := Lib.hid IH
  have HBW := Lib.hid hbw
  have HO := Lib.hid ho
  clear IH hbw ho Z
  subst e
  go_enter Try.func21, Try.ntmps21
  go_wp2_with fail
  refine (N.out _ ((Below.refl _ _).alloc (Nat.le_refl _) _)).mono ?_
  rintro e w' ⟨⟨f, p1, rfl, ⟨hf0, hf1⟩, hp0, hp1⟩, rfl⟩
  have hf2 : 0 ≤ f % 8 := by omega
  have hf3 : f % 8 < 8 := by omega
  have R0 := Lib.hid (rd_start (enc := kcA) (sz := 5) hB HO.out (show pos < p1 by omega) hp1 (.cells #[] 73) rfl)
  clear hc N
  go_wp2_with fail
  go_loopw [15, 1, 3, 14] (fun i p s t wr => ∃ (K : List Kd) (q : Nat) (av : Option Addr) (cv g cap : Nat) (S : Nat → Prop), i = .int .i64 (K.length : Int) ∧ p = .int .i64 (q : Int) ∧ s = .slice av (n + (leavesOf K).length) cv ∧ t = .slice (some ⟨g, 0, none⟩) K.length cap ∧ (K.length : Int) ≤ f % 8 ∧
    Hid (Rd B len pos kcA 73 5 (.slice av0 n cv0) n xs w K S g cap av cv q wr)) (fun i _ _ _ _ => 8 - (intOf i).toNat)
  case atStart => exact ⟨[], p1, av0, cv0, w.heap.size + 1, 0, fun _ => False, rfl, rfl, rfl, rfl, hf2, R0⟩
  case round =>
    obtain ⟨K, q, av, cv, g, cap, S, rfl, rfl, rfl, rfl, hKf, R⟩ := hrel
    clear R0
    have hq0 := R.out.ps
    have hKl : K.length ≤ 8 := by omega
    by_cases hlt : (K.length : Int) < f % 8
    case neg =>
      have k0 : wr.cell? ⟨w.heap.size, 0, none⟩ = some .nilIface := R.out.box.cell 0
      have k1 : wr.cell? ⟨w.heap.size, 1, none⟩ = some (.int .i32 0) := R.out.box.cell 1
      have k2 := R.out.box.free 0
      have k3 := R.out.box.free 1
      have k4 := R.out.box.lt
      go_wp2_with fail
      refine bodyPost_ret (v := .tuple #[.agg #[.iface 68 (.pointer (some ⟨wr.heap.size, 0, none⟩)), .int .i32 (pos : Int)], .int .i64 (q : Int), .slice av (n + (leavesOf K).length) cv]) (by simp [results, Try.results21, go_sem, k0, k1, k4]) rfl ?_
      go_light
      exact rd_finA R.out hKl hB [.int .i32 0, .bool false, .bool false]
    by_cases hql : q < len
    case neg =>
      have k0 : wr.cell? ⟨w.heap.size, 0, none⟩ = some .nilIface := R.out.box.cell 0
      have k1 : wr.cell? ⟨w.heap.size, 1, none⟩ = some (.int .i32 0) := R.out.box.cell 1
      have k2 := R.out.box.free 0
      have k3 := R.out.box.free 1
      have k4 := R.out.box.lt
      go_wp2_with fail
      refine bodyPost_ret (v := .tuple #[.agg #[.iface 68 (.pointer (some ⟨wr.heap.size, 0, none⟩)), .int .i32 (pos : Int)], .int .i64 (q : Int), .slice av (n + (leavesOf K).length) cv]) (by simp [results, Try.results21, go_sem, k0, k1, k4]) rfl ?_
      go_light
      exact rd_finA R.out hKl hB [.int .i32 0, .bool false, .bool false]
    have hbr : Below B w0 wr := HBW.out.trans R.out.lf.bel
    have hsr := R.out.lf.same.1
    have hcn := R.out.cnt
    have C := Lib.hid (I.out q hq0.1 (by omega) (.slice av (n + (leavesOf K).length) cv) (n + (leavesOf K).length) (xs ++ (leavesOf K).map lv) (wr.alloc (.cells #[.nilIface, .int .i32 0] 59)) (hbr.alloc (by omega) _) (by simp; omega) (R.out.lf.own.alloc _) (by omega))
    clear hbr hcn
    go_wp2_with fail
    refine C.out.mono ?_
    rintro e w2 ⟨S', T, p, l, ls, q2, a2, c2, rfl, hbt, hS', hnl, L, hp2, hp3, hcnt⟩
    have hp4 : q2 ≤ len := by omega
    have hq := rd_box R.out L
    have own2 := rd_own R.out (by decide) L
    have d0 : w2.cell? ⟨wr.heap.size, 0, none⟩ = some .nilIface := hq.cell 0
    have d1 : w2.cell? ⟨wr.heap.size, 1, none⟩ = some (.int .i32 0) := hq.cell 1
    have d2 := hq.free 0
    have d3 := hq.free 1
    have d4 := hq.lt
    have O3 := Lib.hid (own_set (own_set own2 hq (o := 0) (by decide) (.iface T (.pointer (some ⟨p, 0, none⟩)))) (hq.set 0 _) (o := 1) (by decide) (.int .i32 l))
    have hnew := cells_new (out1 w2 wr.heap.size T p l) (kcA ⟨T, p, l, ls⟩) 73
    rw [show (out1 w2 wr.heap.size T p l).heap.size = w2.heap.size by simp [out1, size_set]] at hnew
    have P := Lib.hid (And.intro hbt (And.intro hS' (And.intro hnl (And.intro L (And.intro hp2 (And.intro hp4 hcnt))))))
    have hbs : w.heap.size ≤ w2.heap.size := by omega
    clear hbt hS' hnl L hq own2 hp2 hp3 hcnt C
    go_wp2_with (first | (at_builtin; (refine wpList_append_own_at _ rfl _ _ 74 rfl w.heap.size 73 i0 (.agg #[.nilIface, .int .i32 0, .nilIface, .int .i32 0, .int .i32 0]) 5 56 Try.underlying74 hi hz0 hz1 hz2 rfl (by decide) _ _ _ rfl (O3.out.alloc _) ⟨w2.heap.size, 0, none⟩ 1 1 (kcA ⟨T, p, l, ls⟩) rfl rfl hnew (one5 _) (by unfold maxLen; omega) (by omega) (by simp [size_set]; omega) ?_); intro v4 w4 hown4 hgrow4 hnil4 hat4; obtain ⟨g4, cap4, rfl⟩ := own_form1 hown4; have R4 := Lib.hid (rd_next R.out (by decide) (by decide) hB P.out.1 P.out.2.1 P.out.2.2.1 P.out.2.2.2.1 P.out.2.2.2.2.1 P.out.2.2.2.2.2.1 P.out.2.2.2.2.2.2 hgrow4 hown4 hat4); clear hown4 hgrow4 hnil4 hat4))
    go_wp2_with fail
    go_roundw
    case rel => exact ⟨K ++ [⟨T, p, l, ls⟩], q2, a2, c2, g4, cap4, _, by simp, rfl, by rw [leavesOf_snoc, List.length_append, Nat.add_assoc], by simp, by simp; omega, R4⟩
    case measure => simp [intOf]; omega
set_option maxHeartbeats 8000000 in
theorem dec_obj (B : Nat) (w0 : World) (a : Option Addr) (len c : Nat) (z : List Int) (hB0 : B ≤ w0.heap.size) (Z : ∀ w', Below B w0 w' → IntRow .u8 w' a len c z) (hl : len ≤ 4096) (pos : Nat) (h : pos < len) (IH : ∀ p, pos < p → p ≤ len → DecAt B w0 a len c p)
    (v : Value) (n : Nat) (xs : List Value) (w : World) (hbw : Below B w0 w) (hB : B ≤ w.heap.size) (ho : w.ownsRow B 21 1 v n xs) (hn : n + (len - pos) ≤ 20000) (b off : Nat) (e : a = some ⟨b, off, none⟩) (k : Int) (hc : w.cell? ⟨b, off + pos, none⟩ = some (.int .u8 k)) (hk0 : 0 ≤ k) (hk : k % 4 = 2) :
    Calls Try.prog 21 (dargs a len c pos v) w (Dec B len pos v n xs w) := by
  obtain ⟨i0, hi, hz0, hz1, hz2⟩ := info_parts info79b
  obtain ⟨av0, cv0, rfl⟩ := own_form ho
  have hlb := cell_lt hc
  have hlb1 := Nat.lt_succ_of_lt hlb
  have hmx : n ≤ 20000 := by omega
  have N : Hid (∀ w', Below w.heap.size w w' → Calls Try.prog 39 #[.slice a len c, .int .i64 ((pos : Int) + 1)] w' fun e w'' => (∃ (f : Int) (pos' : Nat), e = .returned (.tuple #[.int .u8 f, .int .i64 (pos' : Int)]) ∧ (0 ≤ f ∧ f ≤ 255) ∧ pos + 1 ≤ pos' ∧ pos' ≤ len) ∧ w' = w'') := fun w' hb => by
    have := next39 a len c z (pos + 1) w' (Z w' (hbw.trans (hb.mono hB))) hl (by omega)
    rw [show ((pos + 1 : Nat) : Int) = (pos : Int) + 1 by omega] at this
    exact this
  have I := Lib.hid IH
  have HBW := Lib.hid hbw
  have HO := Lib.hid ho
  clear IH hbw ho Z
  subst e
  go_enter Try.func21, Try.ntmps21
  go_wp2_with fail
  refine (N.out _ ((Below.refl _ _).alloc (Nat.le_refl _) _)).mono ?_
  rintro e w' ⟨⟨f, p1, rfl, ⟨hf0, hf1⟩, hp0, hp1⟩, rfl⟩
  have hf2 : 0 ≤ f % 8 := by omega
  have hf3 : f % 8 < 8 := by omega
  have R0 := Lib.hid (rd_start (enc := kcO) (sz := 11) hB HO.out (show pos < p1 by omega) hp1 (.cells #[] 79) rfl)
  clear hc N
  go_wp2_with fail
  go_loopw [19, 1, 3, 18] (fun i p s t wr => ∃ (K : List Kd) (q : Nat) (av : Option Addr) (cv g cap : Nat) (S : Nat → Prop), i = .int .i64 (K.length : Int) ∧ p = .int .i64 (q : Int) ∧ s = .slice av (n + (leavesOf K).length) cv ∧ t = .slice (some ⟨g, 0, none⟩) K.length cap ∧ (K.length : Int) ≤ f % 8 ∧
    Hid (Rd B len pos kcO 79 11 (.slice av0 n cv0) n xs w K S g cap av cv q wr)) (fun i _ _ _ _ => 8 - (intOf i).toNat)
  case atStart => exact ⟨[], p1, av0, cv0, w.heap.size + 1, 0, fun _ => False, rfl, rfl, rfl, rfl, hf2, R0⟩
  case round =>
    obtain ⟨K, q, av, cv, g, cap, S, rfl, rfl, rfl, rfl, hKf, R⟩ := hrel
    clear R0
    have hq0 := R.out.ps
    have hKl : K.length ≤ 8 := by omega
    by_cases hlt : (K.length : Int) < f % 8
    case neg =>
      have k0 : wr.cell? ⟨w.heap.size, 0, none⟩ = some .nilIface := R.out.box.cell 0
      have k1 : wr.cell? ⟨w.heap.size, 1, none⟩ = some (.int .i32 0) := R.out.box.cell 1
      have k2 := R.out.box.free 0
      have k3 := R.out.box.free 1
      have k4 := R.out.box.lt
      go_wp2_with fail
      refine bodyPost_ret (v := .tuple #[.agg #[.iface 77 (.pointer (some ⟨wr.heap.size, 0, none⟩)), .int .i32 (pos : Int)], .int .i64 (q : Int), .slice av (n + (leavesOf K).length) cv]) (by simp [results, Try.results21, go_sem, k0, k1, k4]) rfl ?_
      go_light
      exact rd_finO R.out hKl hB [.int .i32 0, .bool false]
    by_cases hql : q < len
    case neg =>
      have k0 : wr.cell? ⟨w.heap.size, 0, none⟩ = some .nilIface := R.out.box.cell 0
      have k1 : wr.cell? ⟨w.heap.size, 1, none⟩ = some (.int .i32 0) := R.out.box.cell 1
      have k2 := R.out.box.free 0
      have k3 := R.out.box.free 1
      have k4 := R.out.box.lt
      go_wp2_with fail
      refine bodyPost_ret (v := .tuple #[.agg #[.iface 77 (.pointer (some ⟨wr.heap.size, 0, none⟩)), .int .i32 (pos : Int)], .int .i64 (q : Int), .slice av (n + (leavesOf K).length) cv]) (by simp [results, Try.results21, go_sem, k0, k1, k4]) rfl ?_
      go_light
      exact rd_finO R.out hKl hB [.int .i32 0, .bool false]
    have hbr : Below B w0 wr := HBW.out.trans R.out.lf.bel
    have hsr := R.out.lf.same.1
    have hcn := R.out.cnt
    have C := Lib.hid (I.out q hq0.1 (by omega) (.slice av (n + (leavesOf K).length) cv) (n + (leavesOf K).length) (xs ++ (leavesOf K).map lv) (wr.alloc (.cells #[.nilIface, .int .i32 0] 59)) (hbr.alloc (by omega) _) (by simp; omega) (R.out.lf.own.alloc _) (by omega))
    clear hbr hcn
    go_wp2_with fail
    refine C.out.mono ?_
    rintro e w2 ⟨S', T, p, l, ls, q2, a2, c2, rfl, hbt, hS', hnl, L, hp2, hp3, hcnt⟩
    have hp4 : q2 ≤ len := by omega
    have hq := rd_box R.out L
    have own2 := rd_own R.out (by decide) L
    have d0 : w2.cell? ⟨wr.heap.size, 0, none⟩ = some .nilIface := hq.cell 0
    have d1 : w2.cell? ⟨wr.heap.size, 1, none⟩ = some (.int .i32 0) := hq.cell 1
    have d2 := hq.free 0
    have d3 := hq.free 1
    have d4 := hq.lt
    have O3 := Lib.hid (own_set (own_set own2 hq (o := 0) (by decide) (.iface T (.pointer (some ⟨p, 0, none⟩)))) (hq.set 0 _) (o := 1) (by decide) (.int .i32 l))
    have hnew := cells_new (out1 w2 wr.heap.size T p l) (kcO ⟨T, p, l, ls⟩) 79
    rw [show (out1 w2 wr.heap.size T p l).heap.size = w2.heap.size by simp [out1, size_set]] at hnew
    have P := Lib.hid (And.intro hbt (And.intro hS' (And.intro hnl (And.intro L (And.intro hp2 (And.intro hp4 hcnt))))))
    have hbs : w.heap.size ≤ w2.heap.size := by omega
    clear hbt hS' hnl L hq own2 hp2 hp3 hcnt C
    go_wp2_with (first | (at_builtin; (refine wpList_append_own_at _ rfl _ _ 80 rfl w.heap.size 79 i0 (.agg #[.nilIface, .int .i32 0, .nilIface, .int .i32 0, .nilIface, .int .i32 0, .int .i32 0, .int .i32 0, .bool false, .bool false, .bool false]) 11 88 Try.underlying80 hi hz0 hz1 hz2 rfl (by decide) _ _ _ rfl (O3.out.alloc _) ⟨w2.heap.size, 0, none⟩ 1 1 (kcO ⟨T, p, l, ls⟩) rfl rfl hnew (one11 _) (by unfold maxLen; omega) (by omega) (by simp [size_set]; omega) ?_); intro v4 w4 hown4 hgrow4 hnil4 hat4; obtain ⟨g4, cap4, rfl⟩ := own_form1 hown4; have R4 := Lib.hid (rd_next R.out (by decide) (by decide) hB P.out.1 P.out.2.1 P.out.2.2.1 P.out.2.2.2.1 P.out.2.2.2.2.1 P.out.2.2.2.2.2.1 P.out.2.2.2.2.2.2 hgrow4 hown4 hat4); clear hown4 hgrow4 hnil4 hat4))
    go_wp2_with fail
    go_roundw
    case rel => exact ⟨K ++ [⟨T, p, l, ls⟩], q2, a2, c2, g4, cap4, _, by simp, rfl, by rw [leavesOf_snoc, List.length_append, Nat.add_assoc], by simp, by simp; omega, R4⟩
    case measure => simp [intOf]; omega
theorem dec21 (B : Nat) (w0 : World) (a : Option Addr) (len c : Nat) (z : List Int) (hB0 : B ≤ w0.heap.size) (Z : ∀ w', Below B w0 w' → IntRow .u8 w' a len c z) (hl : len ≤ 4096) : ∀ (f pos : Nat), pos ≤ len → len - pos < f → DecAt B w0 a len c pos
  | 0, _, _, h => by omega
  | f + 1, pos, hp, h => by
    intro v n xs w hbw hB ho hn
    by_cases hlt : pos < len
    case neg => exact dec_end B a len c pos v n xs w (by omega) (by omega) hB ho
    have IH : ∀ p, pos < p → p ≤ len → DecAt B w0 a len c p := fun p h1 h2 => dec21 B w0 a len c z hB0 Z hl f p h2 (by omega)
    obtain ⟨b, off, k, e, ⟨hk0, hk1⟩, hc⟩ := byte_at (Z w hbw) hlt
    have h4 : k % 4 = 0 ∨ k % 4 = 1 ∨ k % 4 = 2 ∨ k % 4 = 3 := by omega
    rcases h4 with hk | hk | hk | hk
    · subst e; exact dec_leaf B b off len c pos v n xs w k hc hk0 hk hlt hl (by omega) hB ho
    · exact dec_arr B w0 a len c z hB0 Z hl pos hlt IH v n xs w hbw hB ho hn b off e k hc hk0 hk
    · exact dec_obj B w0 a len c z hB0 Z hl pos hlt IH v n xs w hbw hB ho hn b off e k hc hk0 hk
    · subst e; exact dec_other B b off len c pos v n xs w k hc hk0 hk hlt hl hB ho
end Go.Proofs.Ytiejadamfgbidab.find
