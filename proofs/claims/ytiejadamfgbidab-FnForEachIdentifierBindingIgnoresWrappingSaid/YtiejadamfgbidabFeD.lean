/- 'zzBuildBinding' whole. No conditions beyond the hypotheses. -/
import Derived.Test.YtiejadamfgbidabFeC
import Derived.Test.YtiejadamfgbidabFindG
namespace Go.Proofs.Ytiejadamfgbidab.fore
open Go.ChangeShapes Go.WideShapes Go.ChangeAt Go.RowKit Go.Mine
open find (Kp ptr Kd leavesOf leavesOf_snoc own_ne own_set out1 own_below finW flat_at cur_at range_ls own_blk own_form1 cells_new info73 info79b byte_at)
set_option linter.unusedVariables false
set_option linter.unusedSimpArgs false
set_option maxRecDepth 100000

theorem one5 (x : Kd) : ∀ u ∈ kbA x, u.oneCell' = true := by
  unfold kbA
  simp only [List.forall_mem_cons]
  exact ⟨rfl, rfl, rfl, rfl, rfl, by simp⟩
theorem one11 (x : Kd) : ∀ u ∈ kbO x, u.oneCell' = true := by
  unfold kbO
  simp only [List.forall_mem_cons]
  exact ⟨rfl, rfl, rfl, rfl, rfl, rfl, rfl, rfl, rfl, rfl, rfl, by simp⟩
theorem arity41 (k : Int) (h0 : 0 ≤ k) (h1 : k ≤ 255) (w : World) : Calls Try.prog 41 #[.int .u8 k] w fun e w' => (∃ r : Nat, r ≤ 3 ∧ e = .returned (.int .i64 (r : Int))) ∧ w = w' := by
  by_cases h : 2 ≤ k % 4
  · have d : ∃ r : Nat, k / 4 % 4 = (r : Int) ∧ r ≤ 3 := ⟨(k / 4 % 4).toNat, by omega, by omega⟩
    obtain ⟨r, hr, hr3⟩ := d
    have q0 : 0 ≤ k / 4 := by omega
    have q1 : k / 4 ≤ 255 := by omega
    go_enter Try.func41, Try.ntmps41
    go_wp2
    go_ret
    exact ⟨⟨r, hr3, by rw [← hr]; rfl⟩, rfl⟩
  · go_enter Try.func41, Try.ntmps41
    go_wp2
    go_ret
    exact ⟨⟨0, by omega, rfl⟩, rfl⟩
def BdAt (B : Nat) (w0 : World) (b off len c pos : Nat) : Prop := ∀ w, Below B w0 w → B ≤ w.heap.size → Calls Try.prog 25 (bargs b off len c pos) w (Bd len pos w)
theorem rb_start {len pos0 pos : Nat} {enc : Kd → List Value} {E : TypeId} {sz : Nat} (w : World) (h0 : pos0 < pos) (h1 : pos ≤ len) :
    Rb len pos0 enc E sz w [] (fun _ => False) none 0 pos ((w.alloc (.cells #[.nilIface, .int .i32 0] 59)).alloc (.cells #[.int .i32 (pos0 : Int)] 30)) := by
  refine ⟨((Below.refl _ _).alloc (Nat.le_refl _) _).alloc (by simp) _, World.ownsRow_nil _ _ _ _, fun x hx => by simp at hx, fun b hb => hb.elim, fun b _ hb => hb, (Blk.new w _ _).alloc _, ?_, ⟨fun h => h, fun h => h⟩, ⟨h0, h1⟩, Nat.zero_le _⟩
  have := Blk.new (w.alloc (.cells #[.nilIface, .int .i32 0] 59)) #[.int .i32 (pos0 : Int)] 30
  simpa using this
set_option maxHeartbeats 8000000 in
theorem bb_arr (B : Nat) (w0 : World) (b off len c : Nat) (hl : len ≤ 65536) (pos : Nat) (h : pos < len) (IH : ∀ p, pos < p → p < len → BdAt B w0 b off len c p)
    (w : World) (hbw : Below B w0 w) (hB : B ≤ w.heap.size) (k : Int) (hc : w.cell? ⟨b, off + pos, none⟩ = some (.int .u8 k)) (hk0 : 0 ≤ k) (hk1 : k ≤ 255) (hk : k % 4 = 2) :
    Calls Try.prog 25 (bargs b off len c pos) w (Bd len pos w) := by
  obtain ⟨i0, hi, hz0, hz1, hz2⟩ := info_parts info73
  have hlb := cell_lt hc
  have hlb1 := Nat.lt_succ_of_lt hlb
  have A := Lib.hid (arity41 k hk0 hk1)
  have I := Lib.hid IH
  have HBW := Lib.hid hbw
  have R0 := Lib.hid (rb_start (enc := kbA) (E := 73) (sz := 5) w (show pos < pos + 1 by omega) (show pos + 1 ≤ len by omega))
  clear IH hbw
  go_enter Try.func25, Try.ntmps25
  go_wp2_with fail
  go_loopw [10, 8, 9] (fun i p t wr => ∃ (K : List Kd) (q : Nat) (ai : Option Addr) (cap : Nat) (S : Nat → Prop), i = .int .i64 (K.length : Int) ∧ p = .int .i64 (q : Int) ∧ t = .slice ai K.length cap ∧ K.length ≤ 3 ∧
    Hid (Rb len pos kbA 73 5 w K S ai cap q wr)) (fun i _ _ _ => 4 - (intOf i).toNat)
  case atStart => exact ⟨[], pos + 1, none, 0, fun _ => False, rfl, rfl, rfl, Nat.zero_le _, R0⟩
  case round =>
    obtain ⟨K, q, ai, cap, S, rfl, rfl, rfl, hK3, R⟩ := hrel
    clear R0 hc
    have hq0 := R.out.ps
    have hKl : K.length ≤ 8 := by omega
    go_wp2_with fail
    refine (A.out _).mono ?_
    rintro e w' ⟨⟨r, hr3, rfl⟩, rfl⟩
    by_cases hlt : K.length < r
    case neg =>
      have k0 : wr.cell? ⟨w.heap.size, 0, none⟩ = some .nilIface := R.out.box.cell 0
      have k1 : wr.cell? ⟨w.heap.size, 1, none⟩ = some (.int .i32 0) := R.out.box.cell 1
      have k2 := R.out.box.free 0
      have k3 := R.out.box.free 1
      have k4 := R.out.box.lt
      have k5 : wr.cell? ⟨w.heap.size + 1, 0, none⟩ = some (.int .i32 (pos : Int)) := R.out.box2.cell 0
      have k6 := R.out.box2.lt
      go_wp2_with fail
      refine bodyPost_ret (v := .tuple #[.agg #[.iface 68 (.pointer (some ⟨wr.heap.size, 0, none⟩)), .int .i32 (pos : Int)], .int .i64 (q : Int)]) (by simp [results, Try.results25, go_sem, k0, k1, k4]) rfl ?_
      go_light
      exact rb_finA R.out hKl [.int .i32 0, .bool false, .bool false]
    by_cases hql : q < len
    case neg =>
      have k0 : wr.cell? ⟨w.heap.size, 0, none⟩ = some .nilIface := R.out.box.cell 0
      have k1 : wr.cell? ⟨w.heap.size, 1, none⟩ = some (.int .i32 0) := R.out.box.cell 1
      have k2 := R.out.box.free 0
      have k3 := R.out.box.free 1
      have k4 := R.out.box.lt
      have k5 : wr.cell? ⟨w.heap.size + 1, 0, none⟩ = some (.int .i32 (pos : Int)) := R.out.box2.cell 0
      have k6 := R.out.box2.lt
      go_wp2_with fail
      refine bodyPost_ret (v := .tuple #[.agg #[.iface 68 (.pointer (some ⟨wr.heap.size, 0, none⟩)), .int .i32 (pos : Int)], .int .i64 (q : Int)]) (by simp [results, Try.results25, go_sem, k0, k1, k4]) rfl ?_
      go_light
      exact rb_finA R.out hKl [.int .i32 0, .bool false, .bool false]
    have hsr := R.out.bel.size
    have C := Lib.hid (I.out q hq0.1 hql wr (HBW.out.trans (R.out.bel.mono hB)) (by omega))
    go_wp2_with fail
    refine C.out.mono ?_
    rintro e w2 ⟨S', T, p, l, ls, q2, rfl, hbt, hS', hbel, hp2, hp3, hcnt⟩
    have hs2 := hbel.size
    have own2 := own_below R.out.own (hbel.mono (Nat.le_refl _))
    have O2 := Lib.hid (own2.alloc (.cells #[.iface T (.pointer (some ⟨p, 0, none⟩)), .int .i32 l] 59))
    have hnew := cells_new (w2.alloc (.cells #[.iface T (.pointer (some ⟨p, 0, none⟩)), .int .i32 l] 59)) (kbA ⟨T, p, l, ls⟩) 73
    rw [show (w2.alloc (.cells #[.iface T (.pointer (some ⟨p, 0, none⟩)), .int .i32 l] 59)).heap.size = w2.heap.size + 1 by simp] at hnew
    have P := Lib.hid (And.intro hbt (And.intro hS' (And.intro hbel (And.intro hp2 (And.intro hp3 hcnt)))))
    clear hbt hS' hbel own2 hp2 hp3 hcnt C
    go_wp2_with (first | (at_builtin; (refine wpList_append_own_at _ rfl _ _ 74 rfl w.heap.size 73 i0 (.agg #[.nilIface, .int .i32 0, .nilIface, .int .i32 0, .int .i32 0]) 5 56 Try.underlying74 hi hz0 hz1 hz2 rfl (by decide) _ _ _ rfl (O2.out.alloc _) ⟨w2.heap.size + 1, 0, none⟩ 1 1 (kbA ⟨T, p, l, ls⟩) rfl rfl hnew (one5 _) (by unfold maxLen; omega) (by omega) (by simp; omega) ?_); intro v4 w4 hown4 hgrow4 hnil4 hat4; obtain ⟨g4, cap4, rfl⟩ := own_form1 hown4; have R4 := Lib.hid (rb_next R.out (by decide) (by decide) P.out.1 P.out.2.1 P.out.2.2.1 P.out.2.2.2.1 P.out.2.2.2.2.1 P.out.2.2.2.2.2 hgrow4 rfl hown4 hat4); clear hown4 hgrow4 hnil4 hat4))
    go_wp2_with fail
    go_roundw
    case rel => exact ⟨K ++ [⟨T, p, l, ls⟩], q2, some ⟨g4, 0, none⟩, cap4, _, by simp, rfl, by simp, by simp; omega, R4⟩
    case measure => simp [intOf]; omega
set_option maxHeartbeats 8000000 in
theorem bb_obj (B : Nat) (w0 : World) (b off len c : Nat) (hl : len ≤ 65536) (pos : Nat) (h : pos < len) (IH : ∀ p, pos < p → p < len → BdAt B w0 b off len c p)
    (w : World) (hbw : Below B w0 w) (hB : B ≤ w.heap.size) (k : Int) (hc : w.cell? ⟨b, off + pos, none⟩ = some (.int .u8 k)) (hk0 : 0 ≤ k) (hk1 : k ≤ 255) (hk : k % 4 = 3) :
    Calls Try.prog 25 (bargs b off len c pos) w (Bd len pos w) := by
  obtain ⟨i0, hi, hz0, hz1, hz2⟩ := info_parts info79b
  have hlb := cell_lt hc
  have hlb1 := Nat.lt_succ_of_lt hlb
  have A := Lib.hid (arity41 k hk0 hk1)
  have I := Lib.hid IH
  have HBW := Lib.hid hbw
  have R0 := Lib.hid (rb_start (enc := kbO) (E := 79) (sz := 11) w (show pos < pos + 1 by omega) (show pos + 1 ≤ len by omega))
  clear IH hbw
  go_enter Try.func25, Try.ntmps25
  go_wp2_with fail
  go_loopw [14, 8, 13] (fun i p t wr => ∃ (K : List Kd) (q : Nat) (ai : Option Addr) (cap : Nat) (S : Nat → Prop), i = .int .i64 (K.length : Int) ∧ p = .int .i64 (q : Int) ∧ t = .slice ai K.length cap ∧ K.length ≤ 3 ∧
    Hid (Rb len pos kbO 79 11 w K S ai cap q wr)) (fun i _ _ _ => 4 - (intOf i).toNat)
  case atStart => exact ⟨[], pos + 1, none, 0, fun _ => False, rfl, rfl, rfl, Nat.zero_le _, R0⟩
  case round =>
    obtain ⟨K, q, ai, cap, S, rfl, rfl, rfl, hK3, R⟩ := hrel
    clear R0 hc
    have hq0 := R.out.ps
    have hKl : K.length ≤ 8 := by omega
    go_wp2_with fail
    refine (A.out _).mono ?_
    rintro e w' ⟨⟨r, hr3, rfl⟩, rfl⟩
    by_cases hlt : K.length < r
    case neg =>
      have k0 : wr.cell? ⟨w.heap.size, 0, none⟩ = some .nilIface := R.out.box.cell 0
      have k1 : wr.cell? ⟨w.heap.size, 1, none⟩ = some (.int .i32 0) := R.out.box.cell 1
      have k2 := R.out.box.free 0
      have k3 := R.out.box.free 1
      have k4 := R.out.box.lt
      have k5 : wr.cell? ⟨w.heap.size + 1, 0, none⟩ = some (.int .i32 (pos : Int)) := R.out.box2.cell 0
      have k6 := R.out.box2.lt
      go_wp2_with fail
      refine bodyPost_ret (v := .tuple #[.agg #[.iface 77 (.pointer (some ⟨wr.heap.size, 0, none⟩)), .int .i32 (pos : Int)], .int .i64 (q : Int)]) (by simp [results, Try.results25, go_sem, k0, k1, k4]) rfl ?_
      go_light
      exact rb_finO R.out hKl [.int .i32 0, .bool false]
    by_cases hql : q < len
    case neg =>
      have k0 : wr.cell? ⟨w.heap.size, 0, none⟩ = some .nilIface := R.out.box.cell 0
      have k1 : wr.cell? ⟨w.heap.size, 1, none⟩ = some (.int .i32 0) := R.out.box.cell 1
      have k2 := R.out.box.free 0
      have k3 := R.out.box.free 1
      have k4 := R.out.box.lt
      have k5 : wr.cell? ⟨w.heap.size + 1, 0, none⟩ = some (.int .i32 (pos : Int)) := R.out.box2.cell 0
      have k6 := R.out.box2.lt
      go_wp2_with fail
      refine bodyPost_ret (v := .tuple #[.agg #[.iface 77 (.pointer (some ⟨wr.heap.size, 0, none⟩)), .int .i32 (pos : Int)], .int .i64 (q : Int)]) (by simp [results, Try.results25, go_sem, k0, k1, k4]) rfl ?_
      go_light
      exact rb_finO R.out hKl [.int .i32 0, .bool false]
    have hsr := R.out.bel.size
    have C := Lib.hid (I.out q hq0.1 hql wr (HBW.out.trans (R.out.bel.mono hB)) (by omega))
    go_wp2_with fail
    refine C.out.mono ?_
    rintro e w2 ⟨S', T, p, l, ls, q2, rfl, hbt, hS', hbel, hp2, hp3, hcnt⟩
    have hs2 := hbel.size
    have own2 := own_below R.out.own (hbel.mono (Nat.le_refl _))
    have O2 := Lib.hid (own2.alloc (.cells #[.iface T (.pointer (some ⟨p, 0, none⟩)), .int .i32 l] 59))
    have hnew := cells_new (w2.alloc (.cells #[.iface T (.pointer (some ⟨p, 0, none⟩)), .int .i32 l] 59)) (kbO ⟨T, p, l, ls⟩) 79
    rw [show (w2.alloc (.cells #[.iface T (.pointer (some ⟨p, 0, none⟩)), .int .i32 l] 59)).heap.size = w2.heap.size + 1 by simp] at hnew
    have P := Lib.hid (And.intro hbt (And.intro hS' (And.intro hbel (And.intro hp2 (And.intro hp3 hcnt)))))
    clear hbt hS' hbel own2 hp2 hp3 hcnt C
    go_wp2_with (first | (at_builtin; (refine wpList_append_own_at _ rfl _ _ 80 rfl w.heap.size 79 i0 (.agg #[.nilIface, .int .i32 0, .nilIface, .int .i32 0, .nilIface, .int .i32 0, .int .i32 0, .int .i32 0, .bool false, .bool false, .bool false]) 11 88 Try.underlying80 hi hz0 hz1 hz2 rfl (by decide) _ _ _ rfl (O2.out.alloc _) ⟨w2.heap.size + 1, 0, none⟩ 1 1 (kbO ⟨T, p, l, ls⟩) rfl rfl hnew (one11 _) (by unfold maxLen; omega) (by omega) (by simp; omega) ?_); intro v4 w4 hown4 hgrow4 hnil4 hat4; obtain ⟨g4, cap4, rfl⟩ := own_form1 hown4; have R4 := Lib.hid (rb_next R.out (by decide) (by decide) P.out.1 P.out.2.1 P.out.2.2.1 P.out.2.2.2.1 P.out.2.2.2.2.1 P.out.2.2.2.2.2 hgrow4 rfl hown4 hat4); clear hown4 hgrow4 hnil4 hat4))
    go_wp2_with fail
    go_roundw
    case rel => exact ⟨K ++ [⟨T, p, l, ls⟩], q2, some ⟨g4, 0, none⟩, cap4, _, by simp, rfl, by simp, by simp; omega, R4⟩
    case measure => simp [intOf]; omega
theorem build25 (B : Nat) (w0 : World) (b off len c : Nat) (z : List Int) (Z : ∀ w', Below B w0 w' → IntRow .u8 w' (some ⟨b, off, none⟩) len c z) (hl : len ≤ 65536) : ∀ (f pos : Nat), pos < len → len - pos < f → BdAt B w0 b off len c pos
  | 0, _, _, h => by omega
  | f + 1, pos, hlt, h => by
    intro w hbw hB
    have IH : ∀ p, pos < p → p < len → BdAt B w0 b off len c p := fun p h1 h2 => build25 B w0 b off len c z Z hl f p h2 (by omega)
    obtain ⟨b', off', k, e, ⟨hk0, hk1⟩, hc⟩ := byte_at (Z w hbw) hlt
    injection e with e
    injection e with e1 e2
    subst e1 e2
    have h4 : k % 4 = 0 ∨ k % 4 = 1 ∨ k % 4 = 2 ∨ k % 4 = 3 := by omega
    rcases h4 with hk | hk | hk | hk
    · exact build_miss b off len c pos w k hc hk0 hk hlt hl
    · exact build_leaf b off len c pos w k hc hk0 hk hlt hl
    · exact bb_arr B w0 b off len c hl pos hlt IH w hbw hB k hc hk0 hk1 hk
    · exact bb_obj B w0 b off len c hl pos hlt IH w hbw hB k hc hk0 hk1 hk
end Go.Proofs.Ytiejadamfgbidab.fore
