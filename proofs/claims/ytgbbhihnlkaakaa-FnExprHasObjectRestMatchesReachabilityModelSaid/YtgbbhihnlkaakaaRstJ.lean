/- The contract of 'zzBuildExpr'. No conditions beyond the hypotheses. -/
import Derived.Test.YtgbbhihnlkaakaaRstJB
import Derived.Deep.RegionWith
import Derived.Deep.RegionHeldLaw
import Derived.Deep.RegionLaw
namespace Go.Proofs.Ytgbbhihnlkaakaa.rst
open Go.ChangeShapes Go.WideShapes Go.ChangeAt Go.RowKit Go.Mine
set_option linter.unusedVariables false
set_option linter.unusedSimpArgs false
set_option maxRecDepth 100000

theorem Tb.e0 {n : Nat} {K : Nat → Int} {pl : Nat → Nat} {k X0 : Nat} {wr : World} (h : Tb n K pl k X0 wr) (hk : k < n) : wr.cell? ⟨X0 + 1, k * 2, none⟩ = some .nilIface := by
  rw [h.ex.cell (by omega)]; unfold exf; rw [if_pos (by omega), if_neg (by omega)]; rfl
theorem Tb.e1 {n : Nat} {K : Nat → Int} {pl : Nat → Nat} {k X0 : Nat} {wr : World} (h : Tb n K pl k X0 wr) {i : Nat} (hi : i < n) : wr.cell? ⟨X0 + 1, i * 2 + 1, none⟩ = some (.int .i32 0) := by
  rw [h.ex.cell (by omega)]; unfold exf; rw [if_neg (by omega)]; rfl
theorem Tb.ev {n : Nat} {K : Nat → Int} {pl : Nat → Nat} {X0 : Nat} {wr : World} (h : Tb n K pl n X0 wr) {i : Nat} (hi : i < n) : wr.cell? ⟨X0 + 1, i * 2, none⟩ = some (_root_.Go.Proofs.Ytgbbhihnlkaakaa.rst.ex K pl i) := by
  rw [h.ex.cell (by omega)]; unfold exf; rw [if_pos (by omega), show i * 2 / 2 = i by omega, if_pos hi]; rfl
theorem pw_self (s : Nat → Bool) (pl : Nat → Nat) (k : Nat) : pw s pl k k = none := by simp [pw]
theorem pw_full {s : Nat → Bool} {pl : Nat → Nat} {n j : Nat} (hj : j < n) (hs : s j = true) : pw s pl n j = some (pl j) := by simp [pw, hj, hs]
theorem own_form {w : World} {B e sz : Nat} {v : Value} {m : Nat} {xs : List Value} (h : w.ownsRow B e sz v m xs) : ∃ a c, v = .slice a m c := by
  rcases h.2 with ⟨rfl, rfl⟩ | ⟨g, cap, cur, rfl, _⟩
  · exact ⟨_, _, rfl⟩
  · exact ⟨_, _, rfl⟩
theorem pon_zero {n : Nat} {K par slot : Nat → Int} (h : Shp n K par slot) : pon n par 0 = none := by
  by_cases h0 : 0 < n
  · rcases h.up 0 h0 with h1 | ⟨h1, h2, _⟩
    · exact pon_none h1
    · omega
  · unfold pon; rw [if_neg h0]
theorem pon_eq {n : Nat} {par : Nat → Int} {m p : Nat} (h : pon n par m = some p) : 0 ≤ par m ∧ par m = (p : Int) := by
  unfold pon po at h
  by_cases h0 : m < n
  · rw [if_pos h0] at h
    by_cases h1 : par m < 0
    · rw [if_pos h1] at h; cases h
    · rw [if_neg h1] at h
      injection h with h
      omega
  · rw [if_neg h0] at h; cases h
def BuiltE (n : Nat) (z : List Int) (par : Nat → Int) (slot : Nat → Int) (sp : Nat → Bool) (w : World) (e : Ending) (w' : World) : Prop :=
  Below w.heap.size w w' ∧ ((n = 0 ∧ e = .returned (.agg #[.nilIface, .int .i32 0])) ∨ (0 < n ∧ ∃ pl, e = .returned (.agg #[ex (Ks z) pl 0, .int .i32 0]) ∧ ∀ i, i < n → NodeT n (Ks z) (pon n par) slot sp pl w' i))
theorem build0 (a : Option Addr) (c q1 q2 : Nat) (z : List Int) (par slot : Nat → Int) (sp : Nat → Bool) (a4 : Option Addr) (l4 c4 : Nat) (w : World) :
    Calls Try.prog 6 #[.slice a 0 c, .slice (some ⟨q1, 0, none⟩) 0 0, .slice (some ⟨q2, 0, none⟩) 0 0, .slice a4 l4 c4] w (BuiltE 0 z par slot sp w) := by
  go_enter Try.func6, Try.ntmps6
  go_wp2
  refine bodyPost_ret (v := .agg #[.nilIface, .int .i32 0]) (by simp [results, Try.results6, go_sem]; try rfl) rfl ⟨(Below.refl _ _).alloc (Nat.le_refl _) _, .inl ⟨rfl, rfl⟩⟩
set_option maxHeartbeats 16000000 in
theorem build6 (a : Option Addr) (n c : Nat) (z : List Int) (q1 q2 : Nat) (par slot : Nat → Int) (a4 : Option Addr) (l4 c4 : Nat) (z4 : List Bool) (w : World)
    (h : IntRow .u8 w a n c z) (r1 : FRow (.int .i64) w q1 n par 3) (r2 : FRow (.int .i64) w q2 n slot 3) (h4 : BoolRow w a4 l4 c4 z4) (hn : n ≤ 65536) (hs : Shp n (Ks z) par slot) (hn1 : 0 < n) :
    Calls Try.prog 6 #[.slice a n c, .slice (some ⟨q1, 0, none⟩) n n, .slice (some ⟨q2, 0, none⟩) n n, .slice a4 l4 c4] w (BuiltE n z par slot (fun i => z4.getD i false) w) := by
  have H := Lib.hid h
  have R1 := Lib.hid r1
  have R2 := Lib.hid r2
  have H4 := Lib.hid h4
  have HS := Lib.hid hs
  have hn1' : (0 : Int) < (n : Int) := by omega
  have hn0' : ((n : Int) == 0) = false := by simp; omega
  obtain ⟨i0, hi, hz0, hz1, hz2⟩ := info_parts infoE
  obtain ⟨i1, hi1, hz10, hz11, hz12⟩ := info_parts infoPA
  obtain ⟨i2, hi2, hz20, hz21, hz22⟩ := info_parts infoPO
  obtain ⟨i3, hi3, hz30, hz31, hz32⟩ := info_parts infoPB
  obtain ⟨j0, hj, hy0', hy1', hy2'⟩ := info_parts infoP
  have mk0 := fun W : World => run_make (P := Try.prog) W 40 34 i0 _ Try.underlying40 hi hz0 .i64 .i64 n n (by omega) (Int.le_refl _) (by rw [hz2]; omega) (by omega)
  have mk1 := fun W : World => run_make (P := Try.prog) W 41 44 i1 _ Try.underlying41 hi1 hz10 .i64 .i64 n n (by omega) (Int.le_refl _) (by rw [hz12]; omega) (by omega)
  have mk2 := fun W : World => run_make (P := Try.prog) W 42 47 i2 _ Try.underlying42 hi2 hz20 .i64 .i64 n n (by omega) (Int.le_refl _) (by rw [hz22]; omega) (by omega)
  have mk3 := fun W : World => run_make (P := Try.prog) W 43 51 i3 _ Try.underlying43 hi3 hz30 .i64 .i64 n n (by omega) (Int.le_refl _) (by rw [hz32]; omega) (by omega)
  simp only [Int.toNat_natCast, hz1, hz11, hz21, hz31, Value.cells] at mk0 mk1 mk2 mk3
  have S0 := Lib.hid (p1_start n (Ks z) w (fun _ => 0))
  clear h r1 r2 h4 hs hi1 hz10 hz11 hz12 hi2 hz20 hz21 hz22 hi3 hz30 hz31 hz32
  go_enter Try.func6, Try.ntmps6
  go_wp2_with fail
  clear mk0 mk1 mk2 mk3
  go_loopw [14] (fun i wr => ∃ (k : Nat) (pl : Nat → Nat), k ≤ n ∧ i = .int .i64 (k : Int) ∧ Hid (P1 n (Ks z) w k pl wr)) (fun i _ => n - (intOf i).toNat)
  case atStart => exact ⟨0, _, Nat.zero_le _, rfl, by simpa [go_sem] using S0⟩
  case round =>
    obtain ⟨k, pl, hk, rfl, R⟩ := hrel
    clear S0
    by_cases hlt : k < n
    · have k1 : (k : Int) < (n : Int) := by omega
      obtain ⟨b, off, ea, hb, hc⟩ := (H.out.below R.out.bel).at hlt
      subst ea
      obtain ⟨y, hy⟩ : ∃ y, y = z.getD k 0 := ⟨_, rfl⟩
      rw [← hy] at hc
      obtain ⟨q, ey⟩ := elt_of H.out hlt hy
      have hy0 := (bounds_u8 (H.out.2.2.2.1 _ (List.getElem_mem q)))
      rw [← ey] at hy0
      have hK : Ks z k = y % 5 := by rw [hy]; rfl
      have HK := Lib.hid hK
      obtain ⟨hy0, hy1⟩ := hy0
      have d0 := R.out.tb.e0 hlt
      have d1 := R.out.tb.e1 hlt
      have d2 := R.out.tb.ex.free (k * 2)
      have d3 := R.out.tb.ex.free (k * 2 + 1)
      have d4 := R.out.tb.ex.lt
      have a0 : wr.cell? ⟨w.heap.size + 1 + 1, k, none⟩ = some (.pointer none) := (R.out.tb.ar.cell hlt).trans (by rw [pw_self]; rfl)
      have a1 := R.out.tb.ar.free k
      have a2 := R.out.tb.ar.lt
      have o0 : wr.cell? ⟨w.heap.size + 1 + 1 + 1, k, none⟩ = some (.pointer none) := (R.out.tb.ob.cell hlt).trans (by rw [pw_self]; rfl)
      have o1 := R.out.tb.ob.free k
      have o2 := R.out.tb.ob.lt
      have b0 : wr.cell? ⟨w.heap.size + 1 + 1 + 1 + 1, k, none⟩ = some (.pointer none) := (R.out.tb.bi.cell hlt).trans (by rw [pw_self]; rfl)
      have b1 := R.out.tb.bi.free k
      have b2 := R.out.tb.bi.lt
      clear hy q ey hK
      have h5 : y % 5 = 0 ∨ y % 5 = 1 ∨ y % 5 = 2 ∨ y % 5 = 3 ∨ y % 5 = 4 := by omega
      rcases h5 with h5 | h5 | h5 | h5 | h5
      · have RN := Lib.hid (R.out.put0 hlt (.inl (HK.out.trans h5)))
        go_wp2_with fail
        go_roundw
        case rel => exact ⟨k + 1, updN pl k wr.heap.size, by omega, by go_num, by simpa [go_sem, d4, a2, o2, b2] using RN⟩
        case measure => simp [intOf]; omega
      · have RN := Lib.hid (R.out.put1 hlt (.inl (HK.out.trans h5)))
        go_wp2_with fail
        go_roundw
        case rel => exact ⟨k + 1, updN pl k wr.heap.size, by omega, by go_num, by simpa [go_sem, d4, a2, o2, b2] using RN⟩
        case measure => simp [intOf]; omega
      · have RN := Lib.hid (R.out.put2 hlt (.inl (HK.out.trans h5)))
        go_wp2_with fail
        go_roundw
        case rel => exact ⟨k + 1, updN pl k wr.heap.size, by omega, by go_num, by simpa [go_sem, d4, a2, o2, b2] using RN⟩
        case measure => simp [intOf]; omega
      · have RN := Lib.hid (R.out.put3 hlt (.inl (HK.out.trans h5)))
        rw [if_pos (HK.out.trans h5)] at RN
        go_wp2_with fail
        go_roundw
        case rel => exact ⟨k + 1, updN pl k wr.heap.size, by omega, by go_num, by simpa [go_sem, d4, a2, o2, b2] using RN⟩
        case measure => simp [intOf]; omega
      · have RN := Lib.hid (R.out.put3 hlt (.inr (HK.out.trans h5)))
        rw [if_neg (by rw [HK.out, h5]; decide)] at RN
        go_wp2_with fail
        go_roundw
        case rel => exact ⟨k + 1, updN pl k wr.heap.size, by omega, by go_num, by simpa [go_sem, d4, a2, o2, b2] using RN⟩
        case measure => simp [intOf]; omega
    · have hkn : k = n := by omega
      subst hkn
      have S1 := Lib.hid (P1.start2 (par := pon k par) (slot := slot) (sp := fun i => z4.getD i false) R.out (pon_zero HS.out))
      clear R
      go_wp2_with fail
      go_loopw [19] (fun i wr => ∃ (i' : Nat) (rv lv : Nat → Value), 1 ≤ i' ∧ i' ≤ k ∧ i = .int .i64 (i' : Int) ∧ Hid (P2 k (Ks z) (pon k par) slot (fun i => z4.getD i false) w i' pl rv lv wr)) (fun i _ => k - (intOf i).toNat)
      case atStart => exact ⟨1, _, _, by omega, by omega, rfl, S1⟩
      case round =>
        obtain ⟨i, rv, lv, hi1, hik, rfl, R⟩ := hrel
        clear S1
        by_cases hlt2 : i < k
        · have k1 : (i : Int) < (k : Int) := by omega
          have p0 := (R1.out.below R.out.bel).cell hlt2
          obtain ⟨y, hy⟩ : ∃ y, y = par i := ⟨_, rfl⟩
          rw [← hy] at p0
          by_cases hneg : y < 0
          · have RN := Lib.hid (R.out.skip (pon_none (by rw [← hy]; exact hneg)))
            clear hy
            go_wp2_with fail
            go_roundw
            case rel => exact ⟨i + 1, rv, lv, by omega, by omega, by go_num, RN⟩
            case measure => simp [intOf]; omega
          · obtain ⟨p, rfl⟩ := Int.eq_ofNat_of_zero_le (by omega : 0 ≤ y)
            have hup := HS.out.up i hlt2
            rw [← hy] at hup
            have hpi : p < i := by rcases hup with h | ⟨_, h, _⟩ <;> omega
            have hK0 : Ks z p ≠ 0 := by
              rcases hup with h | ⟨_, _, h⟩
              · omega
              · simpa using h
            have hpn : p < k := by omega
            have hpn' : (p : Int) < (k : Int) := by omega
            have HP := Lib.hid (pon_some hlt2 hy.symm)
            have HONE : Hid (∀ m, m < i → pon k par m = some p → slot i ≠ 0) := Lib.hid fun m hm hp => HS.out.one m i hm hlt2 (pon_eq hp).1 ((pon_eq hp).2.trans hy)
            have HRG : Hid (∀ j, j < k → 0 ≤ Ks z j ∧ Ks z j ≤ 4) := Lib.hid fun j _ => by unfold Ks; omega
            obtain ⟨b, off, ea, hb, hc⟩ := (H.out.below R.out.bel).at hpn
            subst ea
            obtain ⟨y, hyz⟩ : ∃ y, y = z.getD p 0 := ⟨_, rfl⟩
            rw [← hyz] at hc
            obtain ⟨q, ey⟩ := elt_of H.out hpn hyz
            have hy0 := (bounds_u8 (H.out.2.2.2.1 _ (List.getElem_mem q)))
            rw [← ey] at hy0
            have hK : Ks z p = y % 5 := by rw [hyz]; rfl
            have HK := Lib.hid hK
            obtain ⟨hy0, hy1⟩ := hy0
            have d0 := R.out.tb.ev hlt2
            have d1 := R.out.tb.e1 hlt2
            have d4 := R.out.tb.ex.lt
            have a2 := R.out.tb.ar.lt
            have o2 := R.out.tb.ob.lt
            have b2 := R.out.tb.bi.lt
            obtain ⟨r0, hnd⟩ := R.out.nd p hpn
            have HN := Lib.hid hnd
            have hpl := R.out.tb.gt p hpn
            obtain ⟨T, hT⟩ : ∃ T, T = ty (Ks z i) := ⟨_, rfl⟩
            obtain ⟨Q, hQ⟩ : ∃ Q, Q = pl i := ⟨_, rfl⟩
            unfold ex at d0
            rw [← hT, ← hQ] at d0
            have HEX : Hid (ex (Ks z) pl i = .iface T (.pointer (some ⟨Q, 0, none⟩))) := Lib.hid (by rw [hT, hQ]; rfl)
            have h5 : y % 5 = 1 ∨ y % 5 = 2 ∨ (y % 5 = 3 ∨ y % 5 = 4) := by rw [hK] at hK0; omega
            clear hy hyz q ey hT hQ hup hK0 hnd
            rcases h5 with h5 | h5 | h5
            · have hk1 : Ks z p = 1 := by rw [hK]; exact h5
              have t0 : wr.cell? ⟨w.heap.size + 1 + 1, p, none⟩ = some (.pointer (some ⟨pl p, 0, none⟩)) := (R.out.tb.ar.cell hpn).trans (by rw [pw_full hpn (by simp [hk1])]; rfl)
              have nb := HN.out.arr hk1
              have KO := Lib.hid (R.out.own1 p hpn hk1)
              have HNE : Hid ((rv p).ownBlock ≠ some (pl p)) := Lib.hid (own_ne KO.out nb (by decide))
              obtain ⟨a, cp, ha⟩ := own_form KO.out
              obtain ⟨m, hm⟩ : ∃ m, m = (ch (pon k par) i p).length := ⟨_, rfl⟩
              have hml : m ≤ 65536 := by have := ch_le (pon k par) i p; omega
              rw [← hm] at ha KO
              rw [ha] at KO HNE nb
              have HNA : Hid ((Value.slice a m cp).ownBlock ≠ some (w.heap.size + 1 + 1)) := Lib.hid fun e => by have := own_ge KO.out e; omega
              have n0 := nb.cell 0
              have f0 := nb.free 0
              have fl := nb.lt
              have KB := Lib.hid nb
              obtain ⟨P, hP⟩ : ∃ P, P = pl p := ⟨_, rfl⟩
              have HPP := Lib.hid hP
              have HA := Lib.hid ha
              have HM := Lib.hid hm
              have HK1 := Lib.hid hk1
              rw [← hP] at t0 n0 f0 fl KB HNE hpl
              clear nb hP ha hm hk1 hK
              have h51 : (y % 5 == 1) = true := by simp [h5]
              go_upto_region 39 with fail
              refine reg39 w.heap.size k i p P Q T m cp a _ wr hpn hlt2 hpn' k1 hml KO.out KB.out t0 d0 d1 (by omega) HNE.out hpl.1 _ ?_
              intro v151 v152 v153 v154 v155 v156 v157 v158 v159 v160 v161 v162 v163 v164 v165 v166 v167 v168 v169 gg cap wr' w3 hb' hgrow3 hown3 hat3
              have ee : encE (Ks z) pl i = [.iface T (.pointer (some ⟨Q, 0, none⟩)), .int .i32 0] := by unfold encE; rw [HEX.out]
              rw [← HA.out] at hgrow3
              have RN := R.out.app1 (sp := fun i => z4.getD i false) HRG.out hpn HP.out HK1.out hb' hgrow3 (by rw [← HM.out, ee]; exact hown3) (by rw [HA.out]; exact hat3)
              rw [← HM.out, ← HPP.out] at RN
              have RH := Lib.hid RN
              clear RN ee hown3 hgrow3 hat3 hb' KB KO
              go_wp2_with fail
              go_roundw
              case rel => exact ⟨i + 1, _, _, by omega, by omega, by go_num, RH⟩
              case measure => simp [intOf]; omega
            · have hk1 : Ks z p = 2 := by rw [hK]; exact h5
              have t0 : wr.cell? ⟨w.heap.size + 1 + 1 + 1, p, none⟩ = some (.pointer (some ⟨pl p, 0, none⟩)) := (R.out.tb.ob.cell hpn).trans (by rw [pw_full hpn (by simp [hk1])]; rfl)
              have nb := HN.out.obj hk1
              have KO := Lib.hid (R.out.own2 p hpn hk1)
              have HNE : Hid ((rv p).ownBlock ≠ some (pl p)) := Lib.hid (own_ne KO.out nb (by decide))
              obtain ⟨a, cp, ha⟩ := own_form KO.out
              obtain ⟨m, hm⟩ : ∃ m, m = (ch (pon k par) i p).length := ⟨_, rfl⟩
              have hml : m ≤ 65536 := by have := ch_le (pon k par) i p; omega
              rw [← hm] at ha KO
              rw [ha] at KO HNE nb
              have HNA : Hid ((Value.slice a m cp).ownBlock ≠ some (w.heap.size + 1 + 1 + 1)) := Lib.hid fun e => by have := own_ge KO.out e; omega
              have n0 := nb.cell 0
              have f0 := nb.free 0
              have fl := nb.lt
              have KB := Lib.hid nb
              obtain ⟨P, hP⟩ : ∃ P, P = pl p := ⟨_, rfl⟩
              have HPP := Lib.hid hP
              have HA := Lib.hid ha
              have HM := Lib.hid hm
              have HK1 := Lib.hid hk1
              rw [← hP] at t0 n0 f0 fl KB HNE hpl
              clear nb hP ha hm hk1 hK
              have h51 : (y % 5 == 1) = false := by simp [h5]
              have h52 : (y % 5 == 2) = true := by simp [h5]
              have FL : Hid (∀ W, Below wr.heap.size wr W → Calls Try.prog 10 #[.slice a4 l4 c4, .int .i64 (i : Int)] W fun e w' => e = .returned (.bool (z4.getD i false)) ∧ w' = W) := Lib.hid fun W hb => flag10 a4 l4 c4 z4 i W (H4.out.below (below2 R.out.bel hb))
              obtain ⟨s, hs⟩ : ∃ s, s = z4.getD i false := ⟨_, rfl⟩
              rw [← hs] at FL
              have HSP := Lib.hid hs
              clear hs
              cases s
              · go_upto_region 44 with (first | (go_at_call 10; (with_reducible refine (FL.out _ ?_).mono ?_); (exact (Below.refl _ _).alloc (Nat.le_refl _) _); rintro e w' ⟨rfl, rfl⟩))
                refine reg44 w.heap.size k i p P Q T m cp wr.heap.size a _ 0 _ hpn hlt2 hpn' k1 hml (KO.out.alloc _) (KB.out.alloc _) (bcell ((Below.refl _ _).alloc (Nat.le_refl _) _) t0) (Blk.new wr _ _) (by simp; omega) HNE.out hpl.1 _ ?_
                intro v181 v182 v183 v184 v185 v186 v187 v188 v189 v190 v191 v192 v193 v194 v195 v196 gg cap wr' w3 hb' hgrow3 hown3 hat3
                have hb2 := below2 ((Below.refl _ wr).alloc (Nat.le_refl _) _) hb'
                have ee : encP (Ks z) pl (fun i => z4.getD i false) i = [.pointer none, .nilIface, .int .i32 0, .iface T (.pointer (some ⟨Q, 0, none⟩)), .int .i32 0, .nilIface, .int .i32 0, .slice none 0 0, .int .i32 0, .int .i32 0, .int .u8 0, .int .u8 0] := by unfold encP; rw [HEX.out]; simp only [← HSP.out]; rfl
                rw [← HA.out] at hgrow3
                have RN := R.out.app2 (sp := fun i => z4.getD i false) HRG.out hpn HP.out HK1.out hb2 hgrow3 (by rw [← HM.out, ee]; exact hown3) (by rw [HA.out]; rcases hat3 with h | h; exact .inl h; exact .inr (by simp at h; omega))
                rw [← HM.out, ← HPP.out] at RN
                have RH := Lib.hid RN
                clear RN ee hown3 hgrow3 hat3 hb' hb2 KB KO
                go_wp2_with fail
                go_roundw
                case rel => exact ⟨i + 1, _, _, by omega, by omega, by go_num, RH⟩
                case measure => simp [intOf]; omega
              · go_upto_region 44 with (first | (go_at_call 10; (with_reducible refine (FL.out _ ?_).mono ?_); (exact (Below.refl _ _).alloc (Nat.le_refl _) _); rintro e w' ⟨rfl, rfl⟩))
                refine reg44 w.heap.size k i p P Q T m cp wr.heap.size a _ 5 _ hpn hlt2 hpn' k1 hml (KO.out.alloc _) (KB.out.alloc _) (bcell ((Below.refl _ _).alloc (Nat.le_refl _) _) t0) (Blk.new wr _ _) (by simp; omega) HNE.out hpl.1 _ ?_
                intro v181 v182 v183 v184 v185 v186 v187 v188 v189 v190 v191 v192 v193 v194 v195 v196 gg cap wr' w3 hb' hgrow3 hown3 hat3
                have hb2 := below2 ((Below.refl _ wr).alloc (Nat.le_refl _) _) hb'
                have ee : encP (Ks z) pl (fun i => z4.getD i false) i = [.pointer none, .nilIface, .int .i32 0, .iface T (.pointer (some ⟨Q, 0, none⟩)), .int .i32 0, .nilIface, .int .i32 0, .slice none 0 0, .int .i32 0, .int .i32 0, .int .u8 5, .int .u8 0] := by unfold encP; rw [HEX.out]; simp only [← HSP.out]; rfl
                rw [← HA.out] at hgrow3
                have RN := R.out.app2 (sp := fun i => z4.getD i false) HRG.out hpn HP.out HK1.out hb2 hgrow3 (by rw [← HM.out, ee]; exact hown3) (by rw [HA.out]; rcases hat3 with h | h; exact .inl h; exact .inr (by simp at h; omega))
                rw [← HM.out, ← HPP.out] at RN
                have RH := Lib.hid RN
                clear RN ee hown3 hgrow3 hat3 hb' hb2 KB KO
                go_wp2_with fail
                go_roundw
                case rel => exact ⟨i + 1, _, _, by omega, by omega, by go_num, RH⟩
                case measure => simp [intOf]; omega
            · have hk34 : Ks z p = 3 ∨ Ks z p = 4 := by rw [hK]; exact h5
              have t0 : wr.cell? ⟨w.heap.size + 1 + 1 + 1 + 1, p, none⟩ = some (.pointer (some ⟨pl p, 0, none⟩)) := (R.out.tb.bi.cell hpn).trans (by rw [pw_full hpn (by rcases hk34 with h | h <;> simp [h])]; rfl)
              have nb := HN.out.bin hk34
              have n0 := nb.cell 0
              have n1 := nb.cell 1
              have n2 := nb.cell 2
              have n3 := nb.cell 3
              have f0 := nb.free 0
              have f1 := nb.free 1
              have f2 := nb.free 2
              have f3 := nb.free 3
              have fl := nb.lt
              have s0 := (R2.out.below R.out.bel).cell hlt2
              obtain ⟨x, hx⟩ : ∃ x, x = slot i := ⟨_, rfl⟩
              rw [← hx] at s0
              have HX := Lib.hid hx
              have HK34 := Lib.hid hk34
              obtain ⟨P, hP⟩ : ∃ P, P = pl p := ⟨_, rfl⟩
              have HPP := Lib.hid hP
              rw [← hP] at t0 n0 n1 n2 n3 f0 f1 f2 f3 fl hpl
              clear nb hx hk34 hP hK
              have h5' : (y % 5 == 1) = false ∧ (y % 5 == 2) = false := by rcases h5 with h5 | h5 <;> simp [h5]
              obtain ⟨h51, h52⟩ := h5'
              by_cases hx0 : x = 0
              · have hx0' : (x == 0) = true := by simp [hx0]
                go_upto_region 36 with fail
                go_region_with (fail)
                all_goals
                  go_wp2_with fail
                  go_roundw
                  case rel =>
                    have RN := R.out.left (sp := fun i => z4.getD i false) HRG.out hpn HP.out HK34.out (wr' := wr) (Below.refl _ _) (by rw [← HX.out]; exact hx0) HONE.out
                    rw [HEX.out, ← HPP.out] at RN
                    have RD := R.out.left (sp := fun i => z4.getD i false) HRG.out hpn HP.out HK34.out (wr' := wr.drew) (Below.drew (Below.refl _ _)) (by rw [← HX.out]; exact hx0) HONE.out
                    rw [HEX.out, ← HPP.out] at RD
                    first
                      | exact ⟨i + 1, _, _, by omega, by omega, by go_num, Lib.hid RD⟩
                      | exact ⟨i + 1, _, _, by omega, by omega, by go_num, Lib.hid RN⟩
                  case measure => simp [intOf]; omega
              · have hx0' : (x == 0) = false := by simpa using hx0
                go_upto_region 37 with fail
                go_region_with (fail)
                all_goals
                  go_wp2_with fail
                  go_roundw
                  case rel =>
                    have RN := R.out.right (sp := fun i => z4.getD i false) HRG.out hpn HP.out HK34.out (wr' := wr) (Below.refl _ _) (by rw [← HX.out]; exact hx0)
                    rw [HEX.out, ← HPP.out] at RN
                    have RD := R.out.right (sp := fun i => z4.getD i false) HRG.out hpn HP.out HK34.out (wr' := wr.drew) (Below.drew (Below.refl _ _)) (by rw [← HX.out]; exact hx0)
                    rw [HEX.out, ← HPP.out] at RD
                    first
                      | exact ⟨i + 1, _, _, by omega, by omega, by go_num, Lib.hid RD⟩
                      | exact ⟨i + 1, _, _, by omega, by omega, by go_num, Lib.hid RN⟩
                  case measure => simp [intOf]; omega
        · have hik2 : i = k := by omega
          subst hik2
          have HT := Lib.hid (R.out.fin (W := (wr.setCell ⟨w.heap.size, 0, none⟩ (ex (Ks z) pl 0)).setCell ⟨w.heap.size, 1, none⟩ (.int .i32 0)) (fun j _ => by unfold Ks; omega) (fun i j j' h1 h2 h3 h4 h5 h6 => by
            have g3 := pon_eq h3
            have g4 := pon_eq h4
            rcases Nat.lt_trichotomy j j' with h | h | h
            · exact absurd h6 (HS.out.one j j' h h2 g3.1 (by rw [g3.2, g4.2]))
            · exact h
            · exact absurd h5 (HS.out.one j' j h h1 g4.1 (by rw [g3.2, g4.2]))) (by simp [size_set]) (fun b hb => by rw [Below.heap_setCell _ _ _ _ hb, Below.heap_setCell _ _ _ _ hb]))
          have d0 : wr.cell? ⟨w.heap.size + 1, 0, none⟩ = some (ex (Ks z) pl 0) := by have h := R.out.tb.ev hn1; simpa using h
          have d1 : wr.cell? ⟨w.heap.size + 1, 1, none⟩ = some (.int .i32 0) := by have h := R.out.tb.e1 hn1; simpa using h
          have d4 := R.out.tb.ex.lt
          have x0 := R.out.tb.box.cell 0
          have x1 := R.out.tb.box.cell 1
          have x2 := R.out.tb.box.free 0
          have x3 := R.out.tb.box.free 1
          have x4 := R.out.tb.box.lt
          obtain ⟨T, hT⟩ : ∃ T, T = ty (Ks z 0) := ⟨_, rfl⟩
          obtain ⟨Q, hQ⟩ : ∃ Q, Q = pl 0 := ⟨_, rfl⟩
          have HEX : Hid (ex (Ks z) pl 0 = .iface T (.pointer (some ⟨Q, 0, none⟩))) := Lib.hid (by rw [hT, hQ]; rfl)
          rw [HEX.out] at HT d0
          clear hT hQ
          have hfin : Below w.heap.size w ((wr.setCell ⟨w.heap.size, 0, none⟩ (.iface T (.pointer (some ⟨Q, 0, none⟩)))).setCell ⟨w.heap.size, 1, none⟩ (.int .i32 0)) := (R.out.bel.setCell (Nat.le_refl _) _).setCell (Nat.le_refl _) _
          go_wp2_with fail
          refine bodyPost_ret (v := .agg #[.iface T (.pointer (some ⟨Q, 0, none⟩)), .int .i32 0]) (by simp [results, Try.results6, go_sem, x0, x1, x4]; try rfl) rfl ⟨hfin, .inr ⟨hn1, pl, by rw [HEX.out], HT.out⟩⟩
end Go.Proofs.Ytgbbhihnlkaakaa.rst
