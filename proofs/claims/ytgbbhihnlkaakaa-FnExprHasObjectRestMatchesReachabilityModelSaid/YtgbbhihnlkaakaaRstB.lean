/- The contract of 'zzExprShape': each node's parent lies ahead of it, is no leaf, and has one child at most in slot 0. No conditions beyond the hypotheses. -/
import Derived.Test.YtgbbhihnlkaakaaRstA
namespace Go.Proofs.Ytgbbhihnlkaakaa.rst
open Go.ChangeShapes Go.WideShapes Go.ChangeAt Go.RowKit Go.Mine
set_option linter.unusedVariables false
set_option linter.unusedSimpArgs false
set_option maxRecDepth 100000

/-- What the shape keeps to. -/
structure Shp (n : Nat) (K : Nat → Int) (par slot : Nat → Int) : Prop where
  up : ∀ i, i < n → par i < 0 ∨ (0 ≤ par i ∧ par i < i ∧ K (par i).toNat ≠ 0)
  one : ∀ j j', j < j' → j' < n → 0 ≤ par j → par j = par j' → slot j' ≠ 0
def Ks (z : List Int) (i : Nat) : Int := z.getD i 0 % 5
/-- The loop's relation behind k rounds. -/
structure Sh (n : Nat) (z : List Int) (w : World) (k : Nat) (par slot cnt : Nat → Int) (wr : World) : Prop where
  shp : Shp k (Ks z) par slot
  cn : ∀ p, 0 ≤ cnt p ∧ cnt p ≤ k
  ps : ∀ j, j < k → 0 ≤ par j → 0 < cnt (par j).toNat
  r1 : FRow (.int .i64) wr w.heap.size n par 3
  r2 : FRow (.int .i64) wr (w.heap.size + 1) n slot 3
  r3 : FRow (.int .i64) wr (w.heap.size + 1 + 1) n cnt 3
  bel : Below w.heap.size w wr
theorem Sh.skip {n : Nat} {z : List Int} {w wr : World} {k : Nat} {par slot cnt : Nat → Int} (h : Sh n z w k par slot cnt wr) {v : Int} (hv : v < 0) :
    Sh n z w (k + 1) (fun j => if j = k then v else par j) slot cnt (wr.setCell ⟨w.heap.size, k, none⟩ (.int .i64 v)) := by
  refine ⟨⟨fun i hi => ?_, fun j j' h1 h2 h3 h4 => ?_⟩, fun p => ?_, fun j hj h0 => ?_, h.r1.set k v, h.r2.setOther (by simp) _, h.r3.setOther (by simp; omega) _, h.bel.setCell (Nat.le_refl _) _⟩
  · by_cases e : i = k
    · simp only [if_pos e]; exact .inl hv
    · simp only [if_neg e]; exact h.shp.up i (by omega)
  · try simp only at h3 h4
    by_cases e : j = k
    · rw [if_pos e] at h3; omega
    · rw [if_neg e] at h3 h4
      by_cases e' : j' = k
      · rw [if_pos e'] at h4; omega
      · rw [if_neg e'] at h4; exact h.shp.one j j' h1 (by omega) h3 h4
  · have := h.cn p; omega
  · try simp only at h0 ⊢
    by_cases e : j = k
    · rw [if_pos e] at h0; omega
    · rw [if_neg e] at h0 ⊢; exact h.ps j (by omega) h0
theorem Sh.put {n : Nat} {z : List Int} {w wr : World} {k : Nat} {par slot cnt : Nat → Int} (h : Sh n z w k par slot cnt wr) {p : Nat} (hp : p < k) (hk : Ks z p ≠ 0) :
    Sh n z w (k + 1) (fun j => if j = k then (p : Int) else par j) (fun j => if j = k then cnt p else slot j) (fun j => if j = p then cnt p + 1 else cnt j)
      (((wr.setCell ⟨w.heap.size, k, none⟩ (.int .i64 (p : Int))).setCell ⟨w.heap.size + 1, k, none⟩ (.int .i64 (cnt p))).setCell ⟨w.heap.size + 1 + 1, p, none⟩ (.int .i64 (cnt p + 1))) := by
  refine ⟨⟨fun i hi => ?_, fun j j' h1 h2 h3 h4 => ?_⟩, fun q => ?_, fun j hj h0 => ?_, ((h.r1.set k (p : Int)).setOther (by simp) _).setOther (by simp; omega) _, ((h.r2.setOther (by simp) _).set k (cnt p)).setOther (by simp) _, ((h.r3.setOther (by simp; omega) _).setOther (by simp) _).set p _, ((h.bel.setCell (Nat.le_refl _) _).setCell (by simp) _).setCell (by simp; omega) _⟩
  · by_cases e : i = k
    · simp only [if_pos e]; refine .inr ⟨by omega, by omega, by simpa using hk⟩
    · simp only [if_neg e]; exact h.shp.up i (by omega)
  · try simp only at h3 h4 ⊢
    by_cases e : j = k
    · omega
    · rw [if_neg e] at h3 h4
      by_cases e' : j' = k
      · rw [if_pos e'] at h4 ⊢
        have := h.ps j (by omega) h3
        rw [h4] at this
        simp at this
        omega
      · rw [if_neg e'] at h4 ⊢; exact h.shp.one j j' h1 (by omega) h3 h4
  · try simp only
    have h1 := h.cn p
    have h2 := h.cn q
    split <;> omega
  · try simp only at h0 ⊢
    by_cases e : j = k
    · rw [if_pos e]
      simp only [Int.toNat_natCast]
      rw [if_pos trivial]
      have := h.cn p; omega
    · rw [if_neg e] at h0 ⊢
      have h1 := h.ps j (by omega) h0
      by_cases e' : (par j).toNat = p
      · rw [if_pos e']; have := h.cn p; omega
      · rw [if_neg e']; exact h1
theorem sh_start (n : Nat) (z : List Int) (w : World) : Sh n z w 0 (fun _ => 0) (fun _ => 0) (fun _ => 0)
    (((w.alloc (.cells (madeCells #[.int .i64 0] n) 3)).alloc (.cells (madeCells #[.int .i64 0] n) 3)).alloc (.cells (madeCells #[.int .i64 0] n) 3)) := by
  refine ⟨⟨fun i hi => by omega, fun j j' h1 h2 => by omega⟩, fun p => by omega, fun j hj => by omega, ((frow_new _ w n 0 _).alloc _).alloc _, ?_, ?_, (((Below.refl _ _).alloc (Nat.le_refl _) _).alloc (by simp) _).alloc (by simp; omega) _⟩
  · have h := (frow_new (.int .i64) (w.alloc (.cells (madeCells #[.int .i64 0] n) 3)) n 0 3).alloc (.cells (madeCells #[.int .i64 0] n) 3)
    simp only [World.size_alloc] at h
    exact h
  · have h := frow_new (.int .i64) ((w.alloc (.cells (madeCells #[.int .i64 0] n) 3)).alloc (.cells (madeCells #[.int .i64 0] n) 3)) n 0 3
    simp only [World.size_alloc] at h
    exact h
def Shaped (n : Nat) (z : List Int) (w : World) (e : Ending) (w' : World) : Prop :=
  e = .returned (.tuple #[.slice (some ⟨w.heap.size, 0, none⟩) n n, .slice (some ⟨w.heap.size + 1, 0, none⟩) n n]) ∧
  ∃ par slot : Nat → Int, Shp n (Ks z) par slot ∧ FRow (.int .i64) w' w.heap.size n par 3 ∧ FRow (.int .i64) w' (w.heap.size + 1) n slot 3 ∧ Below w.heap.size w w'
set_option maxHeartbeats 1000000 in
theorem shape5 (a : Option Addr) (n c : Nat) (z : List Int) (a2 : Option Addr) (l2 c2 : Nat) (z2 : List Int) (w : World) (h : IntRow .u8 w a n c z) (h2 : IntRow .i32 w a2 l2 c2 z2) (hn : n ≤ 65536) :
    Calls Try.prog 5 #[.slice a n c, .slice a2 l2 c2] w (Shaped n z w) := by
  have H := Lib.hid h
  have H2 := Lib.hid h2
  have hmk := makeInt n (by omega)
  have S0 := Lib.hid (sh_start n z w)
  clear h h2
  go_enter Try.func5, Try.ntmps5
  go_wp2_with fail
  clear hmk
  go_loopw [10] (fun i wr => ∃ (k : Nat) (par slot cnt : Nat → Int), k ≤ n ∧ i = .int .i64 (k : Int) ∧ Hid (Sh n z w k par slot cnt wr)) (fun i _ => n - (intOf i).toNat)
  case atStart => exact ⟨0, _, _, _, Nat.zero_le _, rfl, S0⟩
  case round =>
    obtain ⟨k, par, slot, cnt, hk, rfl, R⟩ := hrel
    clear S0
    by_cases hlt : k < n
    · have k1 : (k : Int) < (n : Int) := by omega
      have d0 := R.out.r1.cell hlt
      have d1 := R.out.r1.free k
      have d2 := R.out.r1.lt
      by_cases h0 : k = 0
      · subst h0
        go_wp2_with fail
        go_roundw
        case rel => exact ⟨1, _, _, _, by omega, rfl, Lib.hid (R.out.skip (v := -1) (by decide))⟩
        case measure => simp [intOf]; omega
      · have h0' : ((k : Int) == 0) = false := by simpa using h0
        have A9 := Lib.hid (at9 a2 l2 c2 z2 k wr (H2.out.below R.out.bel))
        go_upto_region 11 with (first | (go_at_call 9; (with_reducible refine A9.out.mono ?_); rintro e w' ⟨⟨x, rfl, hx⟩, rfl⟩))
        have hk0 : (0 : Int) < (k : Int) := by omega
        have hr0 := Int.emod_nonneg (x % 4294967296) (Int.ne_of_gt hk0)
        have hr1 := Int.emod_lt_of_pos (x % 4294967296) hk0
        have ew : wrap64 (x % 4294967296 % (k : Int)) = x % 4294967296 % (k : Int) := by unfold wrap64; omega
        obtain ⟨p, hp⟩ := Int.eq_ofNat_of_zero_le hr0
        simp only [ew]
        simp only [hp]
        rw [hp] at hr0 hr1
        clear ew hp hx A9
        have hpk : p < k := by omega
        have hpn : p < n := by omega
        have hpn' : (p : Int) < (n : Int) := by omega
        have b0 := R.out.r1.cell hpn
        have e0 := R.out.r2.free k
        have e1 := R.out.r2.lt
        have g0 := R.out.r3.cell hpn
        have g1 := R.out.r3.free p
        have g2 := R.out.r3.lt
        have e3 := R.out.r2.cell hlt
        obtain ⟨b, off, ea, hb, hc⟩ := (H.out.below R.out.bel).at hpn
        subst ea
        obtain ⟨y, hy⟩ : ∃ y, y = z.getD p 0 := ⟨_, rfl⟩
        rw [← hy] at hc
        have hc1 := (R.out.cn p).1
        have hc2 : cnt p ≤ 65536 := by have := (R.out.cn p).2; omega
        obtain ⟨q, ey⟩ := elt_of H.out hpn hy
        have hy0 := (bounds_u8 (H.out.2.2.2.1 _ (List.getElem_mem q)))
        rw [← ey] at hy0
        have HK := Lib.hid (show Ks z p = y % 5 by rw [hy]; rfl)
        clear hy q ey hr0 hr1
        obtain ⟨hy0, hy1⟩ := hy0
        by_cases hm2 : par p = -2
        · have hm2' : (par p == -2) = true := by simp [hm2]
          go_wp2_with fail
          go_roundw
          case rel => exact ⟨k + 1, _, _, _, by omega, by go_num, Lib.hid (R.out.skip (v := -2) (by decide))⟩
          case measure => simp [intOf]; omega
        · have hm2' : (par p == -2) = false := by simpa using hm2
          have h5 : y % 5 = 0 ∨ y % 5 = 1 ∨ y % 5 = 2 ∨ y % 5 = 3 ∨ y % 5 = 4 := by omega
          rcases h5 with h5 | h5 | h5 | h5 | h5
          · go_wp2_with fail
            go_roundw
            case rel => exact ⟨k + 1, _, _, _, by omega, by go_num, Lib.hid (R.out.skip (v := -2) (by decide))⟩
            case measure => simp [intOf]; omega
          · go_wp2_with fail
            go_roundw
            case rel => exact ⟨k + 1, _, _, _, by omega, by go_num, Lib.hid (R.out.put hpk (by rw [HK.out, h5]; decide))⟩
            case measure => simp [intOf]; omega
          · go_wp2_with fail
            go_roundw
            case rel => exact ⟨k + 1, _, _, _, by omega, by go_num, Lib.hid (R.out.put hpk (by rw [HK.out, h5]; decide))⟩
            case measure => simp [intOf]; omega
          · by_cases hc3 : (2 : Int) ≤ cnt p
            · go_wp2_with fail
              go_roundw
              case rel => exact ⟨k + 1, _, _, _, by omega, by go_num, Lib.hid (R.out.skip (v := -2) (by decide))⟩
              case measure => simp [intOf]; omega
            · go_wp2_with fail
              go_roundw
              case rel => exact ⟨k + 1, _, _, _, by omega, by go_num, Lib.hid (R.out.put hpk (by rw [HK.out, h5]; decide))⟩
              case measure => simp [intOf]; omega
          · by_cases hc3 : (2 : Int) ≤ cnt p
            · go_wp2_with fail
              go_roundw
              case rel => exact ⟨k + 1, _, _, _, by omega, by go_num, Lib.hid (R.out.skip (v := -2) (by decide))⟩
              case measure => simp [intOf]; omega
            · go_wp2_with fail
              go_roundw
              case rel => exact ⟨k + 1, _, _, _, by omega, by go_num, Lib.hid (R.out.put hpk (by rw [HK.out, h5]; decide))⟩
              case measure => simp [intOf]; omega
    · have hkn : k = n := by omega
      subst hkn
      go_wp2_with fail
      go_ret2
      exact ⟨rfl, par, slot, R.out.shp, R.out.r1, R.out.r2, R.out.bel⟩
end Go.Proofs.Ytgbbhihnlkaakaa.rst
