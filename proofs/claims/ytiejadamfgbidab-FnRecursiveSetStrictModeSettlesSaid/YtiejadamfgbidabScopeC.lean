/- The contract of 'buildScopes'. No conditions beyond its hypotheses. -/
import Derived.Test.YtiejadamfgbidabScopeA
import Derived.Deep.AppendLies
import Derived.Deep.RegionLaw
import Derived.Deep.RegionHeld3
import Derived.Deep.CutBlock
import Derived.Deep.DeepCutAuto
import Derived.Outline
namespace Go.Proofs.Ytiejadamfgbidab.scopes
open Go.ChangeShapes Go.WideShapes Go.ChangeAt Go.RowKit Go.Mine
set_option linter.unusedVariables false
set_option maxRecDepth 100000

theorem info92 : (Try.prog.info? 92).map (fun i => (i.zero, i.size, i.bytes)) = some (some (.pointer none), 1, 8) := by kernel_rfl
/-- The first loop: k scopes are made. -/
structure Mk (R n k : Nat) (zm : List Int) (w0 wr : World) : Prop where
  row : Blk wr R (fillTo (rowL R n) (.pointer none) k) 92
  size : wr.heap.size = R + 1 + k
  sc : ∀ j, j < k → Blk wr (R + 1 + j) (scA (.pointer none) (.slice none 0 0) (zm.getD j 0)) 103
  bel : Below w0.heap.size w0 wr
theorem Mk.step {R n k : Nat} {zm : List Int} {w0 wr : World} {x : Int} (h : Mk R n k zm w0 wr) (hR : w0.heap.size ≤ R) (hk : k < n) (hx : x = zm.getD k 0) :
    Mk R n (k + 1) zm w0 ((wr.setCell ⟨R, k, none⟩ (.pointer (some ⟨R + 1 + k, 0, none⟩))).alloc (.cells (scA (.pointer none) (.slice none 0 0) x) 103)) := by
  have hs := h.size
  subst hx
  refine ⟨?_, by rw [World.size_alloc, size_set, hs]; omega, fun j hj => ?_, (h.bel.setCell (by exact hR) _).alloc (by rw [size_set]; exact h.bel.size) _⟩
  · have h1 := (h.row.set k (.pointer (some ⟨R + 1 + k, 0, none⟩))).alloc (.cells (scA (.pointer none) (.slice none 0 0) (zm.getD k 0)) 103)
    have h2 := fill_set (zs := rowL R n) (z := .pointer none) (by rw [rowL_len]; exact hk) (rowL_at R n k hk)
    unfold pt at h2
    rw [h2] at h1
    exact h1
  · by_cases e : j = k
    · subst e
      have := Blk.new (wr.setCell ⟨R, j, none⟩ (.pointer (some ⟨R + 1 + j, 0, none⟩))) (scA (.pointer none) (.slice none 0 0) (zm.getD j 0)) 103
      rw [size_set, hs] at this
      exact this
    · exact ((h.sc j (by omega)).setOther (a := ⟨R, k, none⟩) (by show R + 1 + j ≠ R; omega) _).alloc _
theorem Mk.done {R n : Nat} {z zm : List Int} {w0 wr : World} (h : Mk R n n zm w0 wr) : Sc R n 1 z (fun j => zm.getD j 0) (fun _ => .pointer none) (fun _ => .slice none 0 0) w0 wr := by
  have hs := h.size
  refine ⟨?_, by omega, fun j hj => h.sc j hj, fun j hj => ?_, fun _ _ _ => rfl, h.bel⟩
  · have hr := h.row
    have he := fill_end (rowL R n) (.pointer none)
    rw [rowL_len] at he
    rw [he] at hr
    exact hr
  · rw [kids_one]; exact World.ownsRow_nil _ _ _ _
theorem row_cell {R n i : Nat} {z : List Int} {md : Nat → Int} {par kv : Nat → Value} {w0 wr : World} (h : Sc R n i z md par kv w0 wr) {j : Nat} (hj : j < n) : wr.cell? ⟨R, j, none⟩ = some (.pointer (some ⟨R + 1 + j, 0, none⟩)) := by
  rw [h.row.cell]
  simpa [pt] using rowL_at R n j hj

def Built (n : Nat) (z zm : List Int) (w : World) (e : Ending) (w' : World) : Prop :=
  e = .returned (.slice (some ⟨w.heap.size, 0, none⟩) n n) ∧ ∃ par kv, Sc w.heap.size n n z (fun j => zm.getD j 0) par kv w w'
theorem form1' {w : World} {B e size n : Nat} {v : Value} {xs : List Value} (h : w.ownsRow B e size v n xs) : ∃ a c, v = .slice a n c := by
  rcases h.2 with ⟨rfl, rfl⟩ | ⟨g, cap, cur, rfl, _⟩
  · exact ⟨_, _, rfl⟩
  · exact ⟨_, _, rfl⟩
theorem grown_blk {W W' w1 : World} {o : Obj} {k : Nat} {C : Array Value} {t : TypeId} {v : Value} {B : Nat} (h : Blk W k C t) (hg : W'.grownBy w1 v.ownBlock) (hW : W'.heap = (W.alloc o).heap) (hB : ∀ g, v.ownBlock = some g → B ≤ g) (hk : k < B) : Blk w1 k C t := by
  have hlt := h.lt
  have e : W'.heap[k]? = W.heap[k]? := by rw [hW]; exact Below.heap_alloc _ _ _ hlt
  exact (hg.block k (by rw [hW]; show k < (W.alloc o).heap.size; rw [World.size_alloc]; omega) (fun e => by have := hB k e.symm; omega)).trans (e.trans h)
def Nx (R n i : Nat) (z zm : List Int) (w W : World) : Prop := ∃ par kv, Sc R n i z (fun j => zm.getD j 0) par kv w W
set_option maxHeartbeats 4000000 in
theorem build33 (n : Nat) (z zm : List Int) (a0 : Option Addr) (c0 : Nat) (a1 : Option Addr) (c1 : Nat) (w : World) (hn0 : 1 ≤ n) (hn : n ≤ 65536) (h0 : IntRow .i64 w a0 n c0 z) (h1 : IntRow .u8 w a1 n c1 zm) (hz : ∀ c, 1 ≤ c → c < n → 0 ≤ z.getD c 0 ∧ z.getD c 0 < (c : Int)) :
    Calls Try.prog 33 #[.slice a0 n c0, .slice a1 n c1] w (Built n z zm w) := by
  obtain ⟨i0, hi, hz0, hz1, hz2⟩ := info_parts info92
  have hmk := run_make_row' 90 92 (.pointer none) 8 Try.underlying90 (by kernel_rfl) rfl .i64 .i64 n (by omega) (by omega)
  have fs := fill_start (rowL w.heap.size n) (.pointer none)
  rw [rowL_len] at fs
  rw [fs] at hmk
  have H0 := Lib.hid h0
  have H1 := Lib.hid h1
  have HZ := Lib.hid hz
  have M0 : Hid (Mk w.heap.size n 0 zm w (w.alloc (.cells (fillTo (rowL w.heap.size n) (.pointer none) 0) 92))) := ⟨Blk.new w _ _, by rw [World.size_alloc], fun j hj => by omega, (Below.refl _ _).alloc (Nat.le_refl _) _⟩
  clear h0 h1 hz fs
  go_enter Try.func33, Try.ntmps33
  go_wp2
  go_loopw [7] (fun i wr => ∃ k : Nat, k ≤ n ∧ i = .int .i64 k ∧ Hid (Mk w.heap.size n k zm w wr)) (fun i _ => n - (intOf i).toNat)
  case atStart => exact ⟨0, Nat.zero_le _, rfl, M0⟩
  case round =>
    obtain ⟨k, hk, rfl, hM⟩ := hrel
    clear hmk M0
    by_cases hlt : k < n
    · obtain ⟨x, hx⟩ : ∃ x, x = zm.getD k 0 := ⟨_, rfl⟩
      have ST := Lib.hid (hM.out.step (Nat.le_refl _) hlt hx)
      have hsz := hM.out.size
      have hrow := hM.out.row
      have r0 : wr.cell? ⟨w.heap.size, k, none⟩ = (fillTo (rowL w.heap.size n) (.pointer none) k)[k]? := hrow.cell k
      obtain ⟨old, hold⟩ : ∃ old, (fillTo (rowL w.heap.size n) (.pointer none) k)[k]? = some old := by
        have hsz : k < (fillTo (rowL w.heap.size n) (.pointer none) k).size := by rw [fill_size _ _ (by rw [rowL_len]; omega), rowL_len]; exact hlt
        exact ⟨_, Array.getElem?_eq_getElem hsz⟩
      rw [hold] at r0
      have r1 := hrow.free k
      have r2 := hrow.lt
      obtain ⟨b, off, ha, hb, hc⟩ := (H1.out.below hM.out.bel).at hlt
      subst ha
      rw [← hx] at hc
      have hb2 : w.heap.size ≠ wr.heap.size := by omega
      have HS := Lib.hid hsz
      unfold scA at ST
      rw [← hsz] at ST
      clear hM hrow hold hsz hx
      go_wp2_with fail
      go_roundw
      case rel => exact ⟨k + 1, by omega, by go_num, ST⟩
      case measure => simp [intOf]; omega
    · obtain rfl : k = n := by omega
      have S1 := Lib.hid (hM.out.done (z := z))
      clear hM
      go_wp2_with fail
      go_loopw [8] (fun i wr => ∃ i' : Nat, 1 ≤ i' ∧ i' ≤ k ∧ i = .int .i64 i' ∧ Hid (Nx w.heap.size k i' z zm w wr)) (fun i _ => k - (intOf i).toNat)
      case atStart => exact ⟨1, Nat.le_refl _, hn0, rfl, _, _, S1.out⟩
      case round =>
        obtain ⟨i, hi1, hik, rfl, hN⟩ := hrel
        by_cases hlt2 : i < k
        · obtain ⟨par, kv, hS⟩ := hN.out
          obtain ⟨hp0, hp1⟩ := HZ.out i hi1 hlt2
          obtain ⟨p, hp⟩ : ∃ p : Nat, z.getD i 0 = (p : Int) := ⟨(z.getD i 0).toNat, by omega⟩
          obtain ⟨b, off, ha, hb, hc⟩ := (H0.out.below hS.bel).at hlt2
          subst ha
          rw [hp] at hc hp1
          have hpi : p < i := by omega
          have hpk : p < k := by omega
          have r1 := row_cell hS hpk
          have r2 := row_cell hS hlt2
          have q1 : wr.cell? ⟨w.heap.size + 1 + i, 1, none⟩ = some (par i) := (hS.sc i hlt2).cell 1
          have q2 := (hS.sc i hlt2).free 1
          have q3 := (hS.sc i hlt2).lt
          have q4 := hS.row.lt
          have S2 := Lib.hid (hS.setPar (Nat.le_refl _) hlt2 (.pointer (some ⟨w.heap.size + 1 + p, 0, none⟩)))
          have HP := Lib.hid hp
          clear hN hS hp
          go_upto_region 12 with fail
          generalize hW1 : wr.setCell ⟨w.heap.size + 1 + i, 1, none⟩ (.pointer (some ⟨w.heap.size + 1 + p, 0, none⟩)) = W1 at *
          obtain ⟨par2, hpar2⟩ : ∃ par2, par2 = upd par i (.pointer (some ⟨w.heap.size + 1 + p, 0, none⟩)) := ⟨_, rfl⟩
          rw [← hpar2] at S2
          have hS2 := S2.out
          obtain ⟨a, cp, ha⟩ := form1' (hS2.own p hpk)
          obtain ⟨m, hm⟩ : ∃ m, m = (kids z i p).length := ⟨_, rfl⟩
          have hml : m ≤ 65536 := by have := kids_le z i p; omega
          rw [← hm] at ha
          have u1 := row_cell hS2 hlt2
          have u2 : W1.cell? ⟨w.heap.size + 1 + p, 2, none⟩ = some (.slice a m cp) := by rw [← ha]; exact (hS2.sc p hpk).cell 2
          have u3 := (hS2.sc p hpk).lt
          have u4 := (hS2.row).lt
          have KO := Lib.hid (hS2.own p hpk)
          rw [← hm, ha] at KO
          have KB := Lib.hid (hS2.sc p hpk)
          have KL : Hid (∀ g, (kv p).ownBlock = some g → w.heap.size + 1 + k ≤ g) := fun g hg => ((hS2.own p hpk).lt g hg).1
          rw [ha] at KL
          have hbg := hS2.big
          have HM := Lib.hid hm
          have HA := Lib.hid ha
          clear hW1 hpar2 hS2 hm ha r1 r2 q1 q2 q3 q4 hc
          go_region_law ((refine step_append_lies _ (by rfl) _ _ _ (by rfl) (w.heap.size + 1 + k) 92 i0 _ 1 8 Try.underlying90 hi hz0 hz1 hz2 rfl (by decide) (.slice a m cp) m _ (by rfl) (KO.out.alloc _) ⟨W1.heap.size, 0, none⟩ 1 1 [.pointer (some ⟨w.heap.size + 1 + i, 0, none⟩)] (by rfl) (by rfl) (cell_one_new _ _ _) (by simp [Value.oneCell']) (by decide) (by unfold maxLen; omega) (by omega) (by simp; omega) (W1.heap.size + 1) (by simp) ?_; intro gg cap w3 hown3 hgrow3 hat3 hlt3; have K3 := grown_blk KB.out hgrow3 rfl KL.out (by omega); have k1 : w3.cell? ⟨w.heap.size + 1 + p, 2, none⟩ = some (kv p) := K3.cell 2; have k2 := K3.free 2; have k3 := K3.lt))
          all_goals
            have N : Hid (Nx w.heap.size k (i + 1) z zm w (w3.setCell ⟨w.heap.size + 1 + p, 2, none⟩ (.slice (some ⟨gg, 0, none⟩) (m + 1) cap))) := by
              first
                | exact ⟨par2, _, Sc.app (S2.out.drew.alloc _) (Nat.le_refl _) hi1 hlt2 hpk HP.out (by rw [HA.out]; exact hgrow3) (by rw [← HM.out]; exact hown3)⟩
                | exact ⟨par2, _, Sc.app (S2.out.alloc _).drew (Nat.le_refl _) hi1 hlt2 hpk HP.out (by rw [HA.out]; exact hgrow3) (by rw [← HM.out]; exact hown3)⟩
                | exact ⟨par2, _, Sc.app (S2.out.alloc _) (Nat.le_refl _) hi1 hlt2 hpk HP.out (by rw [HA.out]; exact hgrow3) (by rw [← HM.out]; exact hown3)⟩
            clear k1 k2 k3 K3 hown3 hgrow3 hat3 hlt3 u1 u2 u3 u4
            go_wp2_with fail
            go_roundw
            case rel => exact ⟨i + 1, by omega, by omega, by go_num, N⟩
            case measure => simp [intOf]; omega
        · obtain rfl : i = k := by omega
          go_wp2_with fail
          go_ret
          exact ⟨rfl, hN.out⟩
end Go.Proofs.Ytiejadamfgbidab.scopes
