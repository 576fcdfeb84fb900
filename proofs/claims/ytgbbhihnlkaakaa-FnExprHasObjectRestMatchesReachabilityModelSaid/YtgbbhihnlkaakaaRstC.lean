/- The contract of 'zzExprModel'. No conditions beyond the hypotheses. -/
import Derived.Test.YtgbbhihnlkaakaaRstB
namespace Go.Proofs.Ytgbbhihnlkaakaa.rst
open Go.ChangeShapes Go.WideShapes Go.ChangeAt Go.RowKit Go.Mine
set_option linter.unusedVariables false
set_option linter.unusedSimpArgs false
set_option maxRecDepth 100000

/-- The parent as a number, if there is one. -/
def po (par : Nat → Int) (i : Nat) : Option Nat := if par i < 0 then none else some (par i).toNat
/-- The parents up to n alone. -/
def pon (n : Nat) (par : Nat → Int) (i : Nat) : Option Nat := if i < n then po par i else none
theorem pon_up {n : Nat} {K par slot : Nat → Int} (h : Shp n K par slot) : ∀ i p, pon n par i = some p → p < i := by
  intro i p hp
  unfold pon po at hp
  by_cases h0 : i < n
  · rw [if_pos h0] at hp
    by_cases h1 : par i < 0
    · rw [if_pos h1] at hp; cases hp
    · rw [if_neg h1] at hp
      injection hp with hp
      rcases h.up i h0 with h2 | ⟨h2, h3, _⟩ <;> omega
  · rw [if_neg h0] at hp; cases hp
theorem pon_none {n : Nat} {par : Nat → Int} {i : Nat} (h : par i < 0) : pon n par i = none := by
  unfold pon po
  by_cases h0 : i < n
  · rw [if_pos h0, if_pos h]
  · rw [if_neg h0]
theorem pon_some {n : Nat} {par : Nat → Int} {i p : Nat} (hi : i < n) (h : par i = (p : Int)) : pon n par i = some p := by unfold pon po; rw [if_pos hi, if_neg (by omega), h]; simp
section
variable (n : Nat) (z : List Int) (par slot : Nat → Int) (sp : Nat → Bool)
def mark (k i : Nat) : Bool := decide (i < k) && L (Ks z) (pon n par) slot i
variable {n z par slot sp}
theorem mark_lt {k i : Nat} (h : i < k) : mark n z par slot k i = L (Ks z) (pon n par) slot i := by simp [mark, h]
theorem mark_ge {k i : Nat} (h : k ≤ i) : mark n z par slot k i = false := by simp [mark]; omega
/-- No mark is set. -/
theorem mark_skip {k : Nat} (h : L (Ks z) (pon n par) slot k = false) (i : Nat) : mark n z par slot (k + 1) i = mark n z par slot k i := by
  by_cases h1 : i < k
  · rw [mark_lt h1, mark_lt (by omega)]
  · by_cases h2 : i = k
    · subst h2; rw [mark_lt (by omega), h, mark_ge (by omega)]
    · rw [mark_ge (by omega), mark_ge (by omega)]
theorem mark_set {k : Nat} (h : L (Ks z) (pon n par) slot k = true) (i : Nat) : mark n z par slot (k + 1) i = (if i = k then true else mark n z par slot k i) := by
  by_cases h2 : i = k
  · subst h2; rw [mark_lt (by omega), h, if_pos rfl]
  · rw [if_neg h2]
    by_cases h1 : i < k
    · rw [mark_lt h1, mark_lt (by omega)]
    · rw [mark_ge (by omega), mark_ge (by omega)]
theorem noM_skip {k : Nat} (h : NoM (Ks z) (pon n par) slot sp k) (hk : ∀ p, pon n par k = some p → L (Ks z) (pon n par) slot p = true → Ks z p = 2 → sp k = false) : NoM (Ks z) (pon n par) slot sp (k + 1) := by
  intro j p h0 hj hp hl h2
  by_cases e : j = k
  · subst e; exact hk p hp hl h2
  · exact h j p h0 (by omega) hp hl h2
end
/-- The loop's relation. -/
structure Md (n : Nat) (z : List Int) (par slot : Nat → Int) (sp : Nat → Bool) (w : World) (k : Nat) (wr : World) : Prop where
  row : FRow .bool wr w.heap.size n (mark n z par slot k) 4
  no : NoM (Ks z) (pon n par) slot sp k
  bel : Below w.heap.size w wr
theorem Md.skip {n : Nat} {z : List Int} {par slot : Nat → Int} {sp : Nat → Bool} {w : World} {k : Nat} {wr : World} (h : Md n z par slot sp w k wr) (hl : L (Ks z) (pon n par) slot k = false)
    (hk : ∀ p, pon n par k = some p → L (Ks z) (pon n par) slot p = true → Ks z p = 2 → sp k = false) : Md n z par slot sp w (k + 1) wr :=
  ⟨h.row.congr fun i _ => mark_skip hl i, noM_skip h.no hk, h.bel⟩
theorem Md.put {n : Nat} {z : List Int} {par slot : Nat → Int} {sp : Nat → Bool} {w : World} {k : Nat} {wr : World} (h : Md n z par slot sp w k wr) (hl : L (Ks z) (pon n par) slot k = true)
    (hk : ∀ p, pon n par k = some p → L (Ks z) (pon n par) slot p = true → Ks z p = 2 → sp k = false) : Md n z par slot sp w (k + 1) (wr.setCell ⟨w.heap.size, k, none⟩ (.bool true)) :=
  ⟨(h.row.set k true).congr fun i _ => by rw [mark_set hl i], noM_skip h.no hk, h.bel.setCell (Nat.le_refl _) _⟩
theorem md_start (n : Nat) (z : List Int) (par slot : Nat → Int) (sp : Nat → Bool) (w : World) : Md n z par slot sp w 1 ((w.alloc (.cells (madeCells #[.bool false] n) 4)).setCell ⟨w.heap.size, 0, none⟩ (.bool true)) :=
  ⟨((frow_new .bool w n false 4).set 0 true).congr fun i _ => by
      by_cases e : i = 0
      · subst e; rw [mark_lt (by omega)]; simp [L_zero]
      · rw [mark_ge (by omega)]; simp [e],
   fun j p h0 h1 => by omega, ((Below.refl _ _).alloc (Nat.le_refl _) _).setCell (Nat.le_refl _) _⟩
def Modeled (n : Nat) (z : List Int) (par slot : Nat → Int) (sp : Nat → Bool) (w : World) (e : Ending) (w' : World) : Prop :=
  ∃ b : Bool, e = .returned (.bool b) ∧ (b = true ↔ M n (Ks z) (pon n par) slot sp) ∧ Below w.heap.size w w'
set_option maxHeartbeats 1000000 in
theorem model8 (a : Option Addr) (n c : Nat) (z : List Int) (q1 q2 : Nat) (par slot : Nat → Int) (a4 : Option Addr) (l4 c4 : Nat) (z4 : List Bool) (w : World)
    (h : IntRow .u8 w a n c z) (r1 : FRow (.int .i64) w q1 n par 3) (r2 : FRow (.int .i64) w q2 n slot 3) (h4 : BoolRow w a4 l4 c4 z4) (hn : n ≤ 65536) (hs : Shp n (Ks z) par slot) :
    Calls Try.prog 8 #[.slice a n c, .slice (some ⟨q1, 0, none⟩) n n, .slice (some ⟨q2, 0, none⟩) n n, .slice a4 l4 c4] w (Modeled n z par slot (fun i => z4.getD i false) w) := by
  by_cases hn0 : n = 0
  · subst hn0
    clear h r1 r2 h4 hs
    go_enter Try.func8, Try.ntmps8
    go_wp2
    go_ret
    refine ⟨false, rfl, ?_, Below.refl _ _⟩
    simp only [Bool.false_eq_true, false_iff]
    rintro ⟨i, p, f, h0, hi, _⟩
    omega
  · have H := Lib.hid h
    have R1 := Lib.hid r1
    have R2 := Lib.hid r2
    have H4 := Lib.hid h4
    have HS := Lib.hid hs
    have hmk := makeBool n (by omega)
    have S0 := Lib.hid (md_start n z par slot (fun i => z4.getD i false) w)
    have hn1 : 0 < n := by omega
    have hn1' : (0 : Int) < (n : Int) := by omega
    have hn0' : ((n : Int) == 0) = false := by simpa using hn0
    have z0 : (w.alloc (.cells (madeCells #[.bool false] n) 4)).cell? ⟨w.heap.size, 0, none⟩ = some (.bool false) := (frow_new .bool w n false 4).cell hn1
    have z1 : (w.alloc (.cells (madeCells #[.bool false] n) 4)).frozen? ⟨w.heap.size, 0, none⟩ = false := (frow_new .bool w n false 4).free 0
    clear h r1 r2 h4 hs
    go_enter Try.func8, Try.ntmps8
    go_wp2_with fail
    clear hmk z0 z1
    go_loopw [11] (fun i wr => ∃ k : Nat, 1 ≤ k ∧ k ≤ n ∧ i = .int .i64 (k : Int) ∧ Hid (Md n z par slot (fun i => z4.getD i false) w k wr)) (fun i _ => n - (intOf i).toNat)
    case atStart => exact ⟨1, by omega, by omega, rfl, by simpa [go_sem] using S0⟩
    case round =>
      obtain ⟨k, hk1, hk, rfl, R⟩ := hrel
      clear S0
      by_cases hlt : k < n
      · have k1 : (k : Int) < (n : Int) := by omega
        have d0 := (R1.out.below R.out.bel).cell hlt
        have d1 := R.out.row.free k
        have d2 := R.out.row.lt
        have d3 := R.out.row.cell hlt
        obtain ⟨y, hy⟩ : ∃ y, y = par k := ⟨_, rfl⟩
        have HY := Lib.hid hy
        rw [← hy] at d0
        by_cases hneg : y < 0
        · have hp0 : pon n par k = none := pon_none (by rw [← hy]; exact hneg)
          have RN := Lib.hid (R.out.skip (L_none (by omega) hp0) (fun p hp => by rw [hp0] at hp; cases hp))
          clear hy hp0 HY
          go_wp2_with fail
          go_roundw
          case rel => exact ⟨k + 1, by omega, by omega, by go_num, RN⟩
          case measure => simp [intOf]; omega
        · obtain ⟨p, rfl⟩ := Int.eq_ofNat_of_zero_le (by omega : 0 ≤ y)
          have hpk : p < k := by
            rcases HS.out.up k hlt with h | ⟨_, h, _⟩ <;> omega
          have hpn : p < n := by omega
          have hpn' : (p : Int) < (n : Int) := by omega
          have hp0 : pon n par k = some p := pon_some hlt hy.symm
          have g0 := R.out.row.cell hpn
          rw [mark_lt hpk] at g0
          have HL := Lib.hid (L_some (k := Ks z) (slot := slot) (pon_up HS.out) (by omega) hp0)
          have HP := Lib.hid hp0
          obtain ⟨lv, hlv⟩ : ∃ lv, lv = L (Ks z) (pon n par) slot p := ⟨_, rfl⟩
          rw [← hlv] at g0
          have HLV := Lib.hid hlv
          clear hlv hp0 hy
          cases lv with
          | false =>
            have RN := Lib.hid (R.out.skip (by rw [HL.out, ← HLV.out]; rfl) (fun p' hp' => by rw [HP.out] at hp'; injection hp' with hp'; subst hp'; rw [← HLV.out]; intro h; cases h))
            go_wp2_with fail
            go_roundw
            case rel => exact ⟨k + 1, by omega, by omega, by go_num, RN⟩
            case measure => simp [intOf]; omega
          | true =>
            obtain ⟨b, off, ea, hb, hc⟩ := (H.out.below R.out.bel).at hpn
            subst ea
            obtain ⟨y, hy⟩ : ∃ y, y = z.getD p 0 := ⟨_, rfl⟩
            rw [← hy] at hc
            obtain ⟨q, ey⟩ := elt_of H.out hpn hy
            have hy0 := (bounds_u8 (H.out.2.2.2.1 _ (List.getElem_mem q)))
            rw [← ey] at hy0
            have HK := Lib.hid (show Ks z p = y % 5 by rw [hy]; rfl)
            obtain ⟨hy0, hy1⟩ := hy0
            have FL := Lib.hid (flag10 a4 l4 c4 z4 k wr (H4.out.below R.out.bel))
            have s0 := (R2.out.below R.out.bel).cell hlt
            obtain ⟨x, hx⟩ : ∃ x, x = slot k := ⟨_, rfl⟩
            rw [← hx] at s0
            have HX := Lib.hid hx
            obtain ⟨fl, hfl⟩ : ∃ fl, fl = z4.getD k false := ⟨_, rfl⟩
            rw [← hfl] at FL
            have HF := Lib.hid hfl
            clear hy q ey hx hfl
            have h5 : y % 5 = 1 ∨ y % 5 = 2 ∨ y % 5 = 3 ∨ (y % 5 = 0 ∨ y % 5 = 4) := by omega
            rcases h5 with h5 | h5 | h5 | h5
            · have RN := Lib.hid (R.out.put (by rw [HL.out, ← HLV.out, HK.out, h5]; rfl) (fun p' hp' _ h2 => by rw [HP.out] at hp'; injection hp' with hp'; subst hp'; rw [HK.out, h5] at h2; cases h2))
              go_wp2_with fail
              go_roundw
              case rel => exact ⟨k + 1, by omega, by omega, by go_num, RN⟩
              case measure => simp [intOf]; omega
            · cases fl with
              | true =>
                go_wp2_with (first | (go_at_call 10; (with_reducible refine FL.out.mono ?_); rintro e w' ⟨rfl, rfl⟩))
                go_ret
                refine ⟨true, rfl, ?_, R.out.bel⟩
                simp only [true_iff]
                exact yes_M (by omega) hlt HP.out HLV.out.symm (by rw [HK.out, h5]) HF.out.symm
              | false =>
                have RN := Lib.hid (R.out.put (by rw [HL.out, ← HLV.out, HK.out, h5]; rfl) (fun p' hp' _ h2 => HF.out.symm))
                go_wp2_with (first | (go_at_call 10; (with_reducible refine FL.out.mono ?_); rintro e w' ⟨rfl, rfl⟩))
                go_roundw
                case rel => exact ⟨k + 1, by omega, by omega, by go_num, RN⟩
                case measure => simp [intOf]; omega
            · have hno : ∀ p', pon n par k = some p' → L (Ks z) (pon n par) slot p' = true → Ks z p' = 2 → (fun i => z4.getD i false) k = false := fun p' hp' _ h2 => by rw [HP.out] at hp'; injection hp' with hp'; subst hp'; rw [HK.out, h5] at h2; cases h2
              by_cases hx0 : x = 0
              · have RN := Lib.hid (R.out.put (by rw [HL.out, ← HLV.out, HK.out, h5, ← HX.out, hx0]; rfl) hno)
                have hx0' : (x == 0) = true := by simp [hx0]
                clear hno
                go_wp2_with fail
                go_roundw
                case rel => exact ⟨k + 1, by omega, by omega, by go_num, RN⟩
                case measure => simp [intOf]; omega
              · have hx0' : (x == 0) = false := by simpa using hx0
                have RN := Lib.hid (R.out.skip (by rw [HL.out, ← HLV.out, HK.out, h5, ← HX.out, hx0']; rfl) hno)
                clear hno
                go_wp2_with fail
                go_roundw
                case rel => exact ⟨k + 1, by omega, by omega, by go_num, RN⟩
                case measure => simp [intOf]; omega
            · have hno : ∀ p', pon n par k = some p' → L (Ks z) (pon n par) slot p' = true → Ks z p' = 2 → (fun i => z4.getD i false) k = false := fun p' hp' _ h2 => by rw [HP.out] at hp'; injection hp' with hp'; subst hp'; rw [HK.out] at h2; omega
              have RN := Lib.hid (R.out.skip (by rw [HL.out, ← HLV.out, HK.out]; rcases h5 with h5 | h5 <;> rw [h5] <;> rfl) hno)
              clear hno
              rcases h5 with h5 | h5
              all_goals
                go_wp2_with fail
                go_roundw
                case rel => exact ⟨k + 1, by omega, by omega, by go_num, RN⟩
                case measure => simp [intOf]; omega
      · have hkn : k = n := by omega
        subst hkn
        go_wp2_with fail
        go_ret
        refine ⟨false, rfl, ?_, R.out.bel⟩
        simp only [Bool.false_eq_true, false_iff]
        exact not_M (pon_up HS.out) R.out.no
end Go.Proofs.Ytgbbhihnlkaakaa.rst
