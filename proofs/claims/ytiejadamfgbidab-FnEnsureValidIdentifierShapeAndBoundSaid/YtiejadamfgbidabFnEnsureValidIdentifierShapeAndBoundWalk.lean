/- The walk of the law 'FnEnsureValidIdentifierShapeAndBound': it returns true and leaves what was there as it was. No conditions. -/
import Derived.Test.YtiejadamfgbidabRows
import Derived.Test.YtiejadamfgbidabLib
import Derived.Test.YtiejadamfgbidabEnsB
import Derived.Outline
namespace Go.Proofs.Ytiejadamfgbidab.fnEnsureValidIdentifierShapeAndBound
open Go.ChangeShapes Go.WideShapes Go.ChangeAt Go.RowKit Go.Mine ens
set_option linter.unusedVariables false

theorem bytes_any (s : ByteArray) (w : World) (h : s.size ≤ maxLen) : Calls Try.prog 35 #[.string s] w fun e w' => (∃ r : Bool, e = .returned (.bool r)) ∧ w = w' := by
  unfold maxLen at h
  go_enter Try.func35, Try.ntmps35
  go_wp2
  all_goals
    go_ret
    exact ⟨⟨_, rfl⟩, rfl⟩
theorem let_y (c : Int) (w : World) (h : ltrI c) : Calls Try.prog 37 #[.int .u8 c] w fun e w' => e = .returned (.bool true) ∧ w = w' := by
  rcases h with ⟨h1, h2⟩ | ⟨h1, h2⟩
  all_goals
    go_enter Try.func37, Try.ntmps37
    go_wp2
    go_ret
    exact ⟨rfl, rfl⟩
theorem let_n (c : Int) (w : World) (h : ¬ ltrI c) : Calls Try.prog 37 #[.int .u8 c] w fun e w' => e = .returned (.bool false) ∧ w = w' := by
  have hc : c < 65 ∨ (91 ≤ c ∧ c ≤ 96) ∨ 123 ≤ c := by unfold ltrI at h; omega
  have e1 : 91 ≤ c → decide (c ≤ 90) = false := fun h => by simp; omega
  have e2 : 123 ≤ c → decide (c ≤ 122) = false := fun h => by simp; omega
  clear h
  rcases hc with h | ⟨h1, h2⟩ | h
  all_goals
    first | (have e1 := e1 (by omega)) | (clear e1)
    first | (have e2 := e2 (by omega)) | (clear e2)
    go_enter Try.func37, Try.ntmps37
    go_wp2
    go_ret
    exact ⟨rfl, rfl⟩
theorem dig_y (c : Int) (w : World) (h : digI c) : Calls Try.prog 42 #[.int .u8 c] w fun e w' => e = .returned (.bool true) ∧ w = w' := by
  obtain ⟨h1, h2⟩ := h
  go_enter Try.func42, Try.ntmps42
  go_wp2
  go_ret
  exact ⟨rfl, rfl⟩
theorem aln_y (c : Int) (w : World) (h : alnI c) : Calls Try.prog 38 #[.int .u8 c] w fun e w' => e = .returned (.bool true) ∧ w = w' := by
  by_cases hl : ltrI c
  · have H := Lib.hid fun w => let_y c w hl
    clear hl h
    go_enter Try.func38, Try.ntmps38
    go_wp2_with (first | (go_at_call 37; refine (H.out _).mono ?_; rintro e w' ⟨rfl, rfl⟩))
    go_ret
    exact ⟨rfl, rfl⟩
  · have H := Lib.hid fun w => let_n c w hl
    have hd : digI c := by rcases h with h | h; contradiction; exact h
    have H2 := Lib.hid fun w => dig_y c w hd
    clear hl h hd
    go_enter Try.func38, Try.ntmps38
    go_wp2_with (first | (go_at_call 37; refine (H.out _).mono ?_; rintro e w' ⟨rfl, rfl⟩) | (go_at_call 42; refine (H2.out _).mono ?_; rintro e w' ⟨rfl, rfl⟩))
    go_ret
    exact ⟨rfl, rfl⟩
theorem num_at (l : List Int) (i : Nat) (h : i < (strOfNums l).size) (hb : ∀ c ∈ l, 0 ≤ c ∧ c ≤ 255) : ∃ h' : i < l.length, (((strOfNums l)[i]'h).toNat : Int) = l[i] := by
  have h' : i < l.length := by rw [← strOfNums_size]; exact h
  refine ⟨h', ?_⟩
  have hd : (strOfNums l)[i]'h = (strOfNums l).data.toList[i]'(by rw [strOfNums_data]; simpa using h') := rfl
  have hb := hb l[i] (List.getElem_mem h')
  rw [hd]
  simp only [strOfNums_data, List.getElem_map, UInt8.toNat_ofNat']
  omega
theorem good_bytes {l : List Int} (h : ens.Good l) : ∀ c ∈ l, 0 ≤ c ∧ c ≤ 255 := by
  intro c hc
  rcases h.2.2.1 c hc with h | h
  · omega
  · unfold alnI ltrI digI at h; omega

def HasB (b : Bool) (s : ByteArray) (k : Nat) : Prop := b = true ↔ hasL s k
set_option maxHeartbeats 1000000 in
theorem walk (a0 : ByteArray) (w : World) (w0 : a0.size ≤ maxLen) :
    Calls Try.prog 8 #[.string a0] w fun e w' => e = .returned (.bool true) ∧ Below w.heap.size w w' := by
  have m0 := w0
  unfold maxLen at m0
  go_enter Try.func8, Try.ntmps8
  go_wp2_with fail
  refine (bytes_any _ _ w0).mono ?_
  rintro e w' ⟨⟨r, rfl⟩, rfl⟩
  cases r with
  | false =>
    go_wp2_with fail
    go_ret
    exact ⟨rfl, Below.refl _ _⟩
  | true =>
    go_wp2_with fail
    all_goals try (go_ret; exact ⟨rfl, Below.refl _ _⟩)
    have q0 : a0.size ≤ 1048576 := by go_light; omega
    refine (ens36 a0 _ q0).mono ?_
    rintro e w2 ⟨l, rfl, hb2, hE⟩
    have B2 := Lib.hid hb2
    have E := Lib.hid hE
    clear hb2 hE
    go_wp2_with fail
    go_loop [4, 5] (fun h i => ∃ (b : Bool) (k : Nat), k ≤ a0.size ∧ i = .int .i64 k ∧ h = .bool b ∧ Hid (HasB b a0 k)) (fun _ i => a0.size - (intOf i).toNat)
    case atStart => exact ⟨false, 0, Nat.zero_le _, rfl, rfl, ⟨(fun h => by cases h), fun h => absurd h (hasL_zero a0)⟩⟩
    case round =>
      obtain ⟨b, k, hk, rfl, rfl, hr⟩ := hrel
      by_cases hlt : k < a0.size
      · have hsu := hasL_succ a0 k hlt
        by_cases hl : ltrI (a0[k].toNat : Int)
        · have H := Lib.hid fun w => let_y _ w hl
          have K : Hid (HasB true a0 (k + 1)) := ⟨fun _ => hsu.2 (.inr hl), fun _ => rfl⟩
          clear hsu hl
          go_wp2_with (first | (go_at_call 37; refine (H.out _).mono ?_; rintro e w' ⟨rfl, rfl⟩))
          go_round
          case rel => exact ⟨true, k + 1, by omega, by go_num, rfl, K⟩
          case measure => simp [intOf]; omega
        · have H := Lib.hid fun w => let_n _ w hl
          have K : Hid (HasB b a0 (k + 1)) := ⟨fun h => hasL_mono (by omega) (hr.out.1 h), fun h => hr.out.2 (by rcases hsu.1 h with h | h; exact h; contradiction)⟩
          clear hsu hl hr
          go_wp2_with (first | (go_at_call 37; refine (H.out _).mono ?_; rintro e w' ⟨rfl, rfl⟩))
          go_round
          case rel => exact ⟨b, k + 1, by omega, by go_num, rfl, K⟩
          case measure => simp [intOf]; omega
      · obtain rfl : k = a0.size := by omega
        rcases E.out with ⟨rfl, hn⟩ | ⟨hh, hG, hs⟩
        · obtain rfl : b = false := by
            cases b
            · rfl
            · exact absurd (hr.out.1 rfl) hn
          clear hr hn E
          rw [show strOfNums [95] = ⟨#[95]⟩ from rfl]
          go_wp2_with fail
          go_ret
          exact ⟨rfl, B2.out⟩
        · obtain rfl : b = true := hr.out.2 hh
          have hN := fun i h => num_at l i h (good_bytes hG)
          have hz := strOfNums_size l
          have hp := hG.pos
          have hne : strOfNums l ≠ ⟨#[95]⟩ := by
            intro e
            obtain ⟨⟨c, hc, hl⟩, _⟩ := hG
            have h95 : c = 95 := by
              have h0 : 0 < (strOfNums l).size := by omega
              obtain ⟨q, hq⟩ := hN 0 h0
              rw [List.getElem?_eq_getElem q, ← hq] at hc
              have h1 : (strOfNums l)[0]'h0 = 95 := by simp [e]; rfl
              rw [h1] at hc
              simpa using hc.symm
            subst h95
            unfold ltrI at hl
            omega
          obtain ⟨S, hS⟩ : ∃ S, S = strOfNums l := ⟨_, rfl⟩
          rw [← hS] at hN hz hne ⊢
          have HN := Lib.hid hN
          have HZ := Lib.hid hz
          have HG := Lib.hid hG
          have p1 : 0 < S.size := by omega
          have p2 : S.size ≤ a0.size := by omega
          have HH := Lib.hid hh
          have p3 : S.size - 1 < S.size := Nat.sub_lt p1 (Nat.succ_pos 0)
          have g0 : ltrI ((S[0]'p1).toNat : Int) := by
            obtain ⟨⟨c, hc, hl⟩, _⟩ := hG
            obtain ⟨q, hq⟩ := hN 0 p1
            rw [List.getElem?_eq_getElem q, ← hq] at hc
            cases hc
            exact hl
          have g1 : (((S[S.size - 1]'p3).toNat : Int) == 95) = false := by
            obtain ⟨_, ⟨c, hc, hl⟩, _⟩ := hG
            obtain ⟨q, hq⟩ := hN (S.size - 1) (by omega)
            rw [← hz, List.getElem?_eq_getElem q, ← hq] at hc
            cases hc
            unfold alnI ltrI digI at hl
            simp only [beq_eq_false_iff_ne, ne_eq]
            omega
          have g2 : ∀ k (h : k < S.size), (S[k].toNat : Int) = 95 ∨ alnI (S[k].toNat : Int) := by
            intro k h
            obtain ⟨q, hq⟩ := hN k h
            rw [hq]
            exact hG.2.2.1 _ (List.getElem_mem q)
          have g3 : ∀ k (h : k < S.size), (S[k].toNat : Int) = 95 → 0 < k ∧ ∃ h' : k - 1 < S.size, ((S[k - 1].toNat : Int) == 95) = false := by
            intro k h e
            have hk : 0 < k := by
              rcases Nat.eq_zero_or_pos k with rfl | hk
              · unfold ltrI at g0; omega
              · exact hk
            refine ⟨hk, by omega, ?_⟩
            obtain ⟨q, hq⟩ := hN k h
            obtain ⟨q1, hq1⟩ := hN (k - 1) (by omega)
            have hd := hG.2.2.2 (k - 1)
            rw [show k - 1 + 1 = k by omega, List.getElem?_eq_getElem q, List.getElem?_eq_getElem q1, ← hq, ← hq1, e] at hd
            simp only [beq_eq_false_iff_ne, ne_eq]
            intro e2
            exact hd rfl (by rw [e2])
          have H0 := Lib.hid fun w => let_y _ w g0
          have r1 : (S.toList == [95]) = false := by
            rw [beq_eq_false_iff_ne]
            intro e
            apply hne
            rw [Go.ByteArray.toList_eq] at e
            cases S with
            | mk d => exact congrArg ByteArray.mk (Array.toList_inj.1 e)
          have r2 : ¬ S = ByteArray.empty := by
            intro e
            rw [e] at p1
            exact absurd p1 (by decide)
          have r3 : ((S.size : Int) == 0) = false := by rw [beq_eq_false_iff_ne]; omega
          have r4 : ¬ a0.size < S.size := by omega
          have G2 := Lib.hid g2
          have G3 := Lib.hid g3
          clear hN hz hG hh hr hS E g0 g2 g3 hs hp hne
          go_wp2_with (first | (go_at_call 37; refine (H0.out _).mono ?_; rintro e w' ⟨rfl, rfl⟩))
          go_loop [6] (fun i => ∃ k : Nat, k ≤ S.size ∧ i = .int .i64 k) (fun i => S.size - (intOf i).toNat)
          case atStart => exact ⟨0, Nat.zero_le _, rfl⟩
          case round =>
            obtain ⟨k, hk2, rfl⟩ := hrel
            by_cases hlt2 : k < S.size
            · by_cases h95 : (S[k].toNat : Int) = 95
              · obtain ⟨hk0, hk1, hk3⟩ := G3.out k hlt2 h95
                have t1 : ((S[k].toNat : Int) == 95) = true := by simpa using h95
                have t0 : decide ((0 : Int) < (k : Int)) = true := by simp; omega
                clear h95
                go_wp2_with fail
                go_round
                case rel => exact ⟨k + 1, by omega, by go_num⟩
                case measure => simp [intOf]; omega
              · have ha : alnI (S[k].toNat : Int) := by rcases G2.out k hlt2 with h | h; contradiction; exact h
                have t1 : ((S[k].toNat : Int) == 95) = false := by simpa using h95
                have HA := Lib.hid fun w => aln_y _ w ha
                clear ha h95
                go_wp2_with (first | (go_at_call 38; refine (HA.out _).mono ?_; rintro e w' ⟨rfl, rfl⟩))
                go_round
                case rel => exact ⟨k + 1, by omega, by go_num⟩
                case measure => simp [intOf]; omega
            · obtain rfl : k = S.size := by omega
              go_wp2_with fail
              go_ret
              exact ⟨rfl, B2.out⟩
end Go.Proofs.Ytiejadamfgbidab.fnEnsureValidIdentifierShapeAndBound
