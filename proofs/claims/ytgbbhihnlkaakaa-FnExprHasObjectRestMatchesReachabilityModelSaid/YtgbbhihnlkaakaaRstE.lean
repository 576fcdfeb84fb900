/- The contract of 'exprHasObjectRest' on the built tree. No conditions beyond the hypotheses. -/
import Derived.Test.YtgbbhihnlkaakaaRstD
namespace Go.Proofs.Ytgbbhihnlkaakaa.rst
open Go.ChangeShapes Go.WideShapes Go.ChangeAt Go.RowKit Go.Mine
set_option linter.unusedVariables false
set_option linter.unusedSimpArgs false
set_option maxRecDepth 100000

set_option maxHeartbeats 1000000 in
theorem arr11 (K : Nat → Int) (pl : Nat → Nat) (RR : Nat → Prop) (js : List Nat) (p : Nat) (w : World) (v : Value) (h0 : w.cell? ⟨p, 0, none⟩ = some v) (hr : RRow w v 2 (encE K pl) js) (hn : js.length ≤ 65536)
    (hc : ∀ j, j ∈ js → ∀ w1, Below w.heap.size w w1 → Calls Try.prog 11 #[.agg #[ex K pl j, .int .i32 0]] w1 (Ans (RR j) w1)) :
    Calls Try.prog 11 #[.agg #[.iface 44 (.pointer (some ⟨p, 0, none⟩)), .int .i32 0]] w (Ans (∃ j, j ∈ js ∧ RR j) w) := by
  obtain ⟨a, cap, rfl, hrow⟩ := hr
  have hl := cell_lt h0
  have HC := Lib.hid hc
  have HR := Lib.hid hrow
  have B0 : Hid (Below w.heap.size w (w.alloc (.cells #[.iface 44 (.pointer (some ⟨p, 0, none⟩)), .int .i32 0] 34))) := Lib.hid ((Below.refl _ _).alloc (Nat.le_refl _) _)
  clear hc hrow
  obtain ⟨m, hm⟩ : ∃ m, m = js.length := ⟨_, rfl⟩
  rw [← hm] at h0 hn
  have HM := Lib.hid hm
  clear hm
  go_enter Try.func11, Try.ntmps11
  go_wp2_with fail
  go_loopw [35] (fun i wr => ∃ q : Nat, q ≤ m ∧ i = .int .i64 (q : Int) ∧ Hid (Below w.heap.size w wr) ∧ Hid (∀ idx j, idx < q → js[idx]? = some j → ¬ RR j)) (fun i _ => m - (intOf i).toNat)
  case atStart => exact ⟨0, Nat.zero_le _, rfl, B0, Lib.hid fun idx j h => by omega⟩
  case round =>
    obtain ⟨q, hq, rfl, B, NO⟩ := hrel
    clear B0
    by_cases hlt : q < m
    · have k1 : (q : Int) < (m : Int) := by omega
      obtain ⟨j, hj⟩ : ∃ j, js[q]? = some j := ⟨_, List.getElem?_eq_getElem (by rw [← HM.out]; exact hlt)⟩
      have HJ := Lib.hid hj
      obtain ⟨b, rfl, hb, hcells⟩ := HR.out q j hj
      have c0 := bcell B.out (hcells 0 (ex K pl j) rfl)
      have c1 := bcell B.out (hcells 1 (.int .i32 0) rfl)
      rw [Nat.add_zero] at c0
      have hb2 : b < wr.heap.size := Nat.lt_of_lt_of_le hb B.out.size
      have HX := Lib.hid (HC.out j (List.mem_of_getElem? hj))
      unfold ex at c0 HX
      obtain ⟨T, hT⟩ : ∃ T, T = ty (K j) := ⟨_, rfl⟩
      obtain ⟨P, hP⟩ : ∃ P, P = pl j := ⟨_, rfl⟩
      rw [← hT, ← hP] at c0 HX
      clear hcells hj hT hP hb
      go_upto_region 12 with (first | (go_at_call 11; (with_reducible refine (HX.out _ ?_).mono ?_); (exact B.out.alloc B.out.size _); rintro e w' ⟨bb, rfl, hbb, hw⟩; cases bb))
      all_goals
        have HB := Lib.hid (below2 (B.out.alloc B.out.size _) hw)
        have HA := Lib.hid hbb
        clear hbb hw
        go_wp2_with fail
      · go_roundw
        case rel =>
          refine ⟨q + 1, by omega, by go_num, HB, Lib.hid fun idx j' h1 h2 => ?_⟩
          by_cases e : idx = q
          · subst e
            rw [HJ.out] at h2
            injection h2 with h2
            subst h2
            simpa using HA.out
          · exact NO.out idx j' (by omega) h2
        case measure => simp [intOf]; omega
      · go_ret
        exact Ans.yes ⟨j, List.mem_of_getElem? HJ.out, by simpa using HA.out⟩ HB.out
    · have hqm : q = m := by omega
      subst hqm
      go_wp2_with fail
      go_ret
      refine Ans.no ?_ B.out
      rintro ⟨j, hj, hrj⟩
      obtain ⟨idx, hi, he⟩ := List.getElem_of_mem hj
      exact NO.out idx j (by rw [HM.out]; exact hi) (by rw [List.getElem?_eq_getElem hi, he]) hrj
set_option maxHeartbeats 1000000 in
theorem obj11 (K : Nat → Int) (pl : Nat → Nat) (sp : Nat → Bool) (RR : Nat → Prop) (js : List Nat) (p : Nat) (w : World) (v : Value) (h0 : w.cell? ⟨p, 0, none⟩ = some v) (hr : RRow w v 12 (encP K pl sp) js) (hn : js.length ≤ 65536)
    (hc : ∀ j, j ∈ js → ∀ w1, Below w.heap.size w w1 → Calls Try.prog 11 #[.agg #[ex K pl j, .int .i32 0]] w1 (Ans (RR j) w1)) :
    Calls Try.prog 11 #[.agg #[.iface 47 (.pointer (some ⟨p, 0, none⟩)), .int .i32 0]] w (Ans (∃ j, j ∈ js ∧ (sp j = true ∨ RR j)) w) := by
  obtain ⟨a, cap, rfl, hrow⟩ := hr
  have hl := cell_lt h0
  have HC := Lib.hid hc
  have HR := Lib.hid hrow
  have B0 : Hid (Below w.heap.size w (w.alloc (.cells #[.iface 47 (.pointer (some ⟨p, 0, none⟩)), .int .i32 0] 34))) := Lib.hid ((Below.refl _ _).alloc (Nat.le_refl _) _)
  clear hc hrow
  obtain ⟨m, hm⟩ : ∃ m, m = js.length := ⟨_, rfl⟩
  rw [← hm] at h0 hn
  have HM := Lib.hid hm
  clear hm
  go_enter Try.func11, Try.ntmps11
  go_wp2_with fail
  go_loopw [50] (fun i wr => ∃ q : Nat, q ≤ m ∧ i = .int .i64 (q : Int) ∧ Hid (Below w.heap.size w wr) ∧ Hid (∀ idx j, idx < q → js[idx]? = some j → sp j = false ∧ ¬ RR j)) (fun i _ => m - (intOf i).toNat)
  case atStart => exact ⟨0, Nat.zero_le _, rfl, B0, Lib.hid fun idx j h => by omega⟩
  case round =>
    obtain ⟨q, hq, rfl, B, NO⟩ := hrel
    clear B0
    by_cases hlt : q < m
    · have k1 : (q : Int) < (m : Int) := by omega
      obtain ⟨j, hj⟩ : ∃ j, js[q]? = some j := ⟨_, List.getElem?_eq_getElem (by rw [← HM.out]; exact hlt)⟩
      have HJ := Lib.hid hj
      obtain ⟨b, rfl, hb, hcells⟩ := HR.out q j hj
      have c0 := bcell B.out (hcells 0 _ rfl)
      have c1 := bcell B.out (hcells 1 _ rfl)
      have c2 := bcell B.out (hcells 2 _ rfl)
      have c3 := bcell B.out (hcells 3 _ rfl)
      have c4 := bcell B.out (hcells 4 _ rfl)
      have c5 := bcell B.out (hcells 5 _ rfl)
      have c6 := bcell B.out (hcells 6 _ rfl)
      have c7 := bcell B.out (hcells 7 _ rfl)
      have c8 := bcell B.out (hcells 8 _ rfl)
      have c9 := bcell B.out (hcells 9 _ rfl)
      have c10 := bcell B.out (hcells 10 _ rfl)
      have c11 := bcell B.out (hcells 11 _ rfl)
      rw [Nat.add_zero] at c0
      have hb2 : b < wr.heap.size := Nat.lt_of_lt_of_le hb B.out.size
      have HX := Lib.hid (HC.out j (List.mem_of_getElem? hj))
      unfold ex at c3 HX
      obtain ⟨T, hT⟩ : ∃ T, T = ty (K j) := ⟨_, rfl⟩
      obtain ⟨P, hP⟩ : ∃ P, P = pl j := ⟨_, rfl⟩
      rw [← hT, ← hP] at c3 HX
      obtain ⟨s, hs⟩ : ∃ s, s = sp j := ⟨_, rfl⟩
      rw [← hs] at c10
      have HS := Lib.hid hs
      clear hcells hj hT hP hb hs
      cases s with
      | true =>
        rw [if_pos rfl] at c10
        go_wp2_with fail
        go_ret
        exact Ans.yes ⟨j, List.mem_of_getElem? HJ.out, .inl HS.out.symm⟩ (B.out.alloc B.out.size _)
      | false =>
        rw [if_neg (by decide)] at c10
        go_upto_region 20 with (first | (go_at_call 11; (with_reducible refine (HX.out _ ?_).mono ?_); (exact B.out.alloc B.out.size _); rintro e w' ⟨bb, rfl, hbb, hw⟩; cases bb))
        all_goals
          have HB := Lib.hid (below2 (B.out.alloc B.out.size _) hw)
          have HA := Lib.hid hbb
          clear hbb hw
          go_wp2_with fail
        · go_roundw
          case rel =>
            refine ⟨q + 1, by omega, by go_num, HB, Lib.hid fun idx j' h1 h2 => ?_⟩
            by_cases e : idx = q
            · subst e
              rw [HJ.out] at h2
              injection h2 with h2
              subst h2
              exact ⟨HS.out.symm, by simpa using HA.out⟩
            · exact NO.out idx j' (by omega) h2
          case measure => simp [intOf]; omega
        · go_ret
          exact Ans.yes ⟨j, List.mem_of_getElem? HJ.out, .inr (by simpa using HA.out)⟩ HB.out
    · have hqm : q = m := by omega
      subst hqm
      go_wp2_with fail
      go_ret
      refine Ans.no ?_ B.out
      rintro ⟨j, hj, hrj⟩
      obtain ⟨idx, hi, he⟩ := List.getElem_of_mem hj
      have h := NO.out idx j (by rw [HM.out]; exact hi) (by rw [List.getElem?_eq_getElem hi, he])
      rcases hrj with hrj | hrj
      · rw [h.1] at hrj; cases hrj
      · exact h.2 hrj
theorem Ans.congr {A B : Prop} {w w' : World} {e : Ending} (h : Ans A w e w') (hAB : A ↔ B) : Ans B w e w' := by
  obtain ⟨b, h1, h2, h3⟩ := h
  exact ⟨b, h1, h2.trans hAB, h3⟩
/-- The contract. -/
theorem rest11 (n : Nat) (K : Nat → Int) (par : Nat → Option Nat) (slot : Nat → Int) (sp : Nat → Bool) (pl : Nat → Nat) (hn : n ≤ 65536) (hup : ∀ i p, par i = some p → p < i) (w : World) (hT : ∀ i, i < n → NodeT n K par slot sp pl w i) :
    ∀ (d i : Nat), n - i ≤ d → i < n → ∀ w1, Below w.heap.size w w1 → Calls Try.prog 11 #[.agg #[ex K pl i, .int .i32 0]] w1 (Ans (R n K par slot sp i) w1) := by
  intro d
  induction d with
  | zero => intro i h1 h2; omega
  | succ d ih =>
    intro i h1 h2 w1 hb
    have hi := (hT i h2).below hb
    have hih : ∀ j, j < n → par j = some i → ∀ w2, Below w1.heap.size w1 w2 → Calls Try.prog 11 #[.agg #[ex K pl j, .int .i32 0]] w2 (Ans (R n K par slot sp j) w2) := fun j hj hp w2 hb2 =>
      ih j (by have := hup j i hp; omega) hj w2 (below2 hb hb2)
    have hr := hi.rng
    have hk : K i = 0 ∨ K i = 1 ∨ K i = 2 ∨ K i = 3 ∨ K i = 4 := by omega
    rcases hk with hk | hk | hk | hk | hk
    · have e : ex K pl i = .iface 55 (.pointer (some ⟨pl i, 0, none⟩)) := by simp [ex, ty, hk]
      rw [e]
      refine (leaf11 _ _).mono fun e' w' h => h.congr ?_
      simp only [false_iff]
      exact noR (by omega) (by omega) (by omega)
    · have e : ex K pl i = .iface 44 (.pointer (some ⟨pl i, 0, none⟩)) := by simp [ex, ty, hk]
      rw [e]
      obtain ⟨v, js, c, r, m, hl⟩ := hi.arr hk
      refine (arr11 K pl (R n K par slot sp) js _ _ v c r (by omega) fun j hj => hih j ((m j).1 hj).1 ((m j).1 hj).2).mono fun e' w' h => h.congr ?_
      constructor
      · rintro ⟨j, hj, hrj⟩
        exact .arr hk ((m j).1 hj).1 ((m j).1 hj).2 hrj
      · intro h
        cases h with
        | arr k hj hp hr => exact ⟨_, (m _).2 ⟨hj, hp⟩, hr⟩
        | spread k => omega
        | obj k => omega
        | left k => omega
    · have e : ex K pl i = .iface 47 (.pointer (some ⟨pl i, 0, none⟩)) := by simp [ex, ty, hk]
      rw [e]
      obtain ⟨v, js, c, r, m, hl⟩ := hi.obj hk
      refine (obj11 K pl sp (R n K par slot sp) js _ _ v c r (by omega) fun j hj => hih j ((m j).1 hj).1 ((m j).1 hj).2).mono fun e' w' h => h.congr ?_
      constructor
      · rintro ⟨j, hj, hrj | hrj⟩
        · exact .spread hk ((m j).1 hj).1 ((m j).1 hj).2 hrj
        · exact .obj hk ((m j).1 hj).1 ((m j).1 hj).2 hrj
      · intro h
        cases h with
        | arr k => omega
        | spread k hj hp hs => exact ⟨_, (m _).2 ⟨hj, hp⟩, .inl hs⟩
        | obj k hj hp hr => exact ⟨_, (m _).2 ⟨hj, hp⟩, .inr hr⟩
        | left k => omega
    · have e : ex K pl i = .iface 51 (.pointer (some ⟨pl i, 0, none⟩)) := by simp [ex, ty, hk]
      rw [e]
      obtain ⟨c4, c1, hc⟩ := hi.asg hk
      rcases hc with ⟨j, h3, h4, h5, h6, h7⟩ | ⟨h3, h4⟩
      · refine (asg11 _ _ c4 c1 _ h6 _ (hih j h3 h4)).mono fun e' w' h => h.congr ?_
        constructor
        · intro hrj; exact .left hk h3 h4 h5 hrj
        · intro h
          cases h with
          | arr k => omega
          | spread k => omega
          | obj k => omega
          | left k hj hp hs hr =>
            have := h7 _ hj hp hs
            subst this
            exact hr
      · refine (asg11 _ _ c4 c1 _ h4 _ (fun w2 _ => nil11 w2)).mono fun e' w' h => h.congr ?_
        simp only [false_iff]
        intro h
        cases h with
        | arr k => omega
        | spread k => omega
        | obj k => omega
        | left k hj hp hs hr => exact h3 _ hj hp hs
    · have e : ex K pl i = .iface 51 (.pointer (some ⟨pl i, 0, none⟩)) := by simp [ex, ty, hk]
      rw [e]
      refine (add11 _ _ (hi.add hk)).mono fun e' w' h => h.congr ?_
      simp only [false_iff]
      exact noR (by omega) (by omega) (by omega)
end Go.Proofs.Ytgbbhihnlkaakaa.rst
