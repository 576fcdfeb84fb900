/- The walk of the law 'FnExprHasObjectRestMatchesReachabilityModel': it returns true and leaves what was there as it was. No conditions. -/
import Derived.Test.YtgbbhihnlkaakaaRstJ
import Derived.Outline
namespace Go.Proofs.Ytgbbhihnlkaakaa.fnExprHasObjectRestMatchesReachabilityModel
open Go.ChangeShapes Go.WideShapes Go.ChangeAt Go.RowKit Go.Mine rst
set_option linter.unusedVariables false
set_option linter.unusedSimpArgs false
set_option maxRecDepth 100000

theorem bytes_any (a0 a1 a2 : Option Addr) (l0 c0 l1 c1 l2 c2 : Nat) (w : World) (h0 : l0 ≤ maxLen) (h1 : l1 ≤ maxLen) (h2 : l2 ≤ maxLen) :
    Calls Try.prog 4 #[.slice a0 l0 c0, .slice a1 l1 c1, .slice a2 l2 c2] w fun e w' => (∃ r : Bool, e = .returned (.bool r)) ∧ w = w' := by
  unfold maxLen at h0 h1 h2
  by_cases q0 : l0 ≤ 1048576
  · by_cases q1 : l1 ≤ 1048576
    · by_cases q2 : l2 ≤ 1048576
      · go_enter Try.func4, Try.ntmps4
        go_wp2
        all_goals
          go_ret
          exact ⟨⟨_, rfl⟩, rfl⟩
      · go_enter Try.func4, Try.ntmps4
        go_wp2
        all_goals
          go_ret
          exact ⟨⟨_, rfl⟩, rfl⟩
    · go_enter Try.func4, Try.ntmps4
      go_wp2
      all_goals
        go_ret
        exact ⟨⟨_, rfl⟩, rfl⟩
  · go_enter Try.func4, Try.ntmps4
    go_wp2
    all_goals
      go_ret
      exact ⟨⟨_, rfl⟩, rfl⟩
theorem bal {w w' : World} (h : Below w.heap.size w w') (o : Obj) : Below w.heap.size w (w'.alloc o) := h.alloc h.size o
/-- The wrapper. -/
theorem zz7 (x : Value) (A : Prop) (w : World) (hc : ∀ w1, Below w.heap.size w w1 → Calls Try.prog 11 #[.agg #[x, .int .i32 0]] w1 (Ans A w1)) :
    Calls Try.prog 7 #[.agg #[x, .int .i32 0]] w (Ans A w) := by
  have HC := Lib.hid hc
  clear hc
  go_enter Try.func7, Try.ntmps7
  go_wp2_with fail
  refine (HC.out _ (by first | exact Below.refl _ _ | exact (Below.refl _ _).alloc (Nat.le_refl _) _)).mono ?_
  rintro e w' ⟨b, rfl, hb, hw⟩
  have HB := Lib.hid hw
  have HR := Lib.hid hb
  clear hb hw
  go_wp2_with fail
  go_ret
  exact ⟨b, rfl, HR.out, by first | exact HB.out | exact below2 ((Below.refl _ _).alloc (Nat.le_refl _) _) HB.out⟩
set_option maxHeartbeats 1000000 in
theorem walk (a0 : Option Addr) (len0 cap0 : Nat) (z0 : List Int) (a1 : Option Addr) (len1 cap1 : Nat) (z1 : List Int) (a2 : Option Addr) (len2 cap2 : Nat) (z2 : List Bool) (w : World) (w0 : IntRow .u8 w a0 len0 cap0 z0) (w1 : IntRow .i32 w a1 len1 cap1 z1) (w2 : BoolRow w a2 len2 cap2 z2) :
    Calls Try.prog 3 #[.slice a0 len0 cap0, .slice a1 len1 cap1, .slice a2 len2 cap2] w fun e w' => e = .returned (.bool true) ∧ Below w.heap.size w w' := by
  have m0 : len0 ≤ maxLen := Nat.le_trans w0.2.1 w0.2.2.1
  have m1 : len1 ≤ maxLen := Nat.le_trans w1.2.1 w1.2.2.1
  have m2 : len2 ≤ maxLen := Nat.le_trans w2.2.1 w2.2.2.1
  have BY := Lib.hid (bytes_any a0 a1 a2 len0 cap0 len1 cap1 len2 cap2 w m0 m1 m2)
  unfold maxLen at m0 m1 m2
  have H0 := Lib.hid w0
  have H1 := Lib.hid w1
  have H2 := Lib.hid w2
  clear w0 w1 w2
  go_enter Try.func3, Try.ntmps3
  go_wp2_with fail
  refine BY.out.mono ?_
  rintro e w' ⟨⟨r, rfl⟩, rfl⟩
  cases r with
  | false =>
    go_wp2_with fail
    go_ret
    exact ⟨rfl, Below.refl _ _⟩
  | true =>
    clear BY
    by_cases q0 : len0 ≤ 65536
    case neg =>
      go_wp2_with fail
      go_ret
      exact ⟨rfl, Below.refl _ _⟩
    by_cases q1 : len1 ≤ 65536
    case neg =>
      go_wp2_with fail
      go_ret
      exact ⟨rfl, Below.refl _ _⟩
    by_cases q2 : len2 ≤ 65536
    case neg =>
      go_wp2_with fail
      go_ret
      exact ⟨rfl, Below.refl _ _⟩
    go_wp2_with fail
    refine (shape5 a0 len0 cap0 z0 a1 len1 cap1 z1 w H0.out H1.out q0).mono ?_
    rintro e wa ⟨rfl, par, slot, hs, r1, r2, ba⟩
    have HS := Lib.hid hs
    have R1 := Lib.hid r1
    have R2 := Lib.hid r2
    have BA := Lib.hid ba
    clear hs r1 r2 ba
    go_wp2_with fail
    by_cases hn : len0 = 0
    · subst hn
      refine (build0 a0 cap0 _ _ z0 par slot (fun _ => false) a2 len2 cap2 wa).mono ?_
      rintro e wb ⟨bb, hb | ⟨hb, _⟩⟩
      case inr => omega
      obtain ⟨_, rfl⟩ := hb
      have BB := Lib.hid bb
      have BX := Lib.hid (below2 BA.out (bal bb (.cells #[.nilIface, .int .i32 0] 34)))
      have B2 := Lib.hid (bal bb (.cells #[.nilIface, .int .i32 0] 34))
      clear bb
      go_wp2_with fail
      refine (zz7 .nilIface False _ (fun w1 _ => nil11 w1)).mono ?_
      rintro e wc ⟨b, rfl, hb, bc⟩
      have hb : b = false := by simpa using hb
      subst hb
      have BC := Lib.hid (below2 B2.out bc)
      clear bc
      go_wp2_with fail
      refine (model8 a0 0 cap0 z0 _ _ par slot a2 len2 cap2 z2 wc (H0.out.below (below2 BA.out BC.out)) (R1.out.below BC.out) (R2.out.below BC.out) (H2.out.below (below2 BA.out BC.out)) q0 HS.out).mono ?_
      rintro e wd ⟨b, rfl, hb, bd⟩
      have hb : b = false := by
        cases b with
        | false => rfl
        | true =>
          obtain ⟨i, p, f, h0, hi, _⟩ := hb.1 rfl
          omega
      subst hb
      have BD := Lib.hid (below2 (below2 BA.out BC.out) bd)
      clear bd
      go_wp2_with fail
      go_ret
      exact ⟨rfl, BD.out⟩
    · refine (build6 a0 len0 cap0 z0 _ _ par slot a2 len2 cap2 z2 wa (H0.out.below BA.out) R1.out R2.out (H2.out.below BA.out) q0 HS.out (by omega)).mono ?_
      rintro e wb ⟨bb, hb | ⟨hb, pl, rfl, hT⟩⟩
      · omega
      have HT := Lib.hid hT
      have RS := Lib.hid fun w1 (hw : Below wb.heap.size wb w1) => rest11 len0 (Ks z0) (pon len0 par) slot (fun i => z2.getD i false) pl q0 (pon_up HS.out) wb HT.out len0 0 (by omega) (by omega) w1 hw
      obtain ⟨T, hT⟩ : ∃ T, T = ty (Ks z0 0) := ⟨_, rfl⟩
      obtain ⟨Q, hQ⟩ : ∃ Q, Q = pl 0 := ⟨_, rfl⟩
      have HEX : ex (Ks z0) pl 0 = .iface T (.pointer (some ⟨Q, 0, none⟩)) := by rw [hT, hQ]; rfl
      rw [HEX] at RS ⊢
      have B2 := Lib.hid (bal bb (.cells #[.iface T (.pointer (some ⟨Q, 0, none⟩)), .int .i32 0] 34))
      have B3 := Lib.hid (bal (Below.refl _ wb) (.cells #[.iface T (.pointer (some ⟨Q, 0, none⟩)), .int .i32 0] 34))
      clear bb hb HT hT hQ HEX
      go_wp2_with fail
      refine (zz7 _ _ _ (fun w1 hw => RS.out w1 (below2 B3.out hw))).mono ?_
      rintro e wc ⟨b, rfl, hb, bc⟩
      have HB := Lib.hid (hb.trans (same (n := len0) (k := Ks z0) (slot := slot) (sp := fun i => z2.getD i false) (pon_up HS.out)))
      have BC := Lib.hid (below2 B2.out bc)
      clear bc hb
      go_wp2_with fail
      refine (model8 a0 len0 cap0 z0 _ _ par slot a2 len2 cap2 z2 wc (H0.out.below (below2 BA.out BC.out)) (R1.out.below BC.out) (R2.out.below BC.out) (H2.out.below (below2 BA.out BC.out)) q0 HS.out).mono ?_
      rintro e wd ⟨b2, rfl, hb, bd⟩
      have he : b = b2 := by
        have h := HB.out.trans hb.symm
        cases b <;> cases b2 <;> simp_all
      subst he
      have BD := Lib.hid (below2 (below2 BA.out BC.out) bd)
      clear bd hb
      cases b
      all_goals
        go_wp2_with fail
        go_ret
        exact ⟨rfl, BD.out⟩
end Go.Proofs.Ytgbbhihnlkaakaa.fnExprHasObjectRestMatchesReachabilityModel
