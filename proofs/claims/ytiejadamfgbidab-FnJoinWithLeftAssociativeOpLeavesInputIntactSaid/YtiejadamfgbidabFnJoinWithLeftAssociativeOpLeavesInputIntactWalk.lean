/- The walk of the law 'FnJoinWithLeftAssociativeOpLeavesInputIntact': it returns true and leaves what was there as it was. No conditions. -/
import Derived.Test.YtiejadamfgbidabLeftB
import Derived.Test.YtiejadamfgbidabLeftC
import Derived.Test.YtiejadamfgbidabLeftE
import Derived.Test.YtiejadamfgbidabClones
namespace Go.Proofs.Ytiejadamfgbidab.fnJoinWithLeftAssociativeOpLeavesInputIntact
open Go.ChangeShapes Go.WideShapes Go.ChangeAt Go.RowKit Go.Mine left
set_option linter.unusedVariables false
set_option maxRecDepth 100000

theorem bytes9 (a0 : Int) (a1 : Option Addr) (l1 c1 : Nat) (a2 : Option Addr) (l2 c2 : Nat) (w : World) (h1 : l1 ≤ maxLen) (h2 : l2 ≤ maxLen) : Calls Try.prog 9 #[.int .u8 a0, .slice a1 l1 c1, .slice a2 l2 c2] w fun e w' => (∃ r : Bool, e = .returned (.bool r)) ∧ w = w' := by
  unfold maxLen at h1 h2
  go_enter Try.func9, Try.ntmps9
  go_wp2
  all_goals
    go_ret
    exact ⟨⟨_, rfl⟩, rfl⟩
def oth (op : Int) : Int := if op = 11 then 12 else 11
theorem other11 (op : Int) (w : World) : Calls Try.prog 11 #[.int .u8 op] w fun e w' => e = .returned (.int .u8 (oth op)) ∧ w = w' := by
  by_cases h : op = 11
  · subst h
    go_enter Try.func11, Try.ntmps11
    go_wp2
    go_ret
    exact ⟨rfl, rfl⟩
  · have hb : (op == 11) = false := by simpa using h
    have e := Lib.hid (show oth op = 11 by simp [oth, h])
    clear h
    go_enter Try.func11, Try.ntmps11
    go_wp2
    go_ret
    exact ⟨ret_int e.out.symm, rfl⟩
theorem parse_small {zs : List Int} {base : Nat} {op other : Int} (hz : zs.length ≤ 4096) (hB : base ≤ 8192) : ∀ {f pos : Nat} {s : S} {n : Nat}, parse zs base op other f pos = some (s, n) → s.small
  | 0, _, _, _, h => by simp [parse] at h
  | f + 1, pos, s, n, h => by
    unfold parse at h
    by_cases h1 : zs.length ≤ pos
    · rw [if_pos h1] at h; cases h
    · rw [if_neg h1] at h
      by_cases h2 : zs.getD pos 0 = 0
      · rw [if_pos h2] at h
        simp at h
        obtain ⟨rfl, _⟩ := h
        show pos + base < 12300
        omega
      · rw [if_neg h2] at h
        by_cases h3 : 3 < zs.getD pos 0
        · rw [if_pos h3] at h; cases h
        · rw [if_neg h3] at h
          cases k1 : parse zs base op other f (pos + 1) with
          | none => rw [k1] at h; cases h
          | some x =>
            obtain ⟨l, n1⟩ := x
            rw [k1] at h
            simp only at h
            cases k2 : parse zs base op other f n1 with
            | none => rw [k2] at h; cases h
            | some y =>
              obtain ⟨r, n2⟩ := y
              rw [k2] at h
              simp at h
              obtain ⟨rfl, _⟩ := h
              exact ⟨parse_small hz hB k1, parse_small hz hB k2⟩
set_option maxHeartbeats 8000000 in
theorem main (op : Int) (a1 : Option Addr) (n1 c1 : Nat) (z1 : List Int) (a2 : Option Addr) (n2 c2 : Nat) (z2 : List Int) (w : World) (r1 : IntRow .u8 w a1 n1 c1 z1) (r2 : IntRow .u8 w a2 n2 c2 z2) (h1 : n1 ≤ 4096) (h2 : n2 ≤ 4096) (ho : 11 ≤ op) (ho' : op ≤ 35) :
    Calls Try.prog 3 #[.int .u8 op, .slice a1 n1 c1, .slice a2 n2 c2] w fun e w' => e = .returned (.bool true) ∧ Below w.heap.size w w' := by
  have hm1 : n1 ≤ maxLen := Nat.le_trans r1.2.1 r1.2.2.1
  have hm2 : n2 ≤ maxLen := Nat.le_trans r2.2.1 r2.2.2.1
  have R1 := Lib.hid r1
  have R2 := Lib.hid r2
  have hz1 := Lib.hid r1.1
  have hz2 := Lib.hid r2.1
  clear r1 r2
  go_enter Try.func3, Try.ntmps3
  go_wp2_with fail
  refine (bytes9 _ _ _ _ _ _ _ _ hm1 hm2).mono ?_
  rintro e w' ⟨⟨r, rfl⟩, rfl⟩
  clear hm1 hm2
  cases r with
  | false =>
    go_wp2_with fail
    go_ret
    exact ⟨rfl, Below.refl _ _⟩
  | true =>
    go_wp2_with fail
    refine (clone10 _ _ _ z1 _ R1.out (by omega)).mono ?_
    rintro e wa ⟨u1, rfl, ra, y1, y2, hba⟩
    have RA := Lib.hid ra
    have BA := Lib.hid hba
    have RB := Lib.hid (R2.out.below hba)
    clear ra y1 y2 hba R1 R2
    go_wp2_with fail
    refine (clone10 _ _ _ z2 _ RB.out (by omega)).mono ?_
    rintro e wb ⟨u2, rfl, rb, y1, y2, hbb⟩
    have PB := Lib.hid rb
    have PA := Lib.hid (RA.out.below hbb)
    have BB := Lib.hid (below2 BA.out hbb)
    clear rb y1 y2 hbb RA RB BA
    go_wp2_with fail
    refine (other11 _ _).mono ?_
    rintro e w' ⟨rfl, rfl⟩
    obtain ⟨ot, hot⟩ : ∃ ot, ot = oth op := ⟨_, rfl⟩
    rw [← hot]
    clear hot
    have GA := Lib.hid fun w' (hb : Below wb.heap.size wb w') => parse12 u1 n1 n1 z1 0 op ot h1 (by omega) (n1 + 1) 0 w' (PA.out.below hb) (Nat.zero_le _) (by omega)
    have GB := Lib.hid fun w' (hb : Below wb.heap.size wb w') => parse12 u2 n2 n2 z2 8192 op ot h2 (by omega) (n2 + 1) 0 w' (PB.out.below hb) (Nat.zero_le _) (by omega)
    unfold args at GA GB
    cases kA : parse z1 0 op ot (n1 + 1) 0 with
    | none =>
      rw [kA] at GA
      clear kA
      go_wp2_with fail
      refine (GA.out _ (Below.refl _ _)).mono ?_
      rintro e w3 ⟨rfl, hb3⟩
      have B3 := Lib.hid hb3
      clear hb3
      go_wp2_with fail
      go_ret
      exact ⟨rfl, balloc (below2 BB.out B3.out) _⟩
    | some xA =>
      obtain ⟨sA, nA⟩ := xA
      have smA := Lib.hid (parse_small (by rw [hz1.out]; exact h1) (by omega) kA)
      obtain ⟨bA0, bA⟩ := parse_bd kA
      have bA' : nA ≤ 4096 := by rw [hz1.out] at bA; omega
      clear bA bA0
      rw [kA] at GA
      clear kA
      go_wp2_with fail
      refine (GA.out _ (Below.refl _ _)).mono ?_
      rintro e w3 ⟨tA, shA, repA, rfl, hb3⟩
      have SA := Lib.hid shA
      have PRA := Lib.hid repA
      have B3 := Lib.hid hb3
      clear shA repA hb3
      by_cases hnA : nA = n1
      rotate_left
      · have hq : ((nA : Int) != (n1 : Int)) = true := by simp; omega
        clear hnA
        go_wp2_with fail
        go_ret
        exact ⟨rfl, balloc (below2 BB.out B3.out) _⟩
      have hqA : ((nA : Int) != (n1 : Int)) = false := by simp; omega
      clear hnA
      cases kB : parse z2 8192 op ot (n2 + 1) 0 with
      | none =>
        rw [kB] at GB
        clear kB
        go_wp2_with fail
        refine (GB.out _ (balloc B3.out _)).mono ?_
        rintro e w4 ⟨rfl, hb4⟩
        have B4 := Lib.hid hb4
        clear hb4
        go_wp2_with fail
        go_ret
        exact ⟨rfl, balloc (below2 (balloc (below2 BB.out B3.out) _) B4.out) _⟩
      | some xB =>
        obtain ⟨sB, nB⟩ := xB
        have smB := Lib.hid (parse_small (by rw [hz2.out]; exact h2) (by omega) kB)
        obtain ⟨bB0, bB⟩ := parse_bd kB
        have bB' : nB ≤ 4096 := by rw [hz2.out] at bB; omega
        clear bB bB0
        rw [kB] at GB
        clear kB
        go_wp2_with fail
        refine (GB.out _ (balloc B3.out _)).mono ?_
        rintro e w4 ⟨tB, shB, repB, rfl, hb4⟩
        have SB := Lib.hid shB
        have PRB := Lib.hid repB
        have B4 := Lib.hid (below2 (balloc B3.out _) hb4)
        have T4 := Lib.hid (below2 (balloc (Below.refl w3.heap.size w3) _) hb4)
        have x0 : w4.cell? ⟨w3.heap.size, 0, none⟩ = some (.iface tA.ty (.pointer (some ⟨tA.at_, 0, none⟩))) := bcell hb4 (by simp [go_sem])
        have x1 : w4.cell? ⟨w3.heap.size, 1, none⟩ = some (.int .i32 (tA.n : Int)) := bcell hb4 (by simp [go_sem])
        clear shB repB hb4
        by_cases hnB : nB = n2
        rotate_left
        · have hq : ((nB : Int) != (n2 : Int)) = true := by simp; omega
          clear hnB x0 x1
          go_wp2_with fail
          go_ret
          exact ⟨rfl, balloc (below2 BB.out B4.out) _⟩
        have hqB : ((nB : Int) != (n2 : Int)) = false := by simp; omega
        clear hnB
        go_wp2_with fail
        refine (GA.out _ (balloc B4.out _)).mono ?_
        rintro e w5 ⟨tA2, shA2, repA2, rfl, hb5⟩
        have SA2 := Lib.hid shA2
        have PRA2 := Lib.hid repA2
        have T5 := Lib.hid (below2 (balloc (Below.refl w4.heap.size w4) _) hb5)
        have B5 := Lib.hid (below2 B4.out T5.out)
        have x0' := bcell T5.out x0
        have x1' := bcell T5.out x1
        have y0 : w5.cell? ⟨w4.heap.size, 0, none⟩ = some (.iface tB.ty (.pointer (some ⟨tB.at_, 0, none⟩))) := bcell hb5 (by simp [go_sem])
        have y1 : w5.cell? ⟨w4.heap.size, 1, none⟩ = some (.int .i32 (tB.n : Int)) := bcell hb5 (by simp [go_sem])
        clear shA2 repA2 hb5 x0 x1
        go_wp2_with fail
        refine (GB.out _ (balloc B5.out _)).mono ?_
        rintro e w6 ⟨tB2, shB2, repB2, rfl, hb6⟩
        have SB2 := Lib.hid shB2
        have PRB2 := Lib.hid repB2
        have T6 := Lib.hid (below2 (balloc (Below.refl w5.heap.size w5) _) hb6)
        have x0 := bcell T6.out x0'
        have x1 := bcell T6.out x1'
        have y0' := bcell T6.out y0
        have y1' := bcell T6.out y1
        have v0 : w6.cell? ⟨w5.heap.size, 0, none⟩ = some (.iface tA2.ty (.pointer (some ⟨tA2.at_, 0, none⟩))) := bcell hb6 (by simp [go_sem])
        have v1 : w6.cell? ⟨w5.heap.size, 1, none⟩ = some (.int .i32 (tA2.n : Int)) := bcell hb6 (by simp [go_sem])
        have B6 := Lib.hid (below2 B5.out T6.out)
        have l3 := cell_lt x0
        have l4 := cell_lt y0'
        have l5 := cell_lt v0
        have QA := Lib.hid (E.rep_below T6.out (E.rep_below T5.out (E.rep_below T4.out PRA.out)))
        have QB := Lib.hid (E.rep_below T6.out (E.rep_below T5.out PRB.out))
        have QA2 := Lib.hid (E.rep_below T6.out PRA2.out)
        have SAA := Lib.hid (SA.out.trans SA2.out.symm)
        have SBB := Lib.hid (SB.out.trans SB2.out.symm)
        have mA := Lib.hid (show tA.sh.small by rw [SA.out]; exact smA.out)
        have mB := Lib.hid (show tB.sh.small by rw [SB.out]; exact smB.out)
        have KJ := Lib.hid fun w' (hb : Below w6.heap.size w6 w') => join13 op (by omega) (by omega) tB tA w' (E.rep_below hb QA.out) (E.rep_below hb QB.out)
        have KA := Lib.hid fun w' (hb : Below w6.heap.size w6 w') => same14 tA tA2 w' (E.rep_below hb QA.out) (E.rep_below hb QA2.out) SAA.out mA.out
        have KB := Lib.hid fun w' (hb : Below w6.heap.size w6 w') => same14 tB tB2 w' (E.rep_below hb QB.out) (E.rep_below hb PRB2.out) SBB.out mB.out
        clear hb6 x0' x1' y0 y1 shB2 repB2 SA SA2 SB SB2 smA smB mA mB SAA SBB QA QB QA2 PRA PRB PRA2 PRB2 T4 T5 T6 GA GB
        go_wp2_with fail
        refine (KJ.out _ (balloc (Below.refl _ _) _)).mono ?_
        rintro e w7 ⟨p7, l7, rfl, hb7⟩
        have T7 := Lib.hid (below2 (balloc (Below.refl w6.heap.size w6) _) hb7)
        have x0' := bcell T7.out x0
        have x1' := bcell T7.out x1
        have y0 := bcell T7.out y0'
        have y1 := bcell T7.out y1'
        have v0' := bcell T7.out v0
        have v1' := bcell T7.out v1
        have s0 : w7.cell? ⟨w6.heap.size, 0, none⟩ = some (.iface tB2.ty (.pointer (some ⟨tB2.at_, 0, none⟩))) := bcell hb7 (by simp [go_sem])
        have s1 : w7.cell? ⟨w6.heap.size, 1, none⟩ = some (.int .i32 (tB2.n : Int)) := bcell hb7 (by simp [go_sem])
        have m3 := cell_lt x0'
        have m4 := cell_lt y0
        have m5 := cell_lt v0'
        have m6 := cell_lt s0
        clear hb7 x0 x1 y0' y1' v0 v1 KJ
        go_wp2_with fail
        refine (KA.out _ (balloc T7.out _)).mono ?_
        rintro e w8 ⟨rfl, hb8⟩
        have T8 := Lib.hid (below2 (balloc (Below.refl w7.heap.size w7) _) hb8)
        have y0' := bcell T8.out y0
        have y1' := bcell T8.out y1
        have s0' := bcell T8.out s0
        have s1' := bcell T8.out s1
        clear hb8 x0' x1' y0 y1 v0' v1' s0 s1 KA
        go_wp2_with fail
        refine (KB.out _ (below2 T7.out T8.out)).mono ?_
        rintro e w9 ⟨rfl, hb9⟩
        have B9 := Lib.hid (below2 (below2 (below2 (below2 BB.out B6.out) T7.out) T8.out) hb9)
        clear hb9
        go_wp2_with fail
        go_ret
        exact ⟨rfl, B9.out⟩

set_option maxHeartbeats 1000000 in
theorem walk (a0 : Int) (a1 : Option Addr) (len1 cap1 : Nat) (z1 : List Int) (a2 : Option Addr) (len2 cap2 : Nat) (z2 : List Int) (w : World) (w0 : (Lit.int .u8 a0).wf = true) (w1 : IntRow .u8 w a1 len1 cap1 z1) (w2 : IntRow .u8 w a2 len2 cap2 z2) :
    Calls Try.prog 3 #[.int .u8 a0, .slice a1 len1 cap1, .slice a2 len2 cap2] w fun e w' => e = .returned (.bool true) ∧ Below w.heap.size w w' := by
  obtain ⟨g0, g1⟩ := bounds_u8 w0
  have hm1 : len1 ≤ maxLen := Nat.le_trans w1.2.1 w1.2.2.1
  have hm2 : len2 ≤ maxLen := Nat.le_trans w2.2.1 w2.2.2.1
  have k1 := hm1
  have k2 := hm2
  unfold maxLen at k1 k2
  by_cases h : len1 ≤ 4096 ∧ len2 ≤ 4096 ∧ 11 ≤ a0 ∧ a0 ≤ 35
  · exact main a0 a1 len1 cap1 z1 a2 len2 cap2 z2 w w1 w2 h.1 h.2.1 h.2.2.1 h.2.2.2
  · have hc : 4096 < len1 ∨ (len1 ≤ 4096 ∧ 4096 < len2) ∨ (len1 ≤ 4096 ∧ len2 ≤ 4096 ∧ a0 < 11) ∨ (len1 ≤ 4096 ∧ len2 ≤ 4096 ∧ 11 ≤ a0 ∧ 35 < a0) := by omega
    clear h w0 w1 w2
    rcases hc with h1 | ⟨h1, h2⟩ | ⟨h1, h2, h3⟩ | ⟨h1, h2, h3, h4⟩
    all_goals
      go_enter Try.func3, Try.ntmps3
      go_wp2_with fail
      refine (bytes9 _ _ _ _ _ _ _ _ hm1 hm2).mono ?_
      rintro e w' ⟨⟨r, rfl⟩, rfl⟩
      cases r
      all_goals
        go_wp2_with fail
        go_ret
        exact ⟨rfl, Below.refl _ _⟩
end Go.Proofs.Ytiejadamfgbidab.fnJoinWithLeftAssociativeOpLeavesInputIntact
