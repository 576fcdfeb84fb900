/- The walk of the law 'FnRecursiveSetStrictModeSettles': it returns true and leaves what was there as it was. No conditions. -/
import Derived.Test.YtiejadamfgbidabRows
import Derived.Test.YtiejadamfgbidabLib
import Derived.Test.YtiejadamfgbidabClones
import Derived.Test.YtiejadamfgbidabScopeB
import Derived.Test.YtiejadamfgbidabScopeC
import Derived.Deep.QuietTactic
import Derived.BigQuiet
import Derived.Outline
namespace Go.Proofs.Ytiejadamfgbidab.fnRecursiveSetStrictModeSettles
open Go.ChangeShapes Go.WideShapes Go.ChangeAt Go.RowKit Go.Mine scopes
set_option linter.unusedVariables false
set_option maxRecDepth 100000

theorem bytes_any (a0 : Option Addr) (l0 c0 : Nat) (a1 : Option Addr) (l1 c1 : Nat) (k1 k2 : Int) (w : World) (h0 : l0 ≤ maxLen) (h1 : l1 ≤ maxLen) :
    Calls Try.prog 29 #[.slice a0 l0 c0, .slice a1 l1 c1, .int .u8 k1, .int .u8 k2] w fun e w' => (∃ r : Bool, e = .returned (.bool r)) ∧ w = w' := by
  unfold maxLen at h0 h1
  go_enter Try.func29, Try.ntmps29
  go_wp2
  all_goals
    go_ret
    exact ⟨⟨_, rfl⟩, rfl⟩

def Ord (z : List Int) (n : Nat) : Prop := ∀ c, 1 ≤ c → c < n → 0 ≤ z.getD c 0 ∧ z.getD c 0 < (c : Int)
theorem ord_step {z : List Int} {i : Nat} {x : Int} (h : Ord z i) (hx : x = z.getD i 0) (h0 : 0 ≤ x) (h1 : x < i) : Ord z (i + 1) := by
  intro c hc1 hc2
  by_cases e : c = i
  · subst e; rw [← hx]; exact ⟨h0, h1⟩
  · exact h c hc1 (by omega)
def Shape (z : List Int) (l0 l1 : Nat) (w : World) (e : Ending) (w' : World) : Prop := ∃ r : Bool, e = .returned (.bool r) ∧ w = w' ∧ (r = true → l0 = l1 ∧ 1 ≤ l0 ∧ Ord z l0)
set_option maxHeartbeats 1000000 in
theorem shape32 (a0 : Option Addr) (l0 c0 : Nat) (z : List Int) (a1 : Option Addr) (l1 c1 : Nat) (w : World) (h0 : IntRow .i64 w a0 l0 c0 z) (hl0 : l0 ≤ 1048576) (hl1 : l1 ≤ 1048576) : Calls Try.prog 32 #[.slice a0 l0 c0, .slice a1 l1 c1] w (Shape z l0 l1 w) := by
  have H0 := Lib.hid h0
  clear h0
  by_cases hne : l0 = l1
  rotate_left
  · have q : ((l0 : Int) != (l1 : Int)) = true := by simp; omega
    clear hne
    go_enter Try.func32, Try.ntmps32
    go_wp2
    go_ret
    exact ⟨false, rfl, rfl, fun h => by cases h⟩
  subst hne
  have q : ((l0 : Int) != (l0 : Int)) = false := by simp
  by_cases h1 : l0 = 0
  · subst h1
    go_enter Try.func32, Try.ntmps32
    go_wp2
    go_ret
    exact ⟨false, rfl, rfl, fun h => by cases h⟩
  have q2 : ((l0 : Int) == 0) = false := by rw [beq_eq_false_iff_ne]; omega
  have h1' : 1 ≤ l0 := by omega
  clear h1
  go_enter Try.func32, Try.ntmps32
  go_wp2
  go_loop [5] (fun i => ∃ k : Nat, 1 ≤ k ∧ k ≤ l0 ∧ i = .int .i64 k ∧ Hid (Ord z k)) (fun i => l0 - (intOf i).toNat)
  case atStart => exact ⟨1, Nat.le_refl _, h1', rfl, fun c h1 h2 => by omega⟩
  case round =>
    obtain ⟨k, hk1, hk2, rfl, hO⟩ := hrel
    by_cases hlt : k < l0
    · obtain ⟨b, off, ha, hb, hc⟩ := H0.out.at hlt
      subst ha
      obtain ⟨x, hx⟩ : ∃ x, x = z.getD k 0 := ⟨_, rfl⟩
      rw [← hx] at hc
      have HX := Lib.hid hx
      clear hx
      have hc3 : x < 0 ∨ (0 ≤ x ∧ x < (k : Int)) ∨ (0 ≤ x ∧ (k : Int) ≤ x) := by omega
      rcases hc3 with h | ⟨h, h'⟩ | ⟨h, h'⟩
      · go_wp2
        go_ret
        exact ⟨false, rfl, rfl, fun h => by cases h⟩
      · have HO := Lib.hid (ord_step hO.out HX.out h h')
        go_wp2
        go_round
        case rel => exact ⟨k + 1, by omega, by omega, by go_num, HO⟩
        case measure => simp [intOf]; omega
      · go_wp2
        go_ret
        exact ⟨false, rfl, rfl, fun h => by cases h⟩
    · obtain rfl : k = l0 := by omega
      go_wp2
      go_ret
      exact ⟨true, rfl, rfl, fun _ => ⟨rfl, h1', hO.out⟩⟩

def modes (md : Nat → Int) (n : Nat) : List Value := (List.range n).map fun j => .int .u8 (md j)
theorem modes_len (md : Nat → Int) (n : Nat) : (modes md n).length = n := by simp [modes]
theorem modes_at (md : Nat → Int) (n j : Nat) (h : j < n) : (modes md n)[j]? = some (.int .u8 (md j)) := by simp [modes, h]
theorem settled {md md' : Nat → Int} {k : Int} {w w' : World} (hk : k ≠ 0) (h : (md 0 ≠ 0 ∧ w' = w ∧ md' = md) ∨ (md 0 = 0 ∧ md' 0 = k)) : md' 0 ≠ 0 := by
  rcases h with ⟨h1, _, rfl⟩ | ⟨_, h2⟩
  · exact h1
  · rw [h2]; exact hk

set_option maxHeartbeats 4000000 in
theorem walk (a0 : Option Addr) (len0 cap0 : Nat) (z0 : List Int) (a1 : Option Addr) (len1 cap1 : Nat) (z1 : List Int) (a2 : Int) (a3 : Int) (w : World) (w0 : IntRow .i64 w a0 len0 cap0 z0) (w1 : IntRow .u8 w a1 len1 cap1 z1) (w2 : (Lit.int .u8 a2).wf = true) (w3 : (Lit.int .u8 a3).wf = true) :
    Calls Try.prog 7 #[.slice a0 len0 cap0, .slice a1 len1 cap1, .int .u8 a2, .int .u8 a3] w fun e w' => e = .returned (.bool true) ∧ Below w.heap.size w w' := by
  have hm0 : len0 ≤ maxLen := Nat.le_trans w0.2.1 w0.2.2.1
  have hm1 : len1 ≤ maxLen := Nat.le_trans w1.2.1 w1.2.2.1
  have k0 := hm0
  have k1 := hm1
  unfold maxLen at k0 k1
  have R0 := Lib.hid w0
  have R1 := Lib.hid w1
  clear w0 w1 w2 w3
  by_cases hb : len0 ≤ 65536 ∧ len1 ≤ 65536
  rotate_left
  · have hc : 65536 < len0 ∨ (len0 ≤ 65536 ∧ 65536 < len1) := by omega
    clear hb
    rcases hc with h | ⟨h, h'⟩
    all_goals
      go_enter Try.func7, Try.ntmps7
      go_wp2_with fail
      refine (bytes_any _ _ _ _ _ _ _ _ _ hm0 hm1).mono ?_
      rintro e w' ⟨⟨r, rfl⟩, rfl⟩
      cases r
      all_goals
        go_wp2_with fail
        go_ret
        exact ⟨rfl, Below.refl _ _⟩
  obtain ⟨hb0, hb1⟩ := hb
  go_enter Try.func7, Try.ntmps7
  go_wp2_with fail
  refine (bytes_any _ _ _ _ _ _ _ _ _ hm0 hm1).mono ?_
  rintro e w' ⟨⟨r, rfl⟩, rfl⟩
  cases r with
  | false =>
    go_wp2_with fail
    go_ret
    exact ⟨rfl, Below.refl _ _⟩
  | true =>
    have hbig : 8 * (len0 : Int) + (len1 : Int) ≤ 1048576 := by omega
    go_wp2_with fail
    refine (clone30 _ _ _ z0 _ R0.out (by omega)).mono ?_
    rintro e wa ⟨u0, rfl, ra, y1, y2, hba⟩
    have RA := Lib.hid ra
    have BA := Lib.hid hba
    have RB := Lib.hid (R1.out.below hba)
    clear ra y1 y2 hba R0 R1
    go_wp2_with fail
    refine (clone31 _ _ _ z1 _ RB.out (by omega)).mono ?_
    rintro e wb ⟨u1, rfl, rb, y1, y2, hbb⟩
    have PB := Lib.hid rb
    have PA := Lib.hid (RA.out.below hbb)
    have BB := Lib.hid (below2 BA.out hbb)
    clear rb y1 y2 hbb RA RB BA
    go_wp2_with fail
    refine (shape32 _ _ _ z0 _ _ _ _ PA.out (by omega) (by omega)).mono ?_
    rintro e w' ⟨r, rfl, rfl, hsh⟩
    cases r with
    | false =>
      clear hsh
      go_wp2_with fail
      go_ret
      exact ⟨rfl, BB.out⟩
    | true =>
      obtain ⟨rfl, hn1, hord⟩ := hsh rfl
      have HO := Lib.hid hord
      clear hsh hord
      by_cases hk : a2 = 0
      · subst hk
        go_wp2_with fail
        go_ret
        exact ⟨rfl, BB.out⟩
      · have hk' : (a2 == 0) = false := by simpa using hk
        have HK := Lib.hid hk
        clear hk
        go_wp2_with fail
        refine (build33 len0 z0 z1 _ _ _ _ _ hn1 hb0 PA.out PB.out HO.out).mono ?_
        rintro e wc ⟨rfl, par, kv, hS⟩
        have r0 := row_cell hS (j := 0) (by omega)
        have S := Lib.hid (set34 _ len0 z0 par kv wb a2 (Nat.le_refl _) hb0 (fun c h1 h2 => (HO.out c h1 h2).2) (len0 - 0) 0 _ wc (Nat.le_refl _) (by omega) hS)
        clear hS
        unfold pt at S
        have hn0' : (0 : Int) < (len0 : Int) := by omega
        have hn0 : 0 < len0 := by omega
        go_wp2_with fail
        refine S.out.mono ?_
        rintro e wd ⟨rfl, md, hS, _, hd⟩
        have hm := settled (md := fun j => z1.getD j 0) HK.out hd
        have HM := Lib.hid hm
        have T := Lib.hid hS
        have r0' := row_cell hS (j := 0) (by omega)
        have hbd := hS.bel
        have BD := Lib.hid (below2 BB.out hbd)
        have hRd := hS.row.lt
        clear hS hd hm hbd r0 S
        have hmk := run_make_row' 22 5 (.int .u8 0) 1 Try.underlying22 (by kernel_rfl) rfl .i64 .i64 len0 (by omega) (by omega)
        have fs := fill_start (modes md len0) (.int .u8 0)
        rw [modes_len] at fs
        rw [fs] at hmk
        clear fs
        go_wp2_with fail
        go_loopw [12] (fun i wr => ∃ k : Nat, k ≤ len0 ∧ i = .int .i64 k ∧ wr = wd.alloc (.cells (fillTo (modes md len0) (.int .u8 0) k) 5)) (fun i _ => len0 - (intOf i).toNat)
        case atStart => exact ⟨0, Nat.zero_le _, rfl, rfl⟩
        case round =>
          obtain ⟨k, hk, rfl, rfl⟩ := hrel
          clear hmk r0'
          by_cases hlt : k < len0
          · have c1 := row_cell T.out hlt
            have c2 : wd.cell? ⟨wb.heap.size + 1 + k, 14, none⟩ = some (.int .u8 (md k)) := (T.out.sc k hlt).cell 14
            have c3 := (T.out.sc k hlt).lt
            have hsz := fill_size (modes md len0) (.int .u8 0) (k := k) (by rw [modes_len]; omega)
            have hfs := Lib.hid (fill_set (zs := modes md len0) (z := .int .u8 0) (v := .int .u8 (md k)) (k := k) (by rw [modes_len]; exact hlt) (modes_at _ _ _ hlt))
            rw [modes_len] at hsz
            go_wp2_with fail
            go_roundw
            case rel => exact ⟨k + 1, by omega, by go_num, by rw [hfs.out]⟩
            case measure => simp [intOf]; omega
          · obtain rfl : k = len0 := by omega
            have fe := fill_end (modes md k) (.int .u8 0)
            rw [modes_len] at fe
            rw [fe]
            clear fe
            have T2 := T.out.alloc (.cells (modes md k).toArray 5)
            have c0 := Blk.new wd (modes md k).toArray 5
            have BE := Lib.hid (below2 BD.out ((Below.refl _ _).alloc (Nat.le_refl _) (.cells (modes md k).toArray 5)))
            generalize wd.alloc (.cells (modes md k).toArray 5) = we at *
            have HT := Lib.hid T2
            have HC := Lib.hid c0
            have r0 := row_cell T2 (j := 0) (by omega)
            have S := Lib.hid (set34 _ k z0 par kv wb a3 (Nat.le_refl _) hb0 (fun c h1 h2 => (HO.out c h1 h2).2) (k - 0) 0 _ we (Nat.le_refl _) (by omega) T2)
            unfold pt at S
            clear T2 c0
            go_wp2_with fail
            refine S.out.mono ?_
            rintro e wf ⟨rfl, md2, _, _, hd⟩
            obtain rfl : wf = we := by
              rcases hd with ⟨_, h, _⟩ | ⟨h, _⟩
              · exact h
              · exact absurd h HM.out
            clear hd r0
            go_wp2_with fail
            go_loopw [13] (fun i wr => ∃ j q : Nat, j ≤ k ∧ i = .int .i64 j ∧ wr = wf.drewN q) (fun i _ => k - (intOf i).toNat)
            case atStart => exact ⟨0, 0, Nat.zero_le _, rfl, rfl⟩
            case round =>
              obtain ⟨j, q, hj, rfl, rfl⟩ := hrel
              by_cases hlt2 : j < k
              · have c1 := row_cell HT.out hlt2
                have c2 : wf.cell? ⟨wb.heap.size + 1 + j, 14, none⟩ = some (.int .u8 (md j)) := (HT.out.sc j hlt2).cell 14
                have c3 : wf.cell? ⟨wd.heap.size, j, none⟩ = some (.int .u8 (md j)) := by
                  rw [HC.out.cell]
                  simpa using modes_at md k j hlt2
                have t1 : (md j != md j) = false := by simp
                have t2 : (0 : Int) ≤ (j : Int) := by omega
                have t3 : (j : Int) < (k : Int) := by omega
                go_wp2_with fail
                go_quiet (fail)
                go_wp2_with fail
                go_roundw
                case rel => exact ⟨j + 1, _, by omega, by go_num, rfl⟩
                case measure => simp [intOf]; omega
              · obtain rfl : j = k := by omega
                go_wp2_with fail
                go_ret
                exact ⟨rfl, below_drewN BE.out _⟩
end Go.Proofs.Ytiejadamfgbidab.fnRecursiveSetStrictModeSettles
