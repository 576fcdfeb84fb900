/- The walk of the law 'FnForEachIdentifierBindingIgnoresWrapping': it returns true and leaves what was there as it was. No conditions. -/
import Derived.Test.YtiejadamfgbidabFeH
import Derived.Lib.Builder
import Derived.Deep.QuietTactic
import Derived.BigQuiet
namespace Go.Proofs.Ytiejadamfgbidab.fnForEachIdentifierBindingIgnoresWrapping
open Go.ChangeShapes Go.WideShapes Go.ChangeAt Go.RowKit Go.Mine fore
open find (Kp ptr lv)
set_option linter.unusedVariables false
set_option linter.unusedSimpArgs false
set_option maxRecDepth 100000

theorem bytes23 (a0 : Option Addr) (l0 c0 : Nat) (w : World) (h0 : l0 ≤ maxLen) : Calls Try.prog 23 #[.slice a0 l0 c0] w fun e w' => (∃ r : Bool, e = .returned (.bool r)) ∧ w = w' := by
  unfold maxLen at h0
  go_enter Try.func23, Try.ntmps23
  go_wp2
  all_goals
    go_ret
    exact ⟨⟨_, rfl⟩, rfl⟩
set_option maxHeartbeats 8000000 in
theorem walk (a0 : Option Addr) (len0 cap0 : Nat) (z0 : List Int) (w : World) (w0 : IntRow .u8 w a0 len0 cap0 z0) :
    Calls Try.prog 6 #[.slice a0 len0 cap0] w fun e w' => e = .returned (.bool true) ∧ Below w.heap.size w w' := by
  have hm0 : len0 ≤ maxLen := Nat.le_trans w0.2.1 w0.2.2.1
  have m0 := hm0
  unfold maxLen at m0
  have H0 := Lib.hid w0
  clear w0
  go_enter Try.func6, Try.ntmps6
  go_wp2_with fail
  refine (bytes23 _ _ _ _ hm0).mono ?_
  rintro e w' ⟨⟨r, rfl⟩, rfl⟩
  cases r with
  | false =>
    go_wp2_with fail
    go_ret
    exact ⟨rfl, Below.refl _ _⟩
  | true =>
    by_cases q0 : len0 ≤ 65536
    case neg =>
      go_wp2_with fail
      go_ret
      exact ⟨rfl, Below.refl _ _⟩
    by_cases q1 : 0 < len0
    case neg =>
      obtain rfl : len0 = 0 := by omega
      go_wp2_with fail
      go_ret
      exact ⟨rfl, Below.refl _ _⟩
    have C24 := Lib.hid (clone24 a0 len0 cap0 z0 w H0.out (by omega))
    go_wp2_with fail
    refine C24.out.mono ?_
    rintro e w1 ⟨a1, rfl, hr1, hni, hnew, hb1⟩
    have R1 := Lib.hid hr1
    have B1 := Lib.hid hb1
    obtain ⟨b, off, eb, hbl, hcl⟩ := hr1.at q1
    subst eb
    have hoff : off = 0 := (hnew _ rfl).2.1
    subst hoff
    have D25 := Lib.hid (build25 w1.heap.size w1 b 0 len0 len0 z0 (fun w' hb => hr1.below hb) (by omega) (len0 + 1) 0 q1 (by omega) w1 (Below.refl _ _) (Nat.le_refl _))
    clear hr1 hb1 hni hnew hbl hcl C24
    go_wp2_with fail
    refine D25.out.mono ?_
    rintro e w2 ⟨S, T, p, l, ls, pos', rfl, hbu, hS, hb2, hp1, hp2, hcnt⟩
    have hlp : ls.length ≤ 65536 := by omega
    clear D25 hp1 hp2 hcnt H0
    have hbu8 := wrap8 hbu (fun b hb => (hS b hb).2)
    obtain ⟨hb8, hs8⟩ := below8 w2 T p l
    have R27 : Calls Try.prog 26 #[.agg #[.iface T (.pointer (some ⟨p, 0, none⟩)), .int .i32 l], .func (.func 27) #[] #[.pointer (some ⟨w2.heap.size + 1 + 1 + 1 + 1 + 1 + 1 + 1 + 1, 0, none⟩), .pointer (some ⟨w2.heap.size + 1 + 1 + 1 + 1 + 1 + 1 + 1 + 1 + 1, 0, none⟩)]]
        (((mk8 w2 T p l).alloc (.cells #[.slice none 0 0] 47)).alloc (.cells #[.slice none 0 0] 83)) (CbR (w2.heap.size + 8) (w2.heap.size + 8) (w2.heap.size + 9) (0 + ls.length) ([] ++ ls) (((mk8 w2 T p l).alloc (.cells #[.slice none 0 0] 47)).alloc (.cells #[.slice none 0 0] 83))) := by
      have hn := cb_new (mk8 w2 T p l)
      have hb := below_2 (mk8 w2 T p l) (.cells #[.slice none 0 0] 47) (.cells #[.slice none 0 0] 83)
      rw [hs8] at hn hb
      exact for26 27 _ _ _ (.inl rfl) _ (fun b hb => hb) hbu8.1 _ 0 [] none 0 none 0 hb (by simp [hs8]) hn (by omega)
    have G27 := Lib.hid R27
    have BU := Lib.hid hbu8.2
    have KB := Lib.hid (below2 (below2 B1.out hb2) hb8)
    have K8 := Lib.hid (blks8 w2 T p l)
    have S8 := Lib.hid hs8
    have hB10 : Hid (Below w.heap.size w (((mk8 w2 T p l).alloc (.cells #[.slice none 0 0] 47)).alloc (.cells #[.slice none 0 0] 83))) := below2 KB.out (below_2 _ _ _)
    have S10 : Hid ((((mk8 w2 T p l).alloc (.cells #[.slice none 0 0] 47)).alloc (.cells #[.slice none 0 0] 83)).heap.size = w2.heap.size + 10) := Lib.hid (by simp [hs8])
    clear hbu8 hb8 hs8 R27 hbu hS hb2
    go_wp2_with fail
    refine G27.out.mono ?_
    rintro e w3 ⟨rfl, a1, c1, a2, c2, hcb, hb3⟩
    simp only [Nat.zero_add, List.nil_append] at hcb
    have hs3 : w2.heap.size + 10 ≤ w3.heap.size := by have := hb3.size; rw [S10.out] at this; exact this
    have C3 := Lib.hid hcb
    have hb83 : Below (w2.heap.size + 8) (mk8 w2 T p l) w3 := by
      have h := below_2 (mk8 w2 T p l) (.cells #[.slice none 0 0] 47) (.cells #[.slice none 0 0] 83)
      rw [S8.out] at h
      exact h.trans hb3
    have B3 : Hid (Below w.heap.size w w3) := KB.out.trans (hb83.mono (by have := KB.out.size; rw [S8.out] at this; exact this))
    have BU3 : Hid (Bu w3 (fun b => b < w3.heap.size) 77 (w2.heap.size + 1 + 1 + 1 + 1 + 1 + 1) (-1) ls) := (BU.out.kept (fun b hb => hb83.block b hb)).mono (fun b hb => by show b < _; have hb : b < _ := hb; omega)
    have k7 : Blk w3 (w2.heap.size + 7) #[.iface 77 (.pointer (some ⟨w2.heap.size + 1 + 1 + 1 + 1 + 1 + 1, 0, none⟩)), .int .i32 (-1)] 59 := (hb83.block _ (by omega)).trans K8.out.2.2.2.2
    have d0 : w3.cell? ⟨w2.heap.size + 1 + 1 + 1 + 1 + 1 + 1 + 1, 0, none⟩ = some (.iface 77 (.pointer (some ⟨w2.heap.size + 1 + 1 + 1 + 1 + 1 + 1, 0, none⟩))) := k7.cell 0
    have d1 : w3.cell? ⟨w2.heap.size + 1 + 1 + 1 + 1 + 1 + 1 + 1, 1, none⟩ = some (.int .i32 (-1)) := k7.cell 1
    have d2 : w2.heap.size + 1 + 1 + 1 + 1 + 1 + 1 + 1 < w3.heap.size := by omega
    have d3 := Nat.lt_succ_of_lt d2
    have R28 := Lib.hid (for26 28 w3.heap.size w3.heap.size (w3.heap.size + 1) (.inr rfl) _ (fun b hb => hb) BU3.out ((w3.alloc (.cells #[.slice none 0 0] 47)).alloc (.cells #[.slice none 0 0] 83)) 0 [] none 0 none 0 (below_2 _ _ _) (by simp <;> omega) (cb_new w3) (by omega))
    unfold ptr fv at R28
    clear hcb hb3 hb83 k7 G27
    go_wp2_with fail
    refine R28.out.mono ?_
    rintro e w4 ⟨rfl, a3, c3, a4, c4, hcb, hb4⟩
    simp only [Nat.zero_add, List.nil_append] at hcb
    have hb34 : Below w3.heap.size w3 w4 := (below_2 w3 (.cells #[.slice none 0 0] 47) (.cells #[.slice none 0 0] 83)).trans hb4
    have C4 := Lib.hid hcb
    have D4 := Lib.hid (C3.out.below hb34)
    have B4 : Hid (Below w.heap.size w w4) := below2 B3.out hb34
    have e0 : w4.cell? ⟨w2.heap.size + 1 + 1 + 1 + 1 + 1 + 1 + 1 + 1, 0, none⟩ = some (.slice a1 ls.length c1) := D4.out.b1.cell 0
    have e1 : w4.cell? ⟨w3.heap.size, 0, none⟩ = some (.slice a3 ls.length c3) := C4.out.b1.cell 0
    have e2 := D4.out.b1.lt
    have e3 := C4.out.b1.lt
    clear hcb hb4 hb34 d0 d1 d2 d3 R28
    go_wp2_with fail
    go_loopw [11] (fun i wr => ∃ k : Nat, k ≤ ls.length ∧ i = .int .i64 k ∧ Hid (Below w4.heap.size w4 wr)) (fun i _ => ls.length - (intOf i).toNat)
    case atStart => exact ⟨0, Nat.zero_le _, rfl, Below.refl _ _⟩
    case round =>
      obtain ⟨k, hk, rfl, hbk⟩ := hrel
      have HBK : Hid (Below w.heap.size w wr) := below2 B4.out hbk.out
      have E4 := Lib.hid (D4.out.below hbk.out)
      have F4 := Lib.hid (C4.out.below hbk.out)
      have f0 : wr.cell? ⟨w2.heap.size + 1 + 1 + 1 + 1 + 1 + 1 + 1 + 1, 0, none⟩ = some (.slice a1 ls.length c1) := E4.out.b1.cell 0
      have f1 : wr.cell? ⟨w3.heap.size, 0, none⟩ = some (.slice a3 ls.length c3) := F4.out.b1.cell 0
      have f2 : wr.cell? ⟨w2.heap.size + 1 + 1 + 1 + 1 + 1 + 1 + 1 + 1 + 1, 0, none⟩ = some (.slice a2 ls.length c2) := E4.out.b2.cell 0
      have f3 : wr.cell? ⟨w3.heap.size + 1, 0, none⟩ = some (.slice a4 ls.length c4) := F4.out.b2.cell 0
      clear e0 e1 e2 e3
      by_cases hlt : k < ls.length
      · obtain ⟨g1, g2, x, rfl, rfl, hx, l1, l2, x1, x2⟩ := cb_at E4.out rfl hlt
        obtain ⟨g3, g4, y, rfl, rfl, hy, l3, l4, y1, y2⟩ := cb_at F4.out rfl hlt
        obtain rfl : y = x := by rw [hx] at hy; exact (Option.some.inj hy).symm
        clear hx hy
        obtain ⟨j55, hj55⟩ : ∃ j, Try.prog.info? 55 = some j := Option.isSome_iff_exists.1 (by kernel_rfl)
        have hpq := fun wz : World => Lib.run_neq_ptr_same (P := Try.prog) wz ⟨y.1, 0, none⟩ Try.underlying50 hj55
        clear hj55
        obtain ⟨yp, yl⟩ := y
        simp only at x1 x2 y1 y2 hpq
        go_wp2_with fail
        go_quiet (fail)
        go_wp2_with fail
        go_roundw
        case rel => exact ⟨k + 1, by omega, by go_num, Lib.hid (below_drewN hbk.out _)⟩
        case measure => simp [intOf]; omega
      · obtain rfl : k = ls.length := by omega
        clear hlt
        go_wp2_with fail
        go_ret
        exact ⟨rfl, HBK.out⟩
end Go.Proofs.Ytiejadamfgbidab.fnForEachIdentifierBindingIgnoresWrapping
