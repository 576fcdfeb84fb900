/- The walk of the law 'FnSymbolInstanceIsPropertyAccess': it returns true and leaves what was there as it was. No conditions. -/
import Derived.Test.YtpgkbpgfiblboaaRSymE
import Derived.Test.YtpgkbpgfiblboaaRSymF
namespace Go.Proofs.YtpgkbpgfiblboaaR.fnSymbolInstanceIsPropertyAccess
open Go.ChangeShapes Go.WideShapes Go.ChangeAt Go.RowKit Go.Mine Go.Deep sym
set_option linter.unusedVariables false
set_option maxRecDepth 100000

theorem sym15 (w : World) (T p : Nat) (h : OkN w T p) : Calls Try.prog 15 #[.iface T (.pointer (some ⟨p, 0, none⟩))] w (Sym15 w T) := by
  rcases h with ⟨h1, h2⟩ | ⟨rfl, f, hc⟩ | ⟨rfl, f, hc⟩
  · exact sym_none w T p h1 h2
  · exact sym_dot w p f hc
  · exact sym_index w p f hc
set_option maxHeartbeats 2000000 in
theorem walk (a0 : Option Addr) (len0 cap0 : Nat) (w : World) (w0 : NRow w a0 len0 cap0) :
    Calls Try.prog 4 #[.slice a0 len0 cap0] w fun e w' => e = .returned (.bool true) ∧ Below w.heap.size w w' := by
  have hm : len0 ≤ maxLen := Nat.le_trans w0.1 w0.2.1
  have m0 := hm
  unfold maxLen at m0
  have H0 := Lib.hid w0
  clear w0
  go_enter Try.func4, Try.ntmps4
  go_wp2_with fail
  refine (bytes_any _ _ _ _ hm).mono ?_
  rintro e w' ⟨⟨r, rfl⟩, rfl⟩
  cases r with
  | false =>
    go_wp2_with fail
    go_ret
    exact ⟨rfl, Below.refl _ _⟩
  | true =>
    by_cases q0 : len0 ≤ 4096
    case neg =>
      go_wp2_with fail
      go_ret
      exact ⟨rfl, Below.refl _ _⟩
    by_cases qz : len0 = 0
    · subst qz
      go_wp2_with fail
      go_ret
      exact ⟨rfl, Below.refl _ _⟩
    have qz' : ¬ ((len0 : Int) = 0) := by omega
    go_wp2_with fail
    refine (tree12 _ _ _ _ H0.out q0).mono ?_
    rintro e w1 ⟨⟨r, rfl⟩, hb1⟩
    have B1 := Lib.hid hb1
    have H1 := Lib.hid (H0.out.below hb1)
    clear hb1
    cases r with
    | false =>
      go_wp2_with fail
      go_ret
      exact ⟨rfl, B1.out⟩
    | true =>
      go_wp2_with fail
      refine (clone13 _ _ _ _ H1.out q0).mono ?_
      rintro e w2 ⟨a2, rfl, hr2, hb2⟩
      have B2 := Lib.hid (below2 B1.out hb2)
      have H2 := Lib.hid hr2
      clear hr2 hb2
      go_wp2_with fail
      refine (build14 _ _ _ _ H2.out q0).mono ?_
      rintro e w3 ⟨rfl, C, hE⟩
      have hR : ∃ R, R = w2.heap.size := ⟨_, rfl⟩
      have B3 := Lib.hid (below2 B2.out hE.bel)
      have E := Lib.hid hE
      clear hE
      go_wp2_with fail
      go_loopw [4] (fun i wr => ∃ k : Nat, k ≤ len0 ∧ i = .int .i64 k ∧ Hid (Below w.heap.size w wr) ∧ Hid (Er len0 0 w2.heap.size C w2 wr)) (fun i _ => len0 - (intOf i).toNat)
      case atStart => exact ⟨0, Nat.zero_le _, rfl, B3, E⟩
      case round =>
        obtain ⟨k, hk, rfl, hB, hE⟩ := hrel
        clear B3 E
        by_cases hlt : k < len0
        · obtain ⟨T, p, hc, hp, hok⟩ := hE.out.high k (Nat.zero_le _) hlt
          have c0 : wr.cell? ⟨w2.heap.size, k * 2, none⟩ = some (.iface T (.pointer (some ⟨p, 0, none⟩))) := (hE.out.blk.cell _).trans hc
          have c1 : wr.cell? ⟨w2.heap.size, k * 2 + 1, none⟩ = some (.int .i32 0) := (hE.out.blk.cell _).trans (hE.out.loc k hlt)
          have hl := hE.out.blk.lt
          have OK := Lib.hid hok
          clear hc hp hok
          go_wp2_with fail
          refine (sym15 _ _ _ OK.out).mono ?_
          rintro e w4 ⟨⟨r, rfl, hr⟩, rfl⟩
          cases r with
          | false =>
            clear hr
            go_wp2_with fail
            go_roundw
            case rel => exact ⟨k + 1, by omega, by go_num, hB, hE⟩
            case measure => simp [intOf]; omega
          | true =>
            have A := Lib.hid (acc16 wr T p (hr rfl))
            clear hr
            go_wp2_with fail
            refine A.out.mono ?_
            rintro e w5 ⟨rfl, hb5⟩
            have B5 := Lib.hid (below2 hB.out hb5)
            have E5 := Lib.hid (hE.out.below hb5)
            clear hb5
            go_wp2_with fail
            go_roundw
            case rel => exact ⟨k + 1, by omega, by go_num, B5, E5⟩
            case measure => simp [intOf]; omega
        · obtain rfl : k = len0 := by omega
          go_wp2_with fail
          go_ret
          exact ⟨rfl, hB.out⟩
end Go.Proofs.YtpgkbpgfiblboaaR.fnSymbolInstanceIsPropertyAccess
