/- Proves the given statement 'Rows.FnEsmOutputFormatAcceptsTopLevelAwaitToldSaid': for every format and every set of unsupported features the law 'FnEsmOutputFormatAcceptsTopLevelAwait' returns true, and each argument reads behind the call as before; fmt's texts are told by the form's own function; the two tables of 'unicode/utf8' are tied to the program's text. No conditions. -/
import Derived.Test.YtlcbaglphhbljaaFmtFnEsmOutputFormatAcceptsTopLevelAwaitWalk
import Derived.Test.YtlcbaglphhbljaaFmtCards
import Derived.Test.YtlcbaglphhbljaaFmtTie
import Derived.ProofKit
import Derived.OpenShut
import Derived.LaidMore
import Derived.Lay
import Derived.SevenTiedAt
import Derived.Stop.Joined
import Derived.SevenToldRow
namespace Go.Proofs.YtlcbaglphhbljaaFmt.fnEsmOutputFormatAcceptsTopLevelAwait
open Go.ChangeShapes Go.WideShapes Go.ChangeAt Go.RowKit Go.Kit Go.Mine
open Go.Extern.Stop Go.Stop Go.Extern
set_option linter.unusedVariables false

theorem own : ownKnob Tryf.prog.godebug = none := by kernel_rfl
theorem laidOut : laidOutB Tryf.prog = true := by kernel_rfl
set_option maxRecDepth 100000 in
theorem lifted (os : Os) (started : os.Started) (H : Type) (enc : TypeId × Value → H) :
    ReturnsInTold none {} Tryf.checked os 3 .any Input.okWide ((OpenSpec.ofChange Rows.fnEsmOutputFormatAcceptsTopLevelAwaitSpec).preRow enc Tryf.prog Tryf.f3 Rows.fnEsmOutputFormatAcceptsTopLevelAwaitRow.domain false Rows.fnEsmOutputFormatAcceptsTopLevelAwaitRow.laid) (fun F => ((OpenSpec.ofChange Rows.fnEsmOutputFormatAcceptsTopLevelAwaitSpec).at F).post enc Tryf.prog Tryf.f3 false true false false) (aloneAtReturn Tryf.prog) nothingAlways := by
  refine returnsInTold_of_row (C := Tryf.checked) (s := OpenSpec.ofChange Rows.fnEsmOutputFormatAcceptsTopLevelAwaitSpec) (by kernel_rfl) own started (by kernel_rfl) Tryf.func3
    (OpenSpec.witness_stopped_at (enc := enc) (C := Tryf.checked) false (World.laidAll Tryf.prog os Rows.fnEsmOutputFormatAcceptsTopLevelAwaitRow.laid) #[.int .u8 0, .int .u64 0] (World.laidAll_os _ _ _) (by kernel_rfl) (by kernel_rfl) (by kernel_rfl)
      (OpenSpec.preRow_of_B rfl 8 (by kernel_rfl) (by kernel_rfl) (by rw [MakeChecks.laidMetH_plain _ _ _ (by kernel_rfl)]; exact laidMet_laidAll _ (by kernel_rfl) (by kernel_rfl)))) ?_
  intro F W base args ds gs before _ hF hval0 hW _ _ _ hL _
  have hval : ∀ (j : Nat) t v, Tryf.f3.params[j]? = some t → args[j]? = some v → Value.okWide Tryf.prog W .any base t v := hval0
  have hW' := hW
  obtain ⟨p, q, hA0, hV, rfl, hfz, hnd⟩ := hW
  have hA : DataW.TrodAll enc Tryf.prog W 0 (fun _ => true) true Tryf.f3.params.toList args.toList ds p := hA0
  rw [Tryf.params3] at hA hval
  obtain ⟨v0, v1, d0, d1, p0, p1, rfl, rfl, rfl, h0, h1⟩ := trodAll_two hA
  obtain ⟨rfl, rfl⟩ := trodVars_none hV
  obtain ⟨a0, rfl, rfl, rfl, w0⟩ := open_int Tryf.underlying5 (hval 0 5 v0 rfl rfl) h0
  obtain ⟨a1, rfl, rfl, rfl, w1⟩ := open_int Tryf.underlying22 (hval 1 22 v1 rfl rfl) h1
  clear hA0 hval0
  have hz : 0 ≤ a1 ∧ a1 ≤ 18446744073709551615 := by simpa [Lit.wf, IntKind.min, IntKind.max, IntKind.signed, IntKind.bits] using w1
  refine (walk a0 a1 W hz.1 (by omega)).mono fun e W' ⟨he, bel⟩ => ?_
  subst he
  exact ⟨_, rfl, _, _, _, [], _, [], hW', trodAll_mk1 (shut_bool Tryf.underlying4 _), trodAll_mk2 (shut_int Tryf.underlying5 w0) (shut_int Tryf.underlying22 w1), rfl, bel.frame _, fun h => by cases h⟩

theorem stopsEq : Tryf.pinned.checked.prog.stops = ["fmt.Sprintf"] := by kernel_rfl
theorem stopKnobs : Tryf.pinned.checked.prog.stopKnobs = [] := by kernel_rfl
theorem quiet (os : Os) : Stop.quiet Tryf.pinned.checked.prog os := by
  intro k hk
  rw [stopKnobs] at hk
  cases hk
/-- The given statement. -/
theorem proved : Rows.FnEsmOutputFormatAcceptsTopLevelAwaitToldSaid :=
  Claim7.holds_of_told_tied_any_at .later 3 Tryf.f3 "fmt.Sprintf" [] [] _ _ _ _ _ (by kernel_rfl) rfl rfl rfl laidOut (by kernel_rfl) rfl ⟨rfl, rfl, rfl, rfl, rfl, rfl, rfl⟩ rfl rfl (by kernel_rfl) (by kernel_rfl) Tryf.func3 (by kernel_rfl)
    (of_decide_eq_true (by kernel_rfl)) (of_decide_eq_true (by kernel_rfl)) stopsEq.symm rfl stopKnobs.symm (by kernel_rfl)
    (by kernel_rfl) (by kernel_rfl) (by kernel_rfl) (by kernel_rfl) (by kernel_rfl) (by kernel_rfl) (by kernel_rfl) (by kernel_rfl) (by kernel_rfl) rfl (by kernel_rfl) rfl rfl
    rfl rfl
    rfl (by kernel_rfl) (by kernel_rfl) (by kernel_rfl) (by decide) (by kernel_rfl) fnEsmOutputFormatAcceptsTopLevelAwait_row_tie
    (OpenClaim.moreEntering_of (by kernel_rfl) (by kernel_rfl) (by kernel_rfl) (by kernel_rfl) (by kernel_rfl) (by kernel_rfl) (by kernel_rfl) (by kernel_rfl) (by kernel_rfl) (by kernel_rfl))
    ⟨_, WideRow.started_initial, quiet _⟩
    (fun os started _ H enc _ => lifted os started H enc)
#print axioms proved
end Go.Proofs.YtlcbaglphhbljaaFmt.fnEsmOutputFormatAcceptsTopLevelAwait
