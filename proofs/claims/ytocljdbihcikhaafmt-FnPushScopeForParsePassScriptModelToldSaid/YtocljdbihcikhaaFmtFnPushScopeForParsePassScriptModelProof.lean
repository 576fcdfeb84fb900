/- Proves the given statement 'Rows.FnPushScopeForParsePassScriptModelToldSaid': for every script and every base the law 'FnPushScopeForParsePassScriptModel' returns true, and each argument and the variable 'InvalidRef' read behind the call as before; fmt's texts are told by the form's own function; 'InvalidRef' is tied to the program's text. No conditions. -/
import Derived.Test.YtocljdbihcikhaaFmtFnPushScopeForParsePassScriptModelWalk
import Derived.Test.YtocljdbihcikhaaFmtCards
import Derived.Test.YtocljdbihcikhaaFmtTie
import Derived.ProofKit
import Derived.OpenShut
import Derived.LaidMore
import Derived.Lay
import Derived.SevenTiedAt
import Derived.Stop.Joined
import Derived.SevenToldRow
import Derived.ChangeVars
import Derived.WalkSmall
import Derived.Lib.LaidU8
namespace Go.Proofs.YtocljdbihcikhaaFmt.fnPushScopeForParsePassScriptModel
open Go.ChangeShapes Go.WideShapes Go.ChangeAt Go.RowKit Go.Mine psh
open Go.Extern.Stop Go.Stop Go.Extern
set_option linter.unusedVariables false

theorem own : ownKnob Tryf.prog.godebug = none := by kernel_rfl
theorem laidOut : laidOutB Tryf.prog = true := by kernel_rfl
theorem gNamed : Tryf.prog.globalNamed "github.com/evanw/esbuild/internal/ast.InvalidRef" = some 0 := by kernel_rfl
theorem gType : (Tryf.prog.globals[0]?).map (·.type) = some 45 := by kernel_rfl
theorem cells43 : Tryf.prog.cellsOf 43 = 1 := by kernel_rfl
theorem cells45 : Tryf.prog.cellsOf 45 = 2 := by kernel_rfl
theorem two_of {α : Type} {l : List α} (h : l.length = 2) : ∃ x y, l = [x, y] := by
  match l, h with
  | [x, y], _ => exact ⟨x, y, rfl⟩
section
variable {H : Type} {enc : TypeId × Value → H} {W W' : World} {sp : Nat → Bool} {held : Bool} {fuel : Nat} {cs : List Value} {d : DataW H} {p : List MemPlace}
/-- A reading of 'InvalidRef': two numbers, no places; it reads so in every world. -/
theorem ref_read (h : DataW.trod enc Tryf.prog W 0 sp held fuel 45 cs = some (d, p)) : ∃ a b : Int, cs = [.int .u32 a, .int .u32 b] ∧ d = .agg [.lit (.int .u32 a), .lit (.int .u32 b)] ∧ p = [] ∧ ∀ (W' : World) (sp' : Nat → Bool), ∃ fuel', DataW.trod enc Tryf.prog W' 0 sp' held fuel' 45 cs = some (d, p) := by
  obtain ⟨y0, y1, n, hx, hl, h0, h1⟩ := trod_struct2 Tryf.underlying45 h
  obtain ⟨a, ha, hya, wa⟩ := DataW.trod_int Tryf.underlying43 h0
  obtain ⟨b, hb, hyb, wb⟩ := DataW.trod_int Tryf.underlying43 h1
  rw [cells45] at hl
  rw [cells43] at ha hb
  obtain ⟨x, y, rfl⟩ := two_of hl
  simp at ha hb
  subst ha hb hya hyb
  injection hx with hx1 hx2
  refine ⟨a, b, rfl, hx1, by simpa using hx2, fun W' sp' => ⟨1 + 1, ?_⟩⟩
  rw [hx1, hx2]
  exact trod_struct2_mk (n := 1) (y0 := (.lit (.int .u32 a), [])) (y1 := (.lit (.int .u32 b), [])) Tryf.underlying45 (by rw [cells45]; rfl) (by rw [cells43]; exact trod_int_mk 0 Tryf.underlying43 wa) (by rw [cells43]; exact trod_int_mk 0 Tryf.underlying43 wb)
end
theorem iref_of {W : World} (h : Lib.VarReads Tryf.prog W "github.com/evanw/esbuild/internal/ast.InvalidRef" Rows.laid_github_com_evanw_esbuild_internal_ast_InvalidRef) : IRef W := by
  obtain ⟨g', t', cs, fuel, p, hg', ht', hvar, hd⟩ := h
  obtain rfl := Option.some.inj (gNamed.symm.trans hg')
  obtain rfl := Option.some.inj (gType.symm.trans ht')
  obtain ⟨a, b, hcs, hd2, _, _⟩ := ref_read hd
  have e : a = 4294967295 ∧ b = 4294967295 := by
    unfold Rows.laid_github_com_evanw_esbuild_internal_ast_InvalidRef at hd2
    simp at hd2
    exact ⟨hd2.1.symm, hd2.2.symm⟩
  obtain ⟨rfl, rfl⟩ := e
  have hcs2 : cs = #[.int .u32 4294967295, .int .u32 4294967295] := Array.toList_inj.1 hcs
  subst hcs2
  simp only [World.var?, gNamed, Option.bind_some] at hvar
  split at hvar
  · rename_i c t fr hb
    simp only [Option.some.injEq] at hvar
    subst hvar
    exact ⟨by simp [World.cell?, hb], by simp [World.cell?, hb]⟩
  · cases hvar
set_option maxRecDepth 100000 in
theorem lifted (os : Os) (started : os.Started) (H : Type) (enc : TypeId × Value → H) :
    ReturnsInTold none {} Tryf.checked os 3 .any Input.okWide ((OpenSpec.ofChange Rows.fnPushScopeForParsePassScriptModelSpec).preRow enc Tryf.prog Tryf.f3 Rows.fnPushScopeForParsePassScriptModelRow.domain false Rows.fnPushScopeForParsePassScriptModelRow.laid) (fun F => ((OpenSpec.ofChange Rows.fnPushScopeForParsePassScriptModelSpec).at F).post enc Tryf.prog Tryf.f3 false true false false) (aloneAtReturn Tryf.prog) nothingAlways := by
  refine returnsInTold_of_row (C := Tryf.checked) (s := OpenSpec.ofChange Rows.fnPushScopeForParsePassScriptModelSpec) (by kernel_rfl) own started (by kernel_rfl) Tryf.func3
    (OpenSpec.witness_stopped_at (enc := enc) (C := Tryf.checked) false (World.laidAll Tryf.prog os Rows.fnPushScopeForParsePassScriptModelRow.laid) #[.slice none 0 0, .int .i32 0] (World.laidAll_os _ _ _) (by kernel_rfl) (by kernel_rfl) (by kernel_rfl)
      (OpenSpec.preRow_of_B rfl 8 (by kernel_rfl) (by kernel_rfl) (by rw [MakeChecks.laidMetH_plain _ _ _ (by kernel_rfl)]; exact laidMet_laidAll _ (by kernel_rfl) (by kernel_rfl)))) ?_
  intro F W base args ds gs before _ hF hval0 hW _ _ _ hL _
  have hval : ∀ (j : Nat) t v, Tryf.f3.params[j]? = some t → args[j]? = some v → Value.okWide Tryf.prog W .any base t v := hval0
  have hW' := hW
  obtain ⟨p, q, hA0, hV, rfl, hfz, hnd⟩ := hW
  have hA : DataW.TrodAll enc Tryf.prog W 0 (fun _ => true) true Tryf.f3.params.toList args.toList ds p := hA0
  rw [Tryf.params3] at hA hval
  obtain ⟨v0, v1, d0, d1, p0, p1, rfl, rfl, rfl, h0, h1⟩ := trodAll_two hA
  obtain ⟨g, t, cs, fuel, dv, pv, rfl, hg, ht, hvar, hd, rfl⟩ := trodVars_one hV
  obtain ⟨_, _, _, _, _, hre⟩ := ref_read (show DataW.trod enc Tryf.prog W 0 (fun _ => true) true fuel 45 cs.toList = some (dv, pv) by
    obtain rfl := Option.some.inj (gNamed.symm.trans hg)
    obtain rfl := Option.some.inj (gType.symm.trans ht)
    exact hd)
  obtain ⟨a0, len0, cap0, rfl⟩ := okWide_slice Tryf.underlying22 (hval 0 22 v0 rfl rfl)
  have k0 := h0
  have lt0 : ∀ x ∈ p0, x.block < W.heap.size := by obtain ⟨m, hm⟩ := k0; exact DataW.trod_lt m _ _ _ hm
  obtain ⟨z0, w0⟩ := rowOf_ints Tryf.underlying22 Tryf.underlying5 (by kernel_rfl) h0
  obtain ⟨b, rfl, rfl, rfl, w1⟩ := open_int Tryf.underlying21 (hval 1 21 v1 rfl rfl) h1
  rw [MakeChecks.laidMetH_plain _ _ _ (by kernel_rfl)] at hL
  have hI := iref_of (Lib.laidMet.reads hL (.head _))
  have hz0 : 0 < W.heap.size := cell_lt hI.c0
  obtain rfl := Option.some.inj (gNamed.symm.trans hg)
  obtain rfl := Option.some.inj (gType.symm.trans ht)
  clear hA0 hval0
  refine (walk a0 len0 cap0 z0 b W w0 w1 hI).mono fun e W' ⟨he, bel⟩ => ?_
  subst he
  obtain ⟨fuel', hr⟩ := hre W' (fun b => decide (b < W.heap.size))
  exact ⟨_, rfl, _, _, _, [], _, _, hW', trodAll_mk1 (shut_bool Tryf.underlying4 _), trodAll_mk2 (Below.trod laidOut (by kernel_rfl) (of_decide_eq_true (by kernel_rfl)) k0 bel lt0) (shut_int Tryf.underlying21 w1), trodVars_mk1 hg ht (var?_below bel hg hz0 hvar) hr, bel.frame _, fun h => by cases h⟩

theorem stopsEq : Tryf.pinned.checked.prog.stops = ["fmt.Sprintf"] := by kernel_rfl
theorem stopKnobs : Tryf.pinned.checked.prog.stopKnobs = [] := by kernel_rfl
theorem quiet (os : Os) : Stop.quiet Tryf.pinned.checked.prog os := by
  intro k hk
  rw [stopKnobs] at hk
  cases hk
/-- The given statement. -/
theorem proved : Rows.FnPushScopeForParsePassScriptModelToldSaid :=
  Claim7.holds_of_told_tied_any_at .later 3 Tryf.f3 "fmt.Sprintf" [] [] _ _ _ _ _ (by kernel_rfl) rfl rfl rfl laidOut (by kernel_rfl) rfl ⟨rfl, rfl, rfl, rfl, rfl, rfl, rfl⟩ rfl rfl (by kernel_rfl) (by kernel_rfl) Tryf.func3 (by kernel_rfl)
    (of_decide_eq_true (by kernel_rfl)) (of_decide_eq_true (by kernel_rfl)) stopsEq.symm rfl stopKnobs.symm (by kernel_rfl)
    (by kernel_rfl) (by kernel_rfl) (by kernel_rfl) (by kernel_rfl) (by kernel_rfl) (by kernel_rfl) (by kernel_rfl) (by kernel_rfl) (by kernel_rfl) rfl (by kernel_rfl) rfl rfl
    rfl rfl
    rfl (by kernel_rfl) (by kernel_rfl) (by kernel_rfl) (by decide) (by kernel_rfl) fnPushScopeForParsePassScriptModel_row_tie
    (OpenClaim.moreEntering_of (by kernel_rfl) (by kernel_rfl) (by kernel_rfl) (by kernel_rfl) (by kernel_rfl) (by kernel_rfl) (by kernel_rfl) (by kernel_rfl) (by kernel_rfl) (by kernel_rfl))
    ⟨_, WideRow.started_initial, quiet _⟩
    (fun os started _ H enc _ => lifted os started H enc)
#print axioms proved
end Go.Proofs.YtocljdbihcikhaaFmt.fnPushScopeForParsePassScriptModel
