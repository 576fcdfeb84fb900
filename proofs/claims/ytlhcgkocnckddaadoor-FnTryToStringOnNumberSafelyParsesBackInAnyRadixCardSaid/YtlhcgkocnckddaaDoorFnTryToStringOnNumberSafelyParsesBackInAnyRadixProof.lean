/- Proves the given statement 'Rows.FnTryToStringOnNumberSafelyParsesBackInAnyRadixCardSaid': for every input the law 'FnTryToStringOnNumberSafelyParsesBackInAnyRadix' returns true, and each argument reads behind the call as before; the library's tables are tied to the program's text. No conditions. -/
import Derived.Test.YtlhcgkocnckddaaDoorFnTryToStringOnNumberSafelyParsesBackInAnyRadixWalk
import Derived.Test.YtlhcgkocnckddaaDoorCards
import Derived.Test.YtlhcgkocnckddaaDoorTie
import Derived.Lib.LaidU8
import Derived.ProofKit
import Derived.OpenShut
import Derived.LaidMore
import Derived.Lay
import Derived.SevenTiedAt
import Derived.Stop.Joined
namespace Go.Proofs.YtlhcgkocnckddaaDoor.fnTryToStringOnNumberSafelyParsesBackInAnyRadix
open Go.Proofs.YtlhcgkocnckddaaDoor.dig
open Go.ChangeShapes Go.WideShapes Go.ChangeAt Go.RowKit
open Go.ChangeMaps (open_string shut_string)
set_option linter.unusedVariables false

theorem d64_eq : (Rows.laid_math_bits_deBruijn64tab : DataW Unit) = Lib.tabData .u8 tab64 := by kernel_rfl
theorem p10_eq : (Rows.laid_internal_strconv_uint64pow10 : DataW Unit) = Lib.tabData .u64 Lib.pow10Tab := by kernel_rfl
theorem tabIs_of_reads {P : Program} {W : World} {name : String} {k : IntKind} {zs : List Int} {g : Nat} {t e : TypeId} {n : Nat}
    (hg : P.globalNamed name = some g) (hty : (P.globals[g]?).map (·.type) = some t) (ht : P.underlying t = some (.array n e)) (he : P.underlying e = some (.int k)) (hce : P.cellsOf e = 1) (hct : P.cellsOf t = n)
    (h : Lib.VarReads P W name (Lib.tabData k zs)) : Lib.TabIs P W name k zs := by
  obtain ⟨g', t', cs, fuel, p, hg', ht', hvar, hd⟩ := h
  obtain rfl := Option.some.inj (hg.symm.trans hg')
  obtain rfl := Option.some.inj (hty.symm.trans ht')
  unfold Lib.TabIs
  rw [hvar, ← Lib.cells_of_tab ht he hce hct hd]
theorem own : ownKnob Tryd.prog.godebug = none := by kernel_rfl
set_option maxRecDepth 100000 in
theorem lifted (os : Os) (started : os.Started) (H : Type) (enc : TypeId × Value → H) :
    ReturnsInHanded {} Tryd.checked os 3 .any (fun w args => (Rows.fnTryToStringOnNumberSafelyParsesBackInAnyRadixSpec.pre enc Tryd.prog Tryd.f3 Rows.fnTryToStringOnNumberSafelyParsesBackInAnyRadixRow.domain false w args ∧ laidMetH Tryd.prog Rows.fnTryToStringOnNumberSafelyParsesBackInAnyRadixRow.laid w) ∧ sizedMet enc Tryd.prog Tryd.f3 (OpenSpec.ofChange Rows.fnTryToStringOnNumberSafelyParsesBackInAnyRadixSpec) false w args)
      (Rows.fnTryToStringOnNumberSafelyParsesBackInAnyRadixSpec.post enc Tryd.prog Tryd.f3 false true false false) := by
  refine returnsInHanded_of_change_and (C := Tryd.checked) (X := fun w _ => laidMetH Tryd.prog Rows.fnTryToStringOnNumberSafelyParsesBackInAnyRadixRow.laid w) (fun _ _ _ hh h => h.of_heap hh) own started (by kernel_rfl) Tryd.func3
    (ChangeSpec.witness_shaped (enc := enc) (C := Tryd.checked) (os := os) (X := fun w _ => laidMetH Tryd.prog Rows.fnTryToStringOnNumberSafelyParsesBackInAnyRadixRow.laid w) false (World.laidAll Tryd.prog os Rows.fnTryToStringOnNumberSafelyParsesBackInAnyRadixRow.laid) #[.float .f64 0, .int .i64 2, .int .i64 2] 8 (World.laidAll_os _ _ _)
      (World.shaped_of_ZipB (by kernel_rfl) (by kernel_rfl)) (by kernel_rfl) (by kernel_rfl) (by kernel_rfl)
      (by rw [MakeChecks.laidMetH_plain _ _ _ (by kernel_rfl)]; exact laidMet_laidAll _ (by kernel_rfl) (by kernel_rfl))) ?_
  intro W base args ds gs before hval0 hW _ _ hL _
  have hval : ∀ (j : Nat) t v, Tryd.f3.params[j]? = some t → args[j]? = some v → Value.okWide Tryd.prog W .any base t v := hval0
  have hW' := hW
  obtain ⟨p, q, hA0, hV, rfl, _, _⟩ := hW
  have hA : DataW.TrodAll enc Tryd.prog W 0 (fun _ => true) true Tryd.f3.params.toList args.toList ds p := hA0
  rw [Tryd.params3] at hA hval
  obtain ⟨v0, v1, v2, d0, d1, d2, p0, p1, p2, rfl, rfl, rfl, h0, h1, h2⟩ := trodAll_three hA
  obtain ⟨rfl, rfl⟩ := trodVars_none hV
  obtain ⟨a0, rfl, rfl, rfl, w0⟩ := open_float Tryd.underlying22 (hval 0 22 v0 rfl rfl) h0
  obtain ⟨a1, rfl, rfl, rfl, w1⟩ := open_int Tryd.underlying3 (hval 1 3 v1 rfl rfl) h1
  obtain ⟨a2, rfl, rfl, rfl, w2⟩ := open_int Tryd.underlying3 (hval 2 3 v2 rfl rfl) h2
  simp only [List.append_nil] at hW'
  rw [MakeChecks.laidMetH_plain _ _ _ (by kernel_rfl)] at hL
  have hT : Tabs W := ⟨tabIs_of_reads (t := 44) (e := 34) (n := 20) (g := 1) (by kernel_rfl) (by kernel_rfl) Tryd.underlying44 Tryd.underlying34 (by kernel_rfl) (by kernel_rfl) (p10_eq ▸ Lib.laidMet.reads hL (.tail _ (.tail _ (.head _)))),
    tabIs_of_reads (t := 52) (e := 5) (n := 64) (g := 3) (by kernel_rfl) (by kernel_rfl) Tryd.underlying52 Tryd.underlying5 (by kernel_rfl) (by kernel_rfl) (d64_eq ▸ Lib.laidMet.reads hL (.tail _ (.head _)))⟩
  refine (walk a0 a1 a2 W w0 hT).mono fun e W' ⟨he, hb⟩ => ?_
  subst he
  exact ⟨_, rfl, _, _, _, [], [], [], hW', trodAll_mk1 (shut_bool Tryd.underlying4 _), trodAll_mk3 (shut_float Tryd.underlying22 w0) (shut_int Tryd.underlying3 w1) (shut_int Tryd.underlying3 w2), rfl, hb.frame _, fun h => by cases h⟩

theorem holds : Rows.FnTryToStringOnNumberSafelyParsesBackInAnyRadixSaid :=
  OpenClaim.holds_of_wide 3 Tryd.f3 rfl rfl rfl rfl rfl rfl rfl ⟨rfl, rfl, rfl, rfl, rfl⟩ rfl rfl rfl rfl rfl (by kernel_rfl) Tryd.func3 (by kernel_rfl)
    (of_decide_eq_true (by kernel_rfl)) (by unfold Func.isWrapper; first | (rw [if_pos (by decide +kernel)]; kernel_rfl) | (rw [if_neg (by decide +kernel)]; exact ⟨rfl, rfl⟩))
    (fun os started H enc _ => lifted os started H enc)
/-- The given statement. -/
theorem proved : Rows.FnTryToStringOnNumberSafelyParsesBackInAnyRadixCardSaid :=
  Claim7.holds_tied_plain_at .later [] [.data, .data, .data] true (true, "c6d7e7f3df8b2ccfa820538301ee4dd99b396ed53f6bf7c00eef5d712622a685") false holds (fun _ h => by cases h) (by kernel_rfl) (fun _ h => by cases h) fnTryToStringOnNumberSafelyParsesBackInAnyRadix_row_tie rfl ⟨rfl, rfl⟩ (by kernel_rfl) rfl
    (fun f fn hf hfn => by
      obtain rfl : f = 3 := Option.some.inj ((show Tryd.prog.funcNamed "github.com/evanw/esbuild/n011_168.FnTryToStringOnNumberSafelyParsesBackInAnyRadix" = some 3 by kernel_rfl).symm.trans hf) |>.symm
      obtain rfl : fn = Tryd.f3 := (Option.some.inj (Tryd.func3.symm.trans hfn)).symm
      exact ⟨by kernel_rfl, fun j t ht => by
        rw [Tryd.params3] at ht
        have hm : t ∈ [22, 3, 3] := by simpa using Array.mem_of_getElem? ht
        have hall : ([22, 3, 3].all fun u => !Tryd.prog.wantsStandIn u) = true := by kernel_rfl
        exact (show Tryd.prog.wantsStandIn t = false by simpa using List.all_eq_true.1 hall t hm)⟩)
    (by kernel_rfl)
#print axioms proved
end Go.Proofs.YtlhcgkocnckddaaDoor.fnTryToStringOnNumberSafelyParsesBackInAnyRadix
