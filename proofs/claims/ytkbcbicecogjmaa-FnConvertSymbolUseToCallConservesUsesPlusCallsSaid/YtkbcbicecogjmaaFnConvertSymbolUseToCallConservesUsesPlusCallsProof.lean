/- Proves the given statement 'Rows.FnConvertSymbolUseToCallConservesUsesPlusCallsSaid': for every input the law 'FnConvertSymbolUseToCallConservesUsesPlusCalls' returns true, and each argument reads behind the call as before. No conditions. -/
import Derived.Test.YtkbcbicecogjmaaFnConvertSymbolUseToCallConservesUsesPlusCallsWalk
import Derived.ChangeSame
import Derived.RowKit3
import Derived.Laws.IdiomArrays
namespace Go.Proofs.Ytkbcbicecogjmaa.fnConvertSymbolUseToCallConservesUsesPlusCalls
open Go.Proofs.Ytkbcbicecogjmaa.cnv
open Go.ChangeShapes Go.WideShapes Go.ChangeAt Go.RowKit Go.Mine
set_option linter.unusedVariables false

theorem own : ownKnob Try.prog.godebug = none := by kernel_rfl
theorem cells24 : Try.prog.cellsOf 24 = 1 := by kernel_rfl
theorem cells25 : Try.prog.cellsOf 25 = 4 := by kernel_rfl
theorem list4 {α : Type} (l : List α) (h : (⟨l⟩ : Array α).size = 4) : ∃ a b c d, l = [a, b, c, d] := by
  match l, h with
  | [a, b, c, d], _ => exact ⟨a, b, c, d, rfl⟩
theorem nat_of {x : Int} (h : (Lit.int .u32 x).wf = true) : ∃ n : Nat, x = n ∧ n < 4294967296 := by
  have hz : 0 ≤ x ∧ x ≤ 4294967295 := by simpa [Lit.wf, IntKind.min, IntKind.max, IntKind.signed, IntKind.bits] using h
  exact ⟨x.toNat, by omega, by omega⟩
def four4 (a b c d : Nat) : Nat → Nat := fun k => if k = 0 then a else if k = 1 then b else if k = 2 then c else d
theorem four4_lt {a b c d : Nat} (ha : a < 4294967296) (hb : b < 4294967296) (hc : c < 4294967296) (hd : d < 4294967296) : ∀ k, k < 4 → four4 a b c d k < 4294967296 := by
  intro k _
  unfold four4
  repeat (first | assumption | split)
theorem row_four (a b c d : Nat) : row4 (four4 a b c d) = #[.int .u32 a, .int .u32 b, .int .u32 c, .int .u32 d] := rfl
set_option maxHeartbeats 1000000 in
set_option maxRecDepth 100000 in
theorem lifted (os : Os) (started : os.Started) (H : Type) (enc : TypeId × Value → H) :
    ReturnsInHanded {} Try.checked os 3 .any (Rows.fnConvertSymbolUseToCallConservesUsesPlusCallsSpec.pre6 enc Try.prog Try.f3 Rows.fnConvertSymbolUseToCallConservesUsesPlusCallsRow.domain false) (Rows.fnConvertSymbolUseToCallConservesUsesPlusCallsSpec.post enc Try.prog Try.f3 false true false false) := by
  refine returnsInHanded_of_change (C := Try.checked) own started (by kernel_rfl) Try.func3
    (ChangeSpec.witness6 (enc := enc) (C := Try.checked) false ⟨#[], #[.slice none 0 0, .slice none 0 0, .agg #[.int .u32 0, .int .u32 0, .int .u32 0, .int .u32 0]], []⟩ 8 (by kernel_rfl) (by kernel_rfl) (by kernel_rfl) (by kernel_rfl)) ?_
  intro W base args ds gs before hval0 hW hcnd _
  have hval : ∀ (j : Nat) t v, Try.f3.params[j]? = some t → args[j]? = some v → Value.okWide Try.prog W .any base t v := hval0
  have hW' := hW
  obtain ⟨p, q, hA0, hV, rfl, hfz, hnd⟩ := hW
  have hA : DataW.TrodAll enc Try.prog W 0 (fun _ => true) true Try.f3.params.toList args.toList ds p := hA0
  rw [Try.params3] at hA hval
  obtain ⟨v0, vs0, d0, ds0, p0, q0, hargs, rfl, rfl, h0, r0⟩ := trodAll_cons hA
  obtain ⟨v1, vs1, d1, ds1, p1, q1, rfl, rfl, rfl, h1, r1⟩ := trodAll_cons r0
  obtain ⟨v2, vs2, d2, ds2, p2, q2, rfl, rfl, rfl, h2, r2⟩ := trodAll_cons r1
  obtain ⟨rfl, rfl, rfl⟩ := trodAll_nil r2
  obtain rfl : args = #[v0, v1, v2] := by cases args; simp_all
  obtain ⟨rfl, rfl⟩ := trodVars_none hV
  obtain ⟨a0, len0, cap0, rfl⟩ := okWide_slice Try.underlying22 (hval 0 22 v0 rfl rfl)
  have k0 := h0
  have lt0 : ∀ x ∈ p0, x.block < W.heap.size := by obtain ⟨m, hm⟩ := k0; exact DataW.trod_lt m _ _ _ hm
  obtain ⟨z0, w0⟩ := rowOf_ints Try.underlying22 Try.underlying5 (by kernel_rfl) h0
  obtain ⟨a1, len1, cap1, rfl⟩ := okWide_slice Try.underlying23 (hval 1 23 v1 rfl rfl)
  have k1 := h1
  have lt1 : ∀ x ∈ p1, x.block < W.heap.size := by obtain ⟨m, hm⟩ := k1; exact DataW.trod_lt m _ _ _ hm
  obtain ⟨z1, w1⟩ := rowOf_bools Try.underlying23 Try.underlying4 (by kernel_rfl) h1
  have k2 := h2
  have lt2 : ∀ x ∈ p2, x.block < W.heap.size := by obtain ⟨m, hm⟩ := k2; exact DataW.trod_lt m _ _ _ hm
  obtain ⟨cs, rfl, hsz, _⟩ : ∃ cs, v2 = .agg cs ∧ cs.size = Try.prog.cellsOf 25 ∧ Row.okWide Try.prog W .any base 25 cs := by
    have := hval 2 25 v2 rfl rfl
    simpa [Value.okWide, Try.underlying25] using this
  rw [cells25] at hsz
  obtain ⟨l⟩ := cs
  obtain ⟨c0, c1, c2, c3, rfl⟩ := list4 l hsz
  obtain ⟨fuel, hf⟩ := h2
  obtain ⟨y0, y1, y2, y3, m, hx, hy0, hy1, hy2, hy3⟩ := trod_array4 Try.underlying25 cells24 hf
  obtain ⟨x0, e0, rfl, b0⟩ := DataW.trod_int Try.underlying24 hy0
  obtain ⟨x1, e1, rfl, b1⟩ := DataW.trod_int Try.underlying24 hy1
  obtain ⟨x2, e2, rfl, b2⟩ := DataW.trod_int Try.underlying24 hy2
  obtain ⟨x3, e3, rfl, b3⟩ := DataW.trod_int Try.underlying24 hy3
  simp at e0 e1 e2 e3
  subst e0 e1 e2 e3
  obtain ⟨n0, rfl, g0⟩ := nat_of b0
  obtain ⟨n1, rfl, g1⟩ := nat_of b1
  obtain ⟨n2, rfl, g2⟩ := nat_of b2
  obtain ⟨n3, rfl, g3⟩ := nat_of b3
  clear hA0 hval0
  refine (walk a0 a1 len0 len1 cap0 cap1 z0 z1 (four4 n0 n1 n2 n3) W w0 w1 (four4_lt g0 g1 g2 g3)).mono fun e W' ⟨he, bel⟩ => ?_
  subst he
  exact ⟨_, rfl, _, _, _, [], _, [], hW', trodAll_mk1 (shut_bool Try.underlying4 _), (trodAll_cons_mk (Below.trod laidOut (by kernel_rfl) (of_decide_eq_true (by kernel_rfl)) k0 bel lt0) (trodAll_cons_mk (Below.trod laidOut (by kernel_rfl) (of_decide_eq_true (by kernel_rfl)) k1 bel lt1) (trodAll_cons_mk (Below.trod laidOut (by kernel_rfl) (of_decide_eq_true (by kernel_rfl)) k2 bel lt2) trodAll_mk0))), rfl, bel.frame _, fun h => by cases h⟩

theorem over : Rows.fnConvertSymbolUseToCallConservesUsesPlusCallsRow.holds Try.pinned (OpenSpec.ofChange Rows.fnConvertSymbolUseToCallConservesUsesPlusCallsSpec) :=
  OpenClaim.holds_of_wide 3 Try.f3 rfl rfl rfl rfl rfl rfl rfl ⟨rfl, rfl, rfl, rfl, rfl⟩ rfl rfl rfl rfl rfl (by kernel_rfl) Try.func3 (by kernel_rfl)
    (of_decide_eq_true (by kernel_rfl)) (by unfold Func.isWrapper; first | (rw [if_pos (by decide +kernel)]; kernel_rfl) | (rw [if_neg (by decide +kernel)]; exact ⟨rfl, rfl⟩))
    (fun os started H enc _ => lifted os started H enc)

/-- The given statement. -/
theorem proved : Rows.FnConvertSymbolUseToCallConservesUsesPlusCallsSaid := over
#print axioms proved
end Go.Proofs.Ytkbcbicecogjmaa.fnConvertSymbolUseToCallConservesUsesPlusCalls
