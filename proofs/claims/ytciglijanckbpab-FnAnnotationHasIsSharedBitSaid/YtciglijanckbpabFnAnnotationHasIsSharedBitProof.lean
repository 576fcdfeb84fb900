/- Proves the given statement 'Rows.FnAnnotationHasIsSharedBitSaid' (FnAnnotationHasIsSharedBit): for every input the law returns true. No conditions. The frame is the kit's proof-skeleton; the walk is ours. -/
import Derived.Deep.Light
import Derived.Laws.BitsAllLaws
import Derived.Test.YtciglijanckbpabRows
import Derived.WalkKit
import Derived.ProofKit
import Derived.OpenShut
import Derived.ShutString
namespace Go.Proofs.Ytciglijanckbpab.fnAnnotationHasIsSharedBit
open Go.ChangeShapes Go.WideShapes Go.ChangeAt Go.RowKit
open Go.ChangeMaps (open_string shut_string)
set_option linter.unusedVariables false      -- a walk need not use every 'w<i>' (that an integer argument fits its kind)

theorem own : ownKnob Try.prog.godebug = none := by kernel_rfl

theorem ret_bool {b : Bool} (h : b = true) : Ending.returned (.bool b) = .returned (.bool true) := by rw [h]
def bitAt (a : Int) (k : Nat) : Bool := (a / 2 ^ k).tmod 2 == 1
def shTo (a b : Int) : Nat → Bool
  | 0 => false
  | k + 1 => shTo a b k || (bitAt a k && bitAt b k)
theorem bitAt_nat (n k : Nat) : bitAt (n : Int) k = n.testBit k := by
  unfold bitAt
  rw [Nat.testBit_eq_decide_div_mod_eq]
  have e : ((n : Int) / 2 ^ k).tmod 2 = ((n / 2 ^ k % 2 : Nat) : Int) := by
    have : ((n : Int) / 2 ^ k) = ((n / 2 ^ k : Nat) : Int) := by simp
    rw [this]; rfl
  rw [e, Bool.eq_iff_iff, beq_iff_eq, decide_eq_true_iff]; generalize n / 2 ^ k = q; omega
theorem shTo_iff (n m k : Nat) : shTo n m k = true ↔ ∃ j, j < k ∧ n.testBit j = true ∧ m.testBit j = true := by
  induction k with
  | zero => simp [shTo]
  | succ k ih =>
    simp only [shTo, Bool.or_eq_true, Bool.and_eq_true, ih, bitAt_nat]
    constructor
    · rintro (⟨j, h, x⟩ | x)
      · exact ⟨j, by omega, x⟩
      · exact ⟨k, by omega, x⟩
    · rintro ⟨j, h, x⟩
      by_cases hj : j = k
      · subst hj; exact Or.inr x
      · exact Or.inl ⟨j, by omega, x⟩
theorem has_eq (a b : Int) (h0 : 0 ≤ a ∧ a ≤ 255) (h1 : 0 ≤ b ∧ b ≤ 255) : ((bits BinOp.and IntKind.u8 a b != 0) == shTo a b 8) = true := by
  obtain ⟨n, rfl⟩ := Int.eq_ofNat_of_zero_le h0.1
  obtain ⟨m, rfl⟩ := Int.eq_ofNat_of_zero_le h1.1
  rw [u8_and_nat n m (by omega) (by omega), beq_iff_eq, Bool.eq_iff_iff, shTo_iff]
  have hn : n < 2 ^ 8 := by omega
  constructor
  · intro h
    have hne : n &&& m ≠ 0 := by simpa using h
    obtain ⟨i, hi⟩ := Nat.exists_testBit_of_ne_zero hne
    rw [Nat.testBit_and, Bool.and_eq_true] at hi
    refine ⟨i, ?_, hi⟩
    apply Classical.byContradiction
    intro hge
    have := Nat.testBit_lt_two_pow (x := n) (i := i) (Nat.lt_of_lt_of_le hn (Nat.pow_le_pow_right (by omega) (by omega)))
    rw [this] at hi; exact absurd hi.1 (by simp)
  · rintro ⟨j, _, x⟩
    have : (n &&& m).testBit j = true := by rw [Nat.testBit_and, x.1, x.2]; rfl
    have hne : n &&& m ≠ 0 := by intro h; rw [h] at this; simp at this
    simpa using hne
theorem sh_yes {a b : Int} {k : Nat} (h1 : (a / 2 ^ k).tmod 2 = 1) (h2 : ((b / 2 ^ k).tmod 2 == 1) = true) : shTo a b (k + 1) = true := by
  simp [shTo, bitAt, h1, h2]
theorem sh_no1 {a b : Int} {k : Nat} (h1 : ¬ (a / 2 ^ k).tmod 2 = 1) : shTo a b (k + 1) = shTo a b k := by
  simp [shTo, bitAt, h1]
theorem sh_no2 {a b : Int} {k : Nat} (h2 : ((b / 2 ^ k).tmod 2 == 1) = false) : shTo a b (k + 1) = shTo a b k := by
  simp [shTo, bitAt, h2]

theorem walk (a0 : Int) (a1 : Int) (w0 : (Lit.int .u8 a0).wf = true) (w1 : (Lit.int .u8 a1).wf = true) (w : World) :
    Calls Try.prog 3 #[.int .u8 a0, .int .u8 a1] w fun e w' => e = .returned (.bool true) ∧ Grown w w' := by
  have hb0 := bounds_u8 w0
  have hb1 := bounds_u8 w1
  go_enter Try.func3, Try.ntmps3
  go_wp2
  go_loop [5, 6] (fun s i => ∃ k : Nat, k ≤ 8 ∧ i = .int .i64 k ∧ s = .bool (shTo a0 a1 k)) (fun _ i => 8 - (intOf i).toNat)
  case atStart => exact ⟨0, Nat.zero_le _, rfl, rfl⟩
  case round =>
    obtain ⟨k, hk, rfl, rfl⟩ := hrel
    by_cases hlt : k < 8
    · go_wp2
      all_goals
        go_round
        case rel => exact ⟨k + 1, by omega, by go_num, by first | rw [sh_yes ‹_› ‹_›] | rw [sh_no2 ‹_›] | rw [sh_no1 ‹_›]⟩
        case measure => simp [intOf]; omega
    · go_wp2
      go_ret
      obtain rfl : k = 8 := by omega
      exact ⟨ret_bool (has_eq a0 a1 hb0 hb1), Grown.refl _⟩

/-! ### THE ROW's STEP: WRITTEN OUT: LEAVE IT -/
set_option maxRecDepth 100000 in
theorem lifted (os : Os) (started : os.Started) (H : Type) (enc : TypeId × Value → H) :
    ReturnsInHanded {} Try.checked os 3 .any (Rows.fnAnnotationHasIsSharedBitSpec.pre6 enc Try.prog Try.f3 Rows.fnAnnotationHasIsSharedBitRow.domain false) (Rows.fnAnnotationHasIsSharedBitSpec.post enc Try.prog Try.f3 false true false false) := by
  refine returnsInHanded_of_change (C := Try.checked) own started (by kernel_rfl) Try.func3
    (ChangeSpec.witness6 (enc := enc) (C := Try.checked) false ⟨#[], #[.int .u8 0, .int .u8 0], []⟩ 8 (by kernel_rfl) (by kernel_rfl) (by kernel_rfl) (by kernel_rfl)) ?_
  intro W base args ds gs before hval0 hW hcnd _
  have hval : ∀ (j : Nat) t v, Try.f3.params[j]? = some t → args[j]? = some v → Value.okWide Try.prog W .any base t v := hval0
  have hW' := hW
  obtain ⟨p, q, hA0, hV, rfl, hfz, hnd⟩ := hW
  have hA : DataW.TrodAll enc Try.prog W 0 (fun _ => true) true Try.f3.params.toList args.toList ds p := hA0
  rw [Try.params3] at hA hval
  obtain ⟨v0, vs0, d0, ds0, p0, q0, hargs, rfl, rfl, h0, r0⟩ := trodAll_cons hA
  obtain ⟨v1, vs1, d1, ds1, p1, q1, rfl, rfl, rfl, h1, r1⟩ := trodAll_cons r0
  obtain ⟨rfl, rfl, rfl⟩ := trodAll_nil r1
  obtain rfl : args = #[v0, v1] := by cases args; simp_all
  obtain ⟨rfl, rfl⟩ := trodVars_none hV
  obtain ⟨a0, rfl, rfl, rfl, w0⟩ := open_int Try.underlying5 (hval 0 5 v0 rfl rfl) h0
  obtain ⟨a1, rfl, rfl, rfl, w1⟩ := open_int Try.underlying5 (hval 1 5 v1 rfl rfl) h1
  clear hA0 hval0
  simp only [List.append_nil] at hW'
  refine (walk a0 a1 w0 w1 W).mono fun e W' ⟨he, hg⟩ => ?_
  subst he
  exact ⟨_, rfl, post_of_same (pa := []) (pv := []) hW' (fun _ _ _ => (trodAll_cons_mk (shut_bool Try.underlying4 _) trodAll_mk0)) (fun sp _ => (trodAll_cons_mk (shut_int Try.underlying5 w0) (trodAll_cons_mk (shut_int Try.underlying5 w1) trodAll_mk0))) (fun _ _ => rfl) rfl
    (hg.frame _) hg.2.1 (ok_one (by kernel_rfl) rfl (okWide_bool_mk Try.underlying4 _))⟩

theorem over : Rows.fnAnnotationHasIsSharedBitRow.holds Try.pinned (OpenSpec.ofChange Rows.fnAnnotationHasIsSharedBitSpec) :=
  OpenClaim.holds_of_wide 3 Try.f3 rfl rfl rfl rfl rfl rfl rfl ⟨rfl, rfl, rfl, rfl, rfl⟩ rfl rfl rfl rfl rfl (by kernel_rfl) Try.func3 (by kernel_rfl)
    (of_decide_eq_true (by kernel_rfl)) (by unfold Func.isWrapper; first | (rw [if_pos (by decide +kernel)]; kernel_rfl) | (rw [if_neg (by decide +kernel)]; exact ⟨rfl, rfl⟩))
    (fun os started H enc _ => lifted os started H enc)

/-- ████ THE STATEMENT ████ -/
theorem proved : Rows.FnAnnotationHasIsSharedBitSaid :=
  over
#print axioms proved
end Go.Proofs.Ytciglijanckbpab.fnAnnotationHasIsSharedBit
