/- The contract of 'PlatformIndependentPathDirBaseExt' at a path whose last separator is a slash. No conditions beyond the hypotheses. -/
import Derived.Test.YtifngbfkcpfagaaDoorGenC
import Derived.BigGuardPart
import Derived.Deep.DeepCutAuto
import Derived.Deep.CutBlock
namespace Go.Proofs.YtifngbfkcpfagaaDoor.gen
open Go.ChangeShapes Go.WideShapes Go.ChangeAt Go.RowKit Go.Mine
set_option linter.unusedVariables false
set_option maxRecDepth 100000

/-- What is known of the place of the root's slash. -/
def Root (s : ByteArray) (n : Nat) (r : Int) : Prop := r = -1 ∨ r = 0 ∨ (r = 2 ∧ (n = 2 → s.data.toList[0]? ≠ some 47))
def Far (s : ByteArray) (n : Nat) : Prop := 3 ≤ n ∨ (n = 2 ∧ s.data.toList[0]? = some 47)
theorem Root.far {s : ByteArray} {n : Nat} {r : Int} (h : Root s n r) (hf : Far s n) : ((n : Int) == r) = false := by
  rw [beq_eq_false_iff_ne]
  rcases h with rfl | rfl | ⟨rfl, h⟩
  · omega
  · rcases hf with hf | hf <;> omega
  · rcases hf with hf | ⟨hf, h2⟩
    · omega
    · exact absurd h2 (h hf)
def PD (s : ByteArray) (n : Nat) (base ext : ByteArray) (w : World) (e : Ending) (w' : World) : Prop :=
  ∃ dir : ByteArray, e = .returned (.tuple #[.string dir, .string base, .string ext]) ∧ (Far s n → dir = s.extract 0 n) ∧ Below w.heap.size w w'
theorem Cut.tail {s : ByteArray} {a t : List UInt8} (h : Cut s a t) : (s.extract (a.length + 1) s.size).data.toList = t := by
  have hs : s.size = s.data.toList.length := by simp
  rw [ByteArray.data_extract, Array.toList_extract, List.extract_eq_take_drop, hs, h.1]
  simp [List.drop_append, List.drop_eq_nil_of_le]
  exact List.take_of_length_le (by omega)
theorem last_dot_none (B : ByteArray) (h : ∀ b ∈ B.data.toList, b ≠ 46) : Lib.lastIndexByte B 46 = -1 := by
  rcases Lib.lastIndexByte_spec B 46 with ⟨e, _⟩ | ⟨i, hi, _, hc, _⟩
  · exact e
  · exfalso
    have hi' : i < B.data.size := hi
    have hm : B.data[i] ∈ B.data.toList := by simp
    refine h _ hm ?_
    apply UInt8.toNat_inj.1
    rw [getElem!_pos B.data i hi'] at hc
    show _ = 46
    omega
theorem not_slash {s : ByteArray} (h : s.data.toList[0]? = some 47) (h0 : 0 < s.size) (hn : ¬ ((s[0]'h0).toNat : Int) = 47) : False := by
  rw [Lib.data_getElem? s 0 h0] at h
  injection h with h
  rw [h] at hn
  exact hn rfl
set_option maxHeartbeats 16000000 in
theorem pd_name (s : ByteArray) (a t : List UInt8) (w : World) (h : Cut s a t) (hd : ∀ b ∈ t, b ≠ 46) (hs : s.size ≤ 4194304) (hT : Lib.Utf8Tabs 1 2 w) :
    Calls Tryd.prog 9 #[.string s] w (PD s a.length (s.extract (a.length + 1) s.size) ⟨#[]⟩ w) := by
  have h0 : a.length < s.size := by have := h.size; omega
  have h1 : a.length + 1 < s.size := by have := h.size; omega
  have hne : ((a.length : Int) == -1) = false := by rw [beq_eq_false_iff_ne]; omega
  have hns : ((a.length : Int) + 1 != (s.size : Int)) = true := by simp; omega
  have HL := Lib.hid (last_any s a t w h hs hT)
  have HLB : Hid (∀ W, Calls Tryd.prog 14 #[.string (s.extract (a.length + 1) s.size), .int .u8 46] W fun e w' => e = .returned (.int .i64 (-1)) ∧ w' = W) := Lib.hid fun W => by
    have e1 := Tryd.strings_LastIndexByte (s.extract (a.length + 1) s.size) 46 (by rw [ByteArray.size_extract]; omega) W
    have hl : (s.extract (a.length + 1) s.size).data.toList = t := Cut.tail h
    rw [last_dot_none _ (by rw [hl]; exact hd)] at e1
    exact e1
  clear h
  go_enter Tryd.func9, Tryd.ntmps9
  go_upto_block 0 with fail
  all_goals
    as_aux_lemma =>
    go_wp2_with fail
    refine wp_loop_rounds 1 ?_
    rw [rounds_succ]
    go_wp2_with (first | (go_at_call 13; (with_reducible refine HL.out.mono ?_); rintro e w2 ⟨rfl, hb2⟩; have B2 := Lib.hid hb2; clear hb2))
    all_goals
      go_quiet (fail)
      go_wp2_with (first | (go_at_call 14; (with_reducible refine (HLB.out _).mono ?_); rintro e w3 ⟨rfl, rfl⟩))
      refine bodyPost_ret (results_tmp3 rfl _ _ _) rfl ⟨_, rfl, ?_, below2 B2.out (below_drewN' _)⟩
      first
        | exact fun _ => rfl
        | (intro hf
           exfalso
           first
             | (have hq : ((a.length : Int) == 0) = true := by assumption
                have hq' : (a.length : Int) = 0 := by simpa using hq
                rcases hf with hf | hf <;> omega)
             | (have hq : ((a.length : Int) == 2) = true := by assumption
                have hq' : (a.length : Int) = 2 := by simpa using hq
                rcases hf with hf | ⟨hf, h2⟩
                · omega
                · exact not_slash h2 _ (by assumption)))
def idxL : List UInt8 := [105, 110, 100, 101, 120, 46, 106, 115]
def idxB : ByteArray := ⟨#[105, 110, 100, 101, 120, 46, 106, 115]⟩
def idxY : ByteArray := ⟨#[105, 110, 100, 101, 120]⟩
def idxX : ByteArray := ⟨#[46, 106, 115]⟩
set_option maxHeartbeats 16000000 in
theorem pd_index (s : ByteArray) (a : List UInt8) (w : World) (h : Cut s a idxL) (hs : s.size ≤ 4194304) (hT : Lib.Utf8Tabs 1 2 w) :
    Calls Tryd.prog 9 #[.string s] w (PD s a.length idxY idxX w) := by
  have h0 : a.length < s.size := by have := h.size; omega
  have h1 : a.length + 1 < s.size := by have := h.size; omega
  have hne : ((a.length : Int) == -1) = false := by rw [beq_eq_false_iff_ne]; omega
  have hns : ((a.length : Int) + 1 != (s.size : Int)) = true := by simp; omega
  have HL := Lib.hid (last_any s a idxL w h hs hT)
  have hB : s.extract (a.length + 1) s.size = idxB := ByteArray.ext (Array.toList_inj.1 (Cut.tail h))
  have HLB : Hid (∀ W, Calls Tryd.prog 14 #[.string idxB, .int .u8 46] W fun e w' => e = .returned (.int .i64 5) ∧ w' = W) := Lib.hid fun W => Tryd.strings_LastIndexByte idxB 46 (by decide) W
  have bsz : idxB.size = 8 := rfl
  have hy : idxB.extract 0 5 = idxY := by decide +kernel
  have hx : idxB.extract 5 8 = idxX := by decide +kernel
  have hX : (idxX.toList == [46, 99, 115, 115]) = false := by decide +kernel
  generalize idxB = B at *
  generalize idxX = X at *
  generalize idxY = Y at *
  clear h
  go_enter Tryd.func9, Tryd.ntmps9
  go_upto_block 0 with fail
  all_goals
    as_aux_lemma =>
    go_wp2_with fail
    refine wp_loop_rounds 1 ?_
    rw [rounds_succ]
    go_wp2_with (first | (go_at_call 13; (with_reducible refine HL.out.mono ?_); rintro e w2 ⟨rfl, hb2⟩; have B2 := Lib.hid hb2; clear hb2))
    all_goals
      go_quiet (fail)
      go_wp2_with (first | (go_at_call 14; (with_reducible refine (HLB.out _).mono ?_); rintro e w3 ⟨rfl, rfl⟩))
      refine bodyPost_ret (results_tmp3 rfl _ _ _) rfl ⟨_, rfl, ?_, below2 B2.out (below_drewN' _)⟩
      first
        | exact fun _ => rfl
        | (intro hf
           exfalso
           first
             | (have hq : ((a.length : Int) == 0) = true := by assumption
                have hq' : (a.length : Int) = 0 := by simpa using hq
                rcases hf with hf | hf <;> omega)
             | (have hq : ((a.length : Int) == 2) = true := by assumption
                have hq' : (a.length : Int) = 2 := by simpa using hq
                rcases hf with hf | ⟨hf, h2⟩
                · omega
                · exact not_slash h2 _ (by assumption)))
end Go.Proofs.YtifngbfkcpfagaaDoor.gen
