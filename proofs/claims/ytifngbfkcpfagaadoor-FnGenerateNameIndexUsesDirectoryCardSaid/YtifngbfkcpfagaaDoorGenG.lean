/- The contract of 'GenerateNonUniqueNameFromPath' at a path that ends in a directory's name and 'index.js'. No conditions beyond the hypotheses. -/
import Derived.Test.YtifngbfkcpfagaaDoorGenD
import Derived.Test.YtifngbfkcpfagaaDoorGenB
namespace Go.Proofs.YtifngbfkcpfagaaDoor.gen
open Go.ChangeShapes Go.WideShapes Go.ChangeAt Go.RowKit Go.Mine
set_option linter.unusedVariables false
set_option maxRecDepth 100000

theorem far_of {P : ByteArray} {l d r : List UInt8} (h : P.data.toList = (l ++ 47 :: d) ++ 47 :: r) (hd : d ≠ []) : Far P (l ++ 47 :: d).length := by
  have h1 := List.length_pos_iff.2 hd
  by_cases h3 : 3 ≤ (l ++ 47 :: d).length
  · exact .inl h3
  · have hl : l = [] := by
      simp only [List.length_append, List.length_cons] at h3
      exact List.length_eq_zero_iff.1 (by omega)
    subst hl
    refine .inr ⟨?_, ?_⟩
    · simp only [List.length_append, List.length_cons, List.length_nil] at h3 ⊢
      omega
    · rw [h]
      rfl
theorem cut_dir {P : ByteArray} {l d r : List UInt8} (h : P.data.toList = (l ++ 47 :: d) ++ 47 :: r) (hd : d ≠ []) (hp : Plain d) : Cut (P.extract 0 (l ++ 47 :: d).length) l d := by
  refine ⟨?_, hd, hp⟩
  rw [extract_head, h]
  exact List.take_left' rfl
set_option maxHeartbeats 4000000 in
theorem gen6 (s P : ByteArray) (l : List UInt8) (w : World) (h : P.data.toList = (l ++ 47 :: s.data.toList) ++ 47 :: idxL) (h0 : s.data.toList ≠ []) (hp : Plain s.data.toList) (hd : ∀ b ∈ s.data.toList, b ≠ 46) (hs : s.size ≤ 1048576) (hP : P.size ≤ 4194304) (hT : Lib.Utf8Tabs 1 2 w) :
    Calls Tryd.prog 6 #[.string P] w (EnsRes s w) := by
  have hC : Cut P (l ++ 47 :: s.data.toList) idxL := ⟨h, by decide, by unfold Plain idxL; decide⟩
  have hf := far_of h h0
  have hD := cut_dir h h0 hp
  have hz := hC.size.1
  have hsz : (P.extract 0 (l ++ 47 :: s.data.toList).length).size ≤ 4194304 := by rw [ByteArray.size_extract]; omega
  have hbase : (P.extract 0 (l ++ 47 :: s.data.toList).length).extract (l.length + 1) (P.extract 0 (l ++ 47 :: s.data.toList).length).size = s := ByteArray.ext (Array.toList_inj.1 hD.tail)
  have H1 := Lib.hid (pd_index P _ w hC hP hT)
  have H2 : Hid (∀ w', Below w.heap.size w w' → Calls Tryd.prog 9 #[.string (P.extract 0 (l ++ 47 :: s.data.toList).length)] w' (PD (P.extract 0 (l ++ 47 :: s.data.toList).length) l.length s ⟨#[]⟩ w')) := Lib.hid fun w' hb => by
    have := pd_name _ _ _ w' hD hd hsz (Utf8Tabs_below hT hb)
    rw [hbase] at this
    exact this
  have H3 := Lib.hid (fun w' => ensure s w' hs)
  have hsn : s.toList ≠ [] := fun e => h0 (by rw [← Lib.toList_data]; exact e)
  have hsn1 : (s.toList != []) = true := by simpa using hsn
  have hsn2 : (s.toList == []) = false := by simpa using hsn
  have hy : (idxY.toList == [105, 110, 100, 101, 120]) = true := by decide +kernel
  have HF := Lib.hid hf
  generalize (l ++ 47 :: s.data.toList).length = n at *
  clear hC hf hD hz hsz hbase h
  obtain ⟨D, hDe⟩ : ∃ D, P.extract 0 n = D := ⟨_, rfl⟩
  rw [hDe] at H2
  have HDE := Lib.hid hDe
  clear hDe
  generalize idxX = X at *
  generalize idxY = Y at *
  clear hsn h0 hp hd
  go_enter Tryd.func6, Tryd.ntmps6
  go_wp2_with fail
  refine H1.out.mono ?_
  rintro e w1 ⟨dir, rfl, hdir, hb1⟩
  obtain rfl : dir = D := (hdir HF.out).trans HDE.out
  clear hdir
  have B1 := Lib.hid hb1
  clear hb1
  go_wp2_with fail
  refine (H2.out _ B1.out).mono ?_
  rintro e w2 ⟨dir2, rfl, _, hb2⟩
  have B2 := Lib.hid hb2
  clear hb2
  go_wp2_with fail
  refine (H3.out _).mono ?_
  rintro e w3 ⟨rfl, hb3⟩
  have B3 := Lib.hid hb3
  clear hb3
  go_wp2_with fail
  go_ret
  exact ⟨rfl, below3 B1.out B2.out B3.out⟩
end Go.Proofs.YtifngbfkcpfagaaDoor.gen
