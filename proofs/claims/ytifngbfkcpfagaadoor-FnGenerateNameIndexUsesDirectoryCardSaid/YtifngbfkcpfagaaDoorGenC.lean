/- The contract of 'strings.LastIndexAny' at a text whose last separator is a slash. No conditions beyond the hypotheses. -/
import Derived.Test.YtifngbfkcpfagaaDoorGenL
import Derived.Deep.WholeRow
import Derived.Shelf.Strings.AsciiSet
import Derived.Laws.Rows
namespace Go.Proofs.YtifngbfkcpfagaaDoor.gen
open Go.ChangeShapes Go.WideShapes Go.ChangeAt Go.RowKit Go.Mine
set_option linter.unusedVariables false
set_option maxRecDepth 1000000

/-- The text ends in a slash and what follows it. -/
def Cut (s : ByteArray) (a t : List UInt8) : Prop := s.data.toList = a ++ 47 :: t ∧ t ≠ [] ∧ Plain t
theorem Cut.size {s : ByteArray} {a t : List UInt8} (h : Cut s a t) : s.size = a.length + 1 + t.length ∧ 0 < t.length := by
  have h1 := congrArg List.length h.1
  have h2 : s.data.toList.length = s.size := by simp
  rw [h2] at h1
  simp at h1
  exact ⟨by omega, List.length_pos_iff.2 h.2.1⟩
theorem Cut.at {s : ByteArray} {a t : List UInt8} (h : Cut s a t) {i : Nat} (hi : i < s.size) (h2 : a.length < i) : (s[i]'hi) ≠ 47 ∧ (s[i]'hi) ≠ 92 := by
  have h3 := Lib.data_getElem? s i hi
  rw [h.1, List.getElem?_append_right (by omega), show i - a.length = (i - a.length - 1) + 1 by omega, List.getElem?_cons_succ] at h3
  exact h.2.2 _ (List.mem_of_getElem? h3)
theorem Cut.slash {s : ByteArray} {a t : List UInt8} (h : Cut s a t) (hi : a.length < s.size) : (s[a.length]'hi) = 47 := by
  have h3 := Lib.data_getElem? s a.length hi
  rw [h.1] at h3
  simp at h3
  exact h3.symm
abbrev setC : Array Value := Lib.setCells seps.data.toList
def Hit (n : Nat) (w : World) (e : Ending) (w' : World) : Prop := e = .returned (.int .i64 n) ∧ Below w.heap.size w w'
theorem info34 : (Tryd.prog.info? 34).map (fun i => (i.zero, i.size)) = some (some (.agg (Array.replicate 256 (.bool false))), 256) := by kernel_rfl
theorem size34 : (Tryd.prog.info? 34).map (·.size) = some 256 := by kernel_rfl
set_option maxHeartbeats 8000000 in
theorem last_long (s : ByteArray) (a t : List UInt8) (w : World) (h : Cut s a t) (h8 : 8 < s.size) (hs : s.size ≤ 4194304) :
    Calls Tryd.prog 13 #[.string s, .string seps] w (Hit a.length w) := by
  have hM := Tryd.strings_makeASCIISet (zero_of_info info34).1 seps w (by decide) (fun j b hb => by
    have hb' : b ∈ [(47 : UInt8), 92] := List.mem_of_getElem? hb
    simp at hb'
    rcases hb' with rfl | rfl <;> decide)
  have h8z : decide ((8 : Int) < (s.size : Int)) = true := decide_eq_true (by omega)
  have hn1 : ((s.size : Int) == 1) = false := beq_eq_false_iff_ne.2 (by omega)
  have hsz := Lib.setCells_size seps.data.toList
  have hsc : (storeCells ⟨w.heap.size + 1, 0, none⟩ (Lib.setCells seps.data.toList).toList 0).run Tryd.prog ((w.alloc (.cells (Lib.setCells seps.data.toList) 34)).alloc (.cells (Array.replicate 256 (.bool false)) 34)) = .ok () ((w.alloc (.cells (Lib.setCells seps.data.toList) 34)).alloc (.cells (Lib.setCells seps.data.toList) 34)) := by
    have := run_storeCells_new (P := Tryd.prog) (w.alloc (.cells (Lib.setCells seps.data.toList) 34)) 34 (Array.replicate 256 (.bool false)) (Lib.setCells seps.data.toList) (by rw [hsz]; exact size34) (by rw [hsz, Array.size_replicate]) (Lib.setCells_one _)
    simpa using this
  have hcellAt : ∀ x : UInt8, ((w.alloc (.cells (Lib.setCells seps.data.toList) 34)).alloc (.cells (Lib.setCells seps.data.toList) 34)).cell? ⟨w.heap.size + 1, x.toNat, none⟩ = some (.bool (seps.data.toList.contains x)) := fun x => by
    rw [World.cell?_alloc_at _ _ _ _ (by simp), Lib.setCells_at]
  have hv := (zero_of_info info34).1
  have HC := Lib.hid hcellAt
  have HK := Lib.hid h
  clear hcellAt h
  go_enter Tryd.func13, Tryd.ntmps13
  go_wp2_with (first
    | (go_at_call 16; (with_reducible refine (Tryd.strings_shouldUseASCIISet _ _).mono ?_); rintro e w' ⟨rfl, hw⟩; rw [hw, h8z])
    | (go_at_call 17; refine hM.mono ?_; rintro e w' ⟨rfl, hw⟩; rw [hw]))
  clear hM hsc hv
  have hka : a.length < s.size := by have := HK.out.size; omega
  have HB : Hid (Below w.heap.size w ((w.alloc (.cells (Lib.setCells [47, 92]) 34)).alloc (.cells (Lib.setCells [47, 92]) 34))) := Lib.hid (((Below.refl _ _).alloc (Nat.le_refl _) _).alloc (by simp) _)
  generalize (w.alloc (.cells (Lib.setCells [47, 92]) 34)).alloc (.cells (Lib.setCells [47, 92]) 34) = W at *
  go_loopg [8] s.size (fun g s8 wx => ∃ i : Nat, i + 1 = g ∧ a.length ≤ i ∧ i < s.size ∧ s8 = .int .i64 i ∧ wx = W)
  case atStart => exact ⟨s.size - 1, by omega, by have := HK.out.size; omega, by omega, by congr 1; omega, rfl⟩
  case round =>
    obtain ⟨i, hig, ha, hi, rfl, rfl⟩ := hrel
    have hiz : (i : Int) < (s.size : Int) := by omega
    have hcx := HC.out (s[i]'hi)
    by_cases e : i = a.length
    · subst e
      have hin : ([47, 92] : List UInt8).contains (s[a.length]'hi) = true := by rw [HK.out.slash hi]; decide
      rw [hin] at hcx
      clear hin
      go_wp2_with (go_at_call 18; (with_reducible refine (Tryd.asciiSet_contains _ _ _ _ hcx).mono ?_); rintro e w' ⟨rfl, hw⟩; rw [hw])
      go_ret
      exact ⟨rfl, HB.out⟩
    · have hq := HK.out.at hi (by omega)
      have hin : ([47, 92] : List UInt8).contains (s[i]'hi) = false := by
        simp
        exact ⟨hq.1, hq.2⟩
      rw [hin] at hcx
      clear hin hq
      obtain ⟨g', rfl⟩ : ∃ g', gk = g' + 1 := ⟨gk - 1, by omega⟩
      go_wp2_with (go_at_call 18; (with_reducible refine (Tryd.asciiSet_contains _ _ _ _ hcx).mono ?_); rintro e w' ⟨rfl, hw⟩; rw [hw])
      go_roundg g'
      case measure => omega
      case rel => exact ⟨i - 1, by omega, by omega, by omega, by congr 1; omega, rfl⟩
theorem extract_head (s : ByteArray) (i : Nat) : (s.extract 0 i).data.toList = s.data.toList.take i := by
  rw [ByteArray.data_extract]
  simp
theorem Cut.head {s : ByteArray} {a t : List UInt8} (h : Cut s a t) (i : Nat) (hi : a.length < i) : (s.extract 0 i).data.toList = a ++ 47 :: t.take (i - a.length - 1) := by
  rw [extract_head, h.1, List.take_append, List.take_of_length_le (by omega), show i - a.length = (i - a.length - 1) + 1 by omega, List.take_succ_cons]
  simp
set_option maxHeartbeats 8000000 in
theorem last_short (s : ByteArray) (a t : List UInt8) (w : World) (h : Cut s a t) (h8 : s.size ≤ 8) (hT : Lib.Utf8Tabs 1 2 w) :
    Calls Tryd.prog 13 #[.string s, .string seps] w (Hit a.length w) := by
  have hk := h.size
  have h8z : decide ((8 : Int) < (s.size : Int)) = false := decide_eq_false (by omega)
  have hn1 : ((s.size : Int) == 1) = false := beq_eq_false_iff_ne.2 (by omega)
  have h0 : a.length < s.size := by omega
  have HK := Lib.hid h
  have HT := Lib.hid hT
  clear h hT hk
  go_enter Tryd.func13, Tryd.ntmps13
  go_wp2_with (first
    | (go_at_call 16; (with_reducible refine (Tryd.strings_shouldUseASCIISet _ _).mono ?_); rintro e w' ⟨rfl, rfl⟩; rw [h8z]))
  have HT2 : Hid (∀ wr, Below w'.heap.size w' wr → Lib.Utf8Tabs 1 2 wr) := Lib.hid fun wr hb => Utf8Tabs_below HT.out hb
  clear HT
  go_loopg [13] s.size (fun g s13 wx => ∃ i : Nat, i ≤ g ∧ a.length < i ∧ i ≤ s.size ∧ s13 = .int .i64 i ∧ Below w'.heap.size w' wx)
  case atStart => exact ⟨s.size, Nat.le_refl _, h0, Nat.le_refl _, rfl, Below.refl _ _⟩
  case round =>
    obtain ⟨i, hig, ha, hi, rfl, hbw⟩ := hrel
    have hsx : (s.extract 0 i).size ≤ 9223372036854775807 := by rw [ByteArray.size_extract]; omega
    have hD := Tryd.utf8_DecodeLastRuneInString (s.extract 0 i) wr hsx (HT2.out _ hbw)
    rw [HK.out.head i ha] at hD
    have hi0 : 0 < i := by omega
    by_cases e : i = a.length + 1
    · subst e
      rw [show a.length + 1 - a.length - 1 = 0 by omega, List.take_zero, last_sep] at hD
      have HD := Lib.hid hD
      have HB := Lib.hid hbw
      clear hD hbw hsx
      go_wp2_with (first | (go_at_call 19; (with_reducible refine HD.out.mono ?_); rintro e w2 ⟨rfl, hb2⟩; have B2 := Lib.hid hb2; clear hb2) | (go_at_call 15; (with_reducible refine (irune_yes _).mono ?_); rintro e w3 ⟨rfl, hb3⟩; have B3 := Lib.hid hb3; clear hb3))
      go_ret
      exact ⟨by first | rfl | (congr 2; omega), below3 HB.out B2.out B3.out⟩
    · have hl := last_in a (t.take (i - a.length - 1)) (fun h => by
        have h1 : (t.take (i - a.length - 1)).length = 0 := by rw [h]; rfl
        rw [List.length_take] at h1
        have := HK.out.size
        omega) (fun b hb => HK.out.2.2 b (List.mem_of_mem_take hb))
      rw [List.length_take] at hl
      obtain ⟨l1, l2, l3, l4, l5⟩ := hl
      generalize (Lib.decodeLastL (a ++ 47 :: t.take (i - a.length - 1))).1 = D1 at *
      generalize (Lib.decodeLastL (a ++ 47 :: t.take (i - a.length - 1))).2 = D2 at *
      have l6 : D2 ≤ i - a.length - 1 := by omega
      have l7 : D2 < i := by omega
      have HI := Lib.hid (fun w' => irune_no D1 w' l5 l1 l2)
      have HD := Lib.hid hD
      have HB := Lib.hid hbw
      clear hD hbw hsx l4 l1 l2
      obtain ⟨g', rfl⟩ : ∃ g', gk = g' + 1 := ⟨gk - 1, by omega⟩
      go_wp2_with (first | (go_at_call 19; (with_reducible refine HD.out.mono ?_); rintro e w2 ⟨rfl, hb2⟩; have B2 := Lib.hid hb2; clear hb2) | (go_at_call 15; (with_reducible refine (HI.out _).mono ?_); rintro e w3 ⟨rfl, hb3⟩; have B3 := Lib.hid hb3; clear hb3))
      go_roundg g'
      case measure => omega
      case rel => exact ⟨i - D2, by omega, by omega, by omega, by congr 1; omega, below3 HB.out B2.out B3.out⟩
theorem last_any (s : ByteArray) (a t : List UInt8) (w : World) (h : Cut s a t) (hs : s.size ≤ 4194304) (hT : Lib.Utf8Tabs 1 2 w) : Calls Tryd.prog 13 #[.string s, .string seps] w (Hit a.length w) := by
  by_cases h8 : s.size ≤ 8
  · exact last_short s a t w h h8 hT
  · exact last_long s a t w h (by omega) hs
end Go.Proofs.YtifngbfkcpfagaaDoor.gen
