/- The contract of 'EnsureValidIdentifier'. No conditions beyond its hypothesis. -/
import Derived.Test.YtifngbfkcpfagaaDoorRows
import Derived.Test.YtifngbfkcpfagaaDoorLib
import Derived.Test.YtifngbfkcpfagaaDoorGenP
import Derived.Lib.OthersKept
import Derived.Laws.BytesArg
import Derived.Deep.LoopGhost
import Derived.Outline
namespace Go.Proofs.YtifngbfkcpfagaaDoor.gen
open Go.ChangeShapes Go.WideShapes Go.ChangeAt Go.RowKit Go.Mine
set_option linter.unusedVariables false
set_option maxRecDepth 100000

theorem info5 : (Tryd.prog.info? 5).map (fun i => (i.zero, i.size, i.bytes)) = some (some (.int .u8 0), 1, 1) := by kernel_rfl
def cellsOf (l : List Int) : List Value := l.map (Value.int .u8)
def EnsRes (s : ByteArray) (w : World) (e : Ending) (w' : World) : Prop :=
  e = .returned (.string (strOfNums (outOf s))) ∧ Below w.heap.size w w'

theorem own_iterAt {w : World} {B e size n : Nat} {v : Value} {xs : List Value} {k : Nat} {s : ByteArray} {pos : Nat} (h : w.ownsRow B e size v n xs) (hk : w.heap[k]? = some (.stringIter s pos)) (pos' : Nat) : (w.iterAt k s pos').ownsRow B e size v n xs := by
  refine ⟨h.1, ?_⟩
  rcases h.2 with h0 | ⟨g, cap, cur, hv, hb, hg, rest⟩
  · exact .inl h0
  · refine .inr ⟨g, cap, cur, hv, hb, ?_, rest⟩
    rw [Lib.iterAt_other _ _ _ _ _ (fun e => by subst e; rw [hk] at hg; cases hg)]
    exact hg
theorem own_ne_iter {w : World} {B e size n : Nat} {v : Value} {xs : List Value} {k : Nat} {s : ByteArray} {pos : Nat} (h : w.ownsRow B e size v n xs) (hk : w.heap[k]? = some (.stringIter s pos)) : some k ≠ v.ownBlock := by
  rcases h.2 with ⟨rfl, _⟩ | ⟨g, cap, cur, rfl, hb, hg, rest⟩
  · simp [Value.ownBlock]
  · intro e
    simp only [Value.ownBlock, Option.some.injEq] at e
    subst e
    rw [hk] at hg
    cases hg
theorem own_form {w : World} {B e size n : Nat} {v : Value} {xs : List Value} (h : w.ownsRow B e size v n xs) : ∃ a c, v = .slice a n c := by
  rcases h.2 with ⟨rfl, rfl⟩ | ⟨g, cap, cur, rfl, _⟩
  · exact ⟨_, _, rfl⟩
  · exact ⟨_, _, rfl⟩
theorem app_keep {w W w1 : World} {n k pos : Nat} {s : ByteArray} {v : Value} {xs : List Value} {o : Obj} (hb : Below w.heap.size w W) (ho : W.ownsRow w.heap.size 5 1 v n xs)
    (hit : W.heap[k]? = some (.stringIter s pos)) (hg : (W.alloc o).grownBy w1 v.ownBlock) : Below w.heap.size w w1 ∧ w1.heap[k]? = some (.stringIter s pos) := by
  have hk : k < W.heap.size := (Array.getElem?_eq_some_iff.1 hit).1
  refine ⟨Below.grown (hb.alloc hb.size o) hg (by have := hb.size; simp; omega) (fun k hk => (ho.lt k hk).1), ?_⟩
  rw [hg.block k (by simp; omega) (own_ne_iter ho hit), Below.heap_alloc _ _ _ hk]
  exact hit

theorem iter_start (w : World) (s : ByteArray) : ((w.alloc (.cells #[] 5)).iter s 0).heap[w.heap.size + 1]? = some (.stringIter s 0) := by
  have h := World.iter_heap (w.alloc (.cells #[] 5)) s 0
  rw [World.size_alloc] at h
  exact h
theorem cells_app (l : List Int) (c : Int) : cellsOf l ++ [.int .u8 c] = cellsOf (l ++ [c]) := by simp [cellsOf]
/-- What one round of the loop leaves, with the next relation's parts. -/
def Next (s : ByteArray) (w : World) (pos : Nat) (v : Value) (gb : Bool) (l : List Int) (w1 : World) : Prop :=
  w1.ownsRow w.heap.size 5 1 v l.length (cellsOf l) ∧ w1.heap[w.heap.size + 1]? = some (.stringIter s pos) ∧ Below w.heap.size w w1 ∧ Inv s pos l gb

set_option maxHeartbeats 4000000 in
theorem ensure (s : ByteArray) (w : World) (hs : s.size ≤ 1048576) : Calls Tryd.prog 10 #[.string s] w (EnsRes s w) := by
  obtain ⟨i0, hi, hz0, hz1, hz2⟩ := info_parts info5
  go_enter Tryd.func10, Tryd.ntmps10
  go_wp2
  go_loopg [3, 4] s.size (fun gf s3 s4 wx => ∃ (pos : Nat) (l : List Int) (gb : Bool) (n : Nat) (a : Option Addr) (c : Nat), s3 = .slice a n c ∧ s4 = .bool gb ∧ Hid (n = l.length) ∧
      wx.ownsRow w.heap.size 5 1 (.slice a n c) n (cellsOf l) ∧ wx.heap[w.heap.size + 1]? = some (.stringIter s pos) ∧ Below w.heap.size w wx ∧ Hid (Inv s pos l gb) ∧ s.size ≤ pos + gf)
  case atStart =>
    exact ⟨0, [], false, 0, _, _, rfl, rfl, rfl, (World.ownsRow_made w #[] 0 (Nat.le_refl _) (Nat.zero_le _) rfl).alloc _, iter_start w s, ((Below.refl _ _).alloc (Nat.le_refl _) _).alloc (by simp) _, inv_start s, by omega⟩
  case round =>
    obtain ⟨pos, l, gb, n, a, c, rfl, rfl, hn, hown, hit, hbw, hinv, hfu⟩ := hrel
    have hnl : n ≤ s.size := by rw [hn.out]; exact inv_len hinv.out
    by_cases hlt : pos < s.size
    · obtain ⟨g', rfl⟩ : ∃ g', gk = g' + 1 := ⟨gk - 1, by omega⟩
      have hnx : ∀ ty, (Instr.next (.pointer (some ⟨w.heap.size + 1, 0, none⟩)) true ty).run Tryd.prog wr = _ := fun ty => Lib.run_next_any_at wr _ s pos ty hit hlt
      have hK1 := (step_rune s pos hlt).1
      have hR1 := decode_le s pos
      have HI0 := fun (e : l = []) (q : ¬ ltrI ((Utf8.decode s pos).1 : Int)) => inv_skip0 hlt (e ▸ hinv.out) q
      have HI1 := fun (q : 0 < l.length) (h : ¬ alnI ((Utf8.decode s pos).1 : Int)) => inv_skip hlt hinv.out q h
      have HI2 := fun (e : l = []) (q : ltrI ((Utf8.decode s pos).1 : Int)) => inv_first hlt (e ▸ hinv.out) q
      have HI3 := fun (e : gb = false) (q : 0 < l.length) (h : alnI ((Utf8.decode s pos).1 : Int)) => inv_app hlt (e ▸ hinv.out) q h
      have HI4 := fun (e : gb = true) (q : 0 < l.length) (h : alnI ((Utf8.decode s pos).1 : Int)) => inv_gap hlt (e ▸ hinv.out) q h
      obtain ⟨K, hK⟩ : ∃ K, (Utf8.decode s pos).2 = K := ⟨_, rfl⟩
      obtain ⟨R, hR⟩ : ∃ R : Int, ((Utf8.decode s pos).1 : Int) = R := ⟨_, rfl⟩
      have hR0 : 0 ≤ R := by omega
      have hR2 : R ≤ 2147483647 := by omega
      rw [hR, hK] at hnx
      rw [hK] at hK1 HI0 HI1 HI2 HI3 HI4
      rw [hR] at HI0 HI1 HI2 HI3 HI4
      have hit2 := Lib.iterAt_heap wr _ s pos (pos + K) hit
      have hbw2 := Lib.below_iterAt hbw (k := w.heap.size + 1) (by omega) s (pos + K)
      have hown2 := own_iterAt hown hit (pos + K)
      obtain ⟨W, hWd⟩ : ∃ W, wr.iterAt (w.heap.size + 1) s (pos + K) = W := ⟨_, rfl⟩
      rw [hWd] at hnx hit2 hbw2 hown2
      have HO := Lib.hid hown2
      have HB := Lib.hid hbw2
      have HT := Lib.hid hit2
      have J0 := Lib.hid HI0
      have J1 := Lib.hid HI1
      have J2 := Lib.hid HI2
      have J3 := Lib.hid HI3
      have J4 := Lib.hid HI4
      clear hWd hK hR hR1 hown hit hbw hown2 hbw2 hit2 HI0 HI1 HI2 HI3 HI4 hinv
      have hfu2 : s.size ≤ pos + K + g' := by omega
      have hcl : R < 48 ∨ (48 ≤ R ∧ R ≤ 57) ∨ (58 ≤ R ∧ R ≤ 64) ∨ (65 ≤ R ∧ R ≤ 90) ∨ (91 ≤ R ∧ R ≤ 96) ∨ (97 ≤ R ∧ R ≤ 122) ∨ 123 ≤ R := by omega
      by_cases hz : n = 0
      · subst hz
        have hl0 : l = [] := List.length_eq_zero_iff.1 hn.out.symm
        subst hl0
        clear hn
        rcases hcl with h | ⟨h, h'⟩ | ⟨h, h'⟩ | ⟨h, h'⟩ | ⟨h, h'⟩ | ⟨h, h'⟩ | h
        case inr.inr.inr.inl | inr.inr.inr.inr.inr.inl =>
          have hJ := Lib.hid (J2.out rfl (by unfold ltrI; omega))
          obtain rfl := hJ.out.1
          go_wp2_with (first | (at_builtin; (refine wpList_append_own _ rfl _ _ 28 rfl w.heap.size 5 i0 (.int .u8 0) 1 1 Tryd.underlying28 hi hz0 hz1 hz2 rfl (by decide) _ _ _ rfl (HO.out.alloc _) ⟨W.heap.size, 0, none⟩ 1 1 [.int .u8 R] rfl rfl (cell_one_new _ _ _) (fun x hx => by simp at hx; subst hx; rfl) (by unfold maxLen; omega) (by omega) (by have := HB.out.size; simp; omega) ?_); intro v' w3 hown' hgrow3 hnil3))
          obtain ⟨a', c', rfl⟩ := own_form hown'
          have hk := app_keep HB.out HO.out HT.out hgrow3
          have HO3 := Lib.hid hown'
          clear hown' hgrow3 hnil3
          have HK3 := Lib.hid hk
          clear hk
          go_wp2_with fail
          go_roundg g'
          case measure => omega
          case rel => exact ⟨pos + K, [R], false, 1, a', c', rfl, rfl, rfl, HO3.out, HK3.out.2, HK3.out.1, hJ.out.2, hfu2⟩
        all_goals
          have hJ := Lib.hid (J0.out rfl (by unfold ltrI; omega))
          go_wp2_with fail
          go_roundg g'
          case measure => omega
          case rel => exact ⟨pos + K, [], gb, 0, a, c, rfl, rfl, rfl, HO.out, HT.out, HB.out, hJ.out, hfu2⟩
      · have hz' : 0 < n := by omega
        have hl0 : 0 < l.length := by rw [← hn.out]; exact hz'
        have HL := Lib.hid hl0
        clear hl0 hz
        rcases hcl with h | ⟨h, h'⟩ | ⟨h, h'⟩ | ⟨h, h'⟩ | ⟨h, h'⟩ | ⟨h, h'⟩ | h
        case inr.inl | inr.inr.inr.inl | inr.inr.inr.inr.inr.inl =>
          cases gb with
          | false =>
            have hJ := Lib.hid (J3.out rfl HL.out (by unfold alnI ltrI digI; omega))
            go_wp2_with (first | (at_builtin; (refine wpList_append_own _ rfl _ _ 28 rfl w.heap.size 5 i0 (.int .u8 0) 1 1 Tryd.underlying28 hi hz0 hz1 hz2 rfl (by decide) _ _ _ rfl (HO.out.alloc _) ⟨W.heap.size, 0, none⟩ 1 1 [.int .u8 R] rfl rfl (cell_one_new _ _ _) (fun x hx => by simp at hx; subst hx; rfl) (by unfold maxLen; omega) (by omega) (by have := HB.out.size; simp; omega) ?_); intro v' w3 hown' hgrow3 hnil3))
            obtain ⟨a', c', rfl⟩ := own_form hown'
            have hk := app_keep HB.out HO.out HT.out hgrow3
            have HO3 := Lib.hid hown'
            clear hown' hgrow3 hnil3
            have HK3 := Lib.hid hk
            clear hk
            go_wp2_with fail
            go_roundg g'
            case measure => omega
            case rel => exact ⟨pos + K, l ++ [R], false, n + 1, a', c', rfl, rfl, (by show n + 1 = _; rw [List.length_append, ← hn.out]; rfl), (by rw [← cells_app]; exact HO3.out), HK3.out.2, HK3.out.1, hJ.out, hfu2⟩
          | true =>
            have hJ := Lib.hid (J4.out rfl HL.out (by unfold alnI ltrI digI; omega))
            go_upto_region 9 with (first | (at_builtin; (refine wpList_append_own _ rfl _ _ 28 rfl w.heap.size 5 i0 (.int .u8 0) 1 1 Tryd.underlying28 hi hz0 hz1 hz2 rfl (by decide) _ _ _ rfl (HO.out.alloc _) ⟨W.heap.size, 0, none⟩ 1 1 [.int .u8 95] rfl rfl (cell_one_new _ _ _) (fun x hx => by simp at hx; subst hx; rfl) (by unfold maxLen; omega) (by omega) (by have := HB.out.size; simp; omega) ?_); intro v' w3 hown' hgrow3 hnil3))
            obtain ⟨a', c', rfl⟩ := own_form hown'
            have hk := app_keep HB.out HO.out HT.out hgrow3
            have HO3 := Lib.hid hown'
            clear hown' hgrow3 hnil3
            have HK3 := Lib.hid hk
            clear hk
            go_wp2_with (first | (at_builtin; (refine wpList_append_own _ rfl _ _ 28 rfl w.heap.size 5 i0 (.int .u8 0) 1 1 Tryd.underlying28 hi hz0 hz1 hz2 rfl (by decide) _ _ _ rfl (HO3.out.alloc _) ⟨w3.heap.size, 0, none⟩ 1 1 [.int .u8 R] rfl rfl (cell_one_new _ _ _) (fun x hx => by simp at hx; subst hx; rfl) (by unfold maxLen; omega) (by omega) (by have := HK3.out.1.size; simp; omega) ?_); intro v4 w4 hown4 hgrow4 hnil4))
            obtain ⟨a4, c4, rfl⟩ := own_form hown4
            have hk := app_keep HK3.out.1 HO3.out HK3.out.2 hgrow4
            have HO4 := Lib.hid hown4
            clear hown4 hgrow4 hnil4
            have HK4 := Lib.hid hk
            clear hk
            go_wp2_with fail
            go_roundg g'
            case measure => omega
            case rel => exact ⟨pos + K, l ++ [95] ++ [R], false, n + 1 + 1, a4, c4, rfl, rfl, (by show n + 1 + 1 = _; rw [List.length_append, List.length_append, ← hn.out]; rfl), (by rw [← cells_app, ← cells_app]; exact HO4.out), HK4.out.2, HK4.out.1, hJ.out, hfu2⟩
        all_goals
          have hJ := Lib.hid (J1.out HL.out (by unfold alnI ltrI digI; omega))
          go_wp2_with fail
          go_roundg g'
          case measure => omega
          case rel => exact ⟨pos + K, l, true, n, a, c, rfl, rfl, hn, HO.out, HT.out, HB.out, hJ.out, hfu2⟩
    · have hnx : ∀ ty, (Instr.next (.pointer (some ⟨w.heap.size + 1, 0, none⟩)) true ty).run Tryd.prog wr = _ := fun ty => Lib.run_next_end_at wr _ s pos ty hit hlt
      have hpe : pos = s.size := by have := hinv.out.1; omega
      subst hpe
      have HV := Lib.hid hinv.out
      have HB := Lib.hid hbw
      rcases hown.2 with ⟨e, rfl⟩ | ⟨g, cap, cur, e, hg⟩
      · obtain rfl : c = 0 := by injection e
        obtain rfl : a = none := by injection e
        have HL : Hid (l = []) := List.length_eq_zero_iff.1 hn.out.symm
        clear hown e hn hinv hbw hit
        go_wp2_with fail
        go_ret
        refine ⟨?_, HB.out⟩
        unfold outOf
        rw [HV.out.2, HL.out]
        rfl
      · obtain rfl : a = some ⟨g, 0, none⟩ := by injection e
        have hcs := Lib.hid (hown.cells (g := g) rfl)
        by_cases hz : n = 0
        · subst hz
          have HL : Hid (l = []) := List.length_eq_zero_iff.1 hn.out.symm
          clear hown e hn hinv hbw hit hg
          go_wp2_with fail
          go_ret
          refine ⟨?_, HB.out⟩
          unfold outOf
          rw [HV.out.2, HL.out]
          rfl
        · have hz' : 0 < n := by omega
          have hcv := run_convert_bytes_arg (P := Tryd.prog) (w := wr) 28 5 Tryd.underlying28 Tryd.underlying5 g 0 n c l hn.out.symm (fun i hi => by
            have h := hcs.out i (.int .u8 (l.getD i 0)) (by have : i < l.length := by rw [← hn.out]; exact hi
                                                            simp [cellsOf, this])
            by_cases hi0 : i = 0
            · subst hi0; simpa [Addr.add] using h
            · simpa [Addr.add, hi0] using h) 9 Tryd.underlying9
          have HL := Lib.hid hn.out
          clear hown e hn hinv hbw hit hg hz
          go_wp2_with fail
          go_ret
          refine ⟨?_, HB.out⟩
          unfold outOf
          have hne : ¬ l = [] := fun h => by
            have := HL.out
            rw [h] at this
            simp at this
            omega
          rw [HV.out.2, if_neg hne]
          rfl
end Go.Proofs.YtifngbfkcpfagaaDoor.gen
