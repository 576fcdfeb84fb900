/- The contracts of 'StringToUTF16' and of the small builders. No conditions beyond the hypotheses. -/
import Derived.Test.YtoalhglknldpnaaDefB
import Derived.Lib.OthersKept
import Derived.Laws.RangeAny
import Derived.Laws.MakeOwn
import Derived.Deep.LoopGhost
import Derived.Outline
namespace Go.Proofs.Ytoalhglknldpnaa.df
open Go.ChangeShapes Go.WideShapes Go.ChangeAt Go.RowKit Go.Mine
set_option linter.unusedVariables false
set_option linter.unusedSimpArgs false
set_option maxRecDepth 100000

theorem infoU : (Try.prog.info? 197).map (fun i => (i.zero, i.size, i.bytes)) = some (some (.int .u16 0), 1, 2) := by kernel_rfl
theorem own_iterAt {w : World} {B e size n : Nat} {v : Value} {xs : List Value} {k : Nat} {s : ByteArray} {pos : Nat} (h : w.ownsRow B e size v n xs) (hk : w.heap[k]? = some (.stringIter s pos)) (pos' : Nat) : (w.iterAt k s pos').ownsRow B e size v n xs := by
  refine ⟨h.1, ?_⟩
  rcases h.2 with h0 | ⟨g, cap, cur, hv, hb, hg, rest⟩
  · exact .inl h0
  · refine .inr ⟨g, cap, cur, hv, hb, ?_, rest⟩
    rw [Lib.iterAt_other _ _ _ _ _ (fun e => by subst e; rw [hk] at hg; cases hg)]
    exact hg
theorem own_ne_iter {w : World} {B e size n : Nat} {v : Value} {xs : List Value} {k : Nat} {s : ByteArray} {pos : Nat} (h : w.ownsRow B e size v n xs) (hk : w.heap[k]? = some (.stringIter s pos)) : some k ≠ v.ownBlock := by
  rcases h.2 with ⟨rfl, _⟩ | ⟨g, cap, cur, rfl, hb, hg, rest⟩
  · simp [Value.ownBlock]
  · intro e
    simp only [Value.ownBlock, Option.some.injEq] at e
    subst e
    rw [hk] at hg
    cases hg
theorem own_form {w : World} {B e size n : Nat} {v : Value} {xs : List Value} (h : w.ownsRow B e size v n xs) : ∃ a c, v = .slice a n c := by
  rcases h.2 with ⟨rfl, rfl⟩ | ⟨g, cap, cur, rfl, _⟩
  · exact ⟨_, _, rfl⟩
  · exact ⟨_, _, rfl⟩
theorem app_keep {w W w1 : World} {n k pos : Nat} {s : ByteArray} {v : Value} {xs : List Value} {o : Obj} (hb : Below w.heap.size w W) (ho : W.ownsRow w.heap.size 197 1 v n xs)
    (hit : W.heap[k]? = some (.stringIter s pos)) (hg : (W.alloc o).grownBy w1 v.ownBlock) : Below w.heap.size w w1 ∧ w1.heap[k]? = some (.stringIter s pos) := by
  have hk : k < W.heap.size := (Array.getElem?_eq_some_iff.1 hit).1
  refine ⟨Below.grown (hb.alloc hb.size o) hg (by have := hb.size; simp; omega) (fun k hk => (ho.lt k hk).1), ?_⟩
  rw [hg.block k (by simp; omega) (own_ne_iter ho hit), Below.heap_alloc _ _ _ hk]
  exact hit
theorem width_le (s : ByteArray) (pos : Nat) : (Utf8.decode s pos).2 ≤ 4 := by
  unfold Utf8.decode
  simp only
  repeat' split
  all_goals (simp only; omega)
theorem width_ge (s : ByteArray) (pos : Nat) (h : pos < s.size) : 1 ≤ (Utf8.decode s pos).2 := by
  by_cases ha : (s[pos]'h).toNat < 128
  · rw [decode_ascii s pos h ha]; exact Nat.le_refl _
  · exact (decode_high s pos h (by omega)).2
def Sl (w : World) (e : Ending) (w' : World) : Prop := (∃ a n c, e = .returned (.slice a n c)) ∧ Below w.heap.size w w'
set_option maxHeartbeats 4000000 in
theorem utf14 (s : ByteArray) (w : World) (hs : s.size ≤ 1048576) : Calls Try.prog 14 #[.string s] w (Sl w) := by
  obtain ⟨i0, hi, hz0, hz1, hz2⟩ := info_parts infoU
  obtain ⟨W, hmk, hown, hg⟩ := run_make_own (P := Try.prog) (w := w) w.heap.size 67 197 i0 _ 1 Try.underlying67 hi hz0 hz1 .i64 .i64 s.size (by rw [hz2]; omega) (by unfold maxLen; omega) (Nat.le_refl _)
  have hbw : Below w.heap.size w W := Below.grown (Below.refl _ _) hg (Nat.le_refl _) (fun k hk => by cases hk)
  have hwz := hbw.size
  have HO := Lib.hid hown
  have HB := Lib.hid hbw
  clear hown hg hbw
  go_enter Try.func14, Try.ntmps14
  go_wp2
  have hit0 : Hid ((W.iter s 0).heap[W.heap.size]? = some (.stringIter s 0)) := Lib.hid (World.iter_heap W s 0)
  have HO1 : Hid ((W.iter s 0).ownsRow w.heap.size 197 1 (.slice (some ⟨w.heap.size, 0, none⟩) 0 s.size) 0 []) := Lib.hid (HO.out.alloc _)
  have HB1 : Hid (Below w.heap.size w (W.iter s 0)) := Lib.hid (HB.out.alloc hwz _)
  clear hmk
  have HK : Hid (w.heap.size ≤ W.heap.size) := Lib.hid hwz
  clear hwz
  generalize W.iter s 0 = W0 at *
  generalize W.heap.size = K at *
  go_loopg [3] s.size (fun gf s3 wx => ∃ (pos : Nat) (n : Nat) (a : Option Addr) (c : Nat) (xs : List Value), s3 = .slice a n c ∧
      wx.ownsRow w.heap.size 197 1 (.slice a n c) n xs ∧ wx.heap[K]? = some (.stringIter s pos) ∧ Below w.heap.size w wx ∧ s.size ≤ pos + gf ∧ n ≤ 2 * pos ∧ pos ≤ s.size + 4)
  case atStart => exact ⟨0, 0, _, _, _, rfl, HO1.out, hit0.out, HB1.out, by omega, by omega, by omega⟩
  case round =>
    obtain ⟨pos, n, a, c, xs, rfl, hown, hit, hbw, hfu, hn, hps⟩ := hrel
    by_cases hlt : pos < s.size
    · obtain ⟨g', rfl⟩ : ∃ g', gk = g' + 1 := ⟨gk - 1, by omega⟩
      have hnx : ∀ ty, (Instr.next (.pointer (some ⟨K, 0, none⟩)) true ty).run Try.prog wr = _ := fun ty => Lib.run_next_any_at wr _ s pos ty hit hlt
      have hK1 := width_ge s pos hlt
      have hK4 := width_le s pos
      have hR1 := decode_le s pos
      obtain ⟨Kw, hK⟩ : ∃ Kw, (Utf8.decode s pos).2 = Kw := ⟨_, rfl⟩
      obtain ⟨R, hR⟩ : ∃ R : Int, ((Utf8.decode s pos).1 : Int) = R := ⟨_, rfl⟩
      have hR0 : 0 ≤ R := by omega
      have hR2 : R ≤ 2147483647 := by omega
      rw [hR, hK] at hnx
      rw [hK] at hK1 hK4
      have hit2 := Lib.iterAt_heap wr _ s pos (pos + Kw) hit
      have hKs : w.heap.size ≤ K := by have := HK.out; omega
      have hbw2 := Lib.below_iterAt hbw (k := K) hKs s (pos + Kw)
      have hown2 := own_iterAt hown hit (pos + Kw)
      obtain ⟨W, hWd⟩ : ∃ W, wr.iterAt K s (pos + Kw) = W := ⟨_, rfl⟩
      rw [hWd] at hnx hit2 hbw2 hown2
      have HO := Lib.hid hown2
      have HB := Lib.hid hbw2
      have HT := Lib.hid hit2
      clear hWd hK hR hR1 hown hit hbw hown2 hbw2 hit2
      have hfu2 : s.size ≤ pos + Kw + g' := by omega
      by_cases hbig : R ≤ 65535
      · go_wp2_with (first | (at_builtin; (refine wpList_append_own _ rfl _ _ 67 rfl w.heap.size 197 i0 (.int .u16 0) 1 2 Try.underlying67 hi hz0 hz1 hz2 rfl (by decide) _ _ _ rfl (HO.out.alloc _) ⟨W.heap.size, 0, none⟩ 1 1 [_] rfl rfl (cell_one_new _ _ _) (fun x hx => by simp at hx; subst hx; rfl) (by unfold maxLen; omega) (by omega) (by have := HB.out.size; simp; omega) ?_); intro v' w3 hown' hgrow3 hnil3))
        obtain ⟨a', c', rfl⟩ := own_form hown'
        have hk := app_keep HB.out HO.out HT.out hgrow3
        have HO3 := Lib.hid hown'
        clear hown' hgrow3 hnil3
        have HK3 := Lib.hid hk
        clear hk
        go_wp2_with fail
        go_roundg g'
        case measure => omega
        case rel => exact ⟨pos + Kw, n + 1, a', c', _, rfl, HO3.out, HK3.out.2, HK3.out.1, hfu2, by omega, by omega⟩
      · go_wp2_with (first | (at_builtin; (refine wpList_append_own _ rfl _ _ 67 rfl w.heap.size 197 i0 (.int .u16 0) 1 2 Try.underlying67 hi hz0 hz1 hz2 rfl (by decide) _ _ _ rfl (HO.out.alloc _) ⟨W.heap.size, 0, none⟩ 2 2 [.int .u16 (IntKind.u16.wrap (wrap32 (55296 + bits BinOp.and IntKind.i32 ((R - 65536) / 1024) 1023))), .int .u16 (IntKind.u16.wrap (wrap32 (56320 + bits BinOp.and IntKind.i32 (R - 65536) 1023)))] rfl rfl (World.news_of_block (blk_new' _ rfl)) (fun x hx => by simp at hx; rcases hx with rfl | rfl <;> rfl) (by unfold maxLen; omega) (by omega) (by have := HB.out.size; simp; omega) ?_); intro v' w3 hown' hgrow3 hnil3))
        obtain ⟨a', c', rfl⟩ := own_form hown'
        have hk := app_keep HB.out HO.out HT.out hgrow3
        have HO3 := Lib.hid hown'
        clear hown' hgrow3 hnil3
        have HK3 := Lib.hid hk
        clear hk
        go_wp2_with fail
        go_roundg g'
        case measure => omega
        case rel => exact ⟨pos + Kw, n + 2, a', c', _, rfl, HO3.out, HK3.out.2, HK3.out.1, hfu2, by omega, by omega⟩
    · have hnx : ∀ ty, (Instr.next (.pointer (some ⟨K, 0, none⟩)) true ty).run Try.prog wr = _ := fun ty => Lib.run_next_end_at wr _ s pos ty hit hlt
      have HB := Lib.hid hbw
      clear hown hit hbw
      go_wp2_with fail
      go_ret
      exact ⟨⟨_, _, _, rfl⟩, HB.out⟩
end Go.Proofs.Ytoalhglknldpnaa.df
