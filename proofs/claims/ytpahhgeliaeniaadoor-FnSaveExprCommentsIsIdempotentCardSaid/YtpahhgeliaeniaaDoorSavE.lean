/- The contract of 'saveExprCommentsHere' where it stores. No conditions beyond the hypotheses. -/
import Derived.Test.YtpahhgeliaeniaaDoorSavD
namespace Go.Proofs.YtpahhgeliaeniaaDoor.sav
open Go.ChangeShapes Go.WideShapes Go.ChangeAt Go.RowKit Go.Mine Go.Maps
set_option linter.unusedVariables false
set_option linter.unusedSimpArgs false
set_option maxRecDepth 100000

/-- What the call leaves. -/
def Saved (p m n g : Nat) (c : ByteArray) (f : Nat → Nat × Nat) (N : Nat) (D : DataW Value) (w : World) (e : Ending) (w' : World) : Prop :=
  ∃ S, e = .returned (.agg #[.int .i32 0]) ∧ Owns w' m (N + 1) (D.put (kl 0) (.held (.slice (some ⟨S, 0, none⟩) n n))) ∧ Blk w' S (txs c f n).toArray 9 ∧ Par p c (some m) (some ⟨g, 0, none⟩) n n w' ∧
    Same (fun q => q = p ∨ q = m) w w' ∧ w.heap.size ≤ S ∧ (∀ B, B ≤ p → B ≤ m → B ≤ w.heap.size → Below B w w')
theorem fill_start' (c : ByteArray) (f : Nat → Nat × Nat) (n : Nat) : madeCells #[.string ⟨#[]⟩] n = fillTo (txs c f n) (.string ⟨#[]⟩) 0 := by
  have := fill_start (txs c f n) (.string ⟨#[]⟩)
  rw [txs_len] at this
  exact this
theorem fill_cell (c : ByteArray) (f : Nat → Nat × Nat) {n j : Nat} (hj : j < n) : ∃ v, (fillTo (txs c f n) (.string ⟨#[]⟩) j)[j]? = some v := by
  have hs := fill_size (txs c f n) (.string ⟨#[]⟩) (k := j) (by rw [txs_len]; omega)
  rw [txs_len] at hs
  exact ⟨_, Array.getElem?_eq_getElem (by omega)⟩
theorem fill_put (c : ByteArray) (f : Nat → Nat × Nat) {n j S : Nat} (hj : j < n) {w : World} (h : Blk w S (fillTo (txs c f n) (.string ⟨#[]⟩) j) 9) : Blk (w.setCell ⟨S, j, none⟩ (.string (txt c f j))) S (fillTo (txs c f n) (.string ⟨#[]⟩) (j + 1)) 9 := by
  have := h.set j (.string (txt c f j))
  rw [fill_set (by rw [txs_len]; exact hj) (txs_at c f hj)] at this
  exact this
set_option maxHeartbeats 8000000 in
theorem saveY (p m n g : Nat) (c : ByteArray) (f : Nat → Nat × Nat) (N : Nat) (D : DataW Value) (w : World) (h : Par p c (some m) (some ⟨g, 0, none⟩) n n w) (hr : Rng g n f w) (ho : Owns w m N D) (hn : 0 < n) (hn2 : n ≤ 4096) (hN : N ≤ 10)
    (hz : c.size ≤ 65536) (hf : ∀ j, j < n → (f j).1 + (f j).2 ≤ c.size ∧ Plain (txt c f j)) : Calls Tryd.prog 10 #[.pointer (some ⟨p, 0, none⟩)] w (Saved p m n g c f N D w) := by
  have H11 := Lib.hid (loc11 p n n c (some m) (some ⟨g, 0, none⟩) _ (h.below ((Below.refl _ _).alloc (Nat.le_refl _) (.cells #[.int .i32 0] 28))))
  have H2 := Lib.hid h
  have HR := Lib.hid hr
  have HO := Lib.hid ho
  have HF := Lib.hid hf
  clear h hr ho hf
  have q1 := fun w' => qN w' (some m)
  have q2 := fun w' => mk32 n hn2 w'
  go_enter Tryd.func10, Tryd.ntmps10
  go_upto_region 2 with (first | (go_at_call 11; (with_reducible refine H11.out.mono ?_); rintro e w1 ⟨rfl, hb1⟩; have HT := Lib.hid (Two.mk1 hb1); clear hb1))
  generalize w1.alloc (.cells #[.int .i32 0] 28) = W at *
  have h1 := (H2.out.below HT.out.below).map
  have h5 := (H2.out.below HT.out.below).com
  go_upto_region 4 with fail
  clear h1 h5
  have hB0 : Below W.heap.size W (W.alloc (.cells (madeCells #[.string ⟨#[]⟩] n) 9)) := (Below.refl _ _).alloc (Nat.le_refl _) _
  have hS0 : Blk (W.alloc (.cells (madeCells #[.string ⟨#[]⟩] n) 9)) W.heap.size (fillTo (txs c f n) (.string ⟨#[]⟩) 0) 9 := by
    rw [← fill_start']
    exact Blk.new W _ _
  have HB := Lib.hid hB0
  have HS := Lib.hid hS0
  clear hB0 hS0
  generalize W.alloc (.cells (madeCells #[.string ⟨#[]⟩] n) 9) = W0 at *
  have h5 := (H2.out.below (below2 HT.out.below HB.out)).com
  clear q1 q2
  go_wp2_with fail
  go_loopw [38] (fun s38 wr => ∃ j : Nat, j ≤ n ∧ s38 = .int .i64 j ∧ Hid (Below W.heap.size W wr) ∧ Hid (Blk wr W.heap.size (fillTo (txs c f n) (.string ⟨#[]⟩) j) 9)) (fun s38 _ => n - (intOf s38).toNat)
  case atStart => exact ⟨0, Nat.zero_le _, rfl, HB, HS⟩
  case round =>
    clear HB HS h5
    obtain ⟨j, hj, rfl, HB, HS⟩ := hrel
    have HT2 := Lib.hid (HT.out.later HB.out)
    have HW2 := Lib.hid (below2 HT.out.below HB.out)
    by_cases hlt : j < n
    · have hr := (HR.out.below HW2.out).at hlt
      have hr1 := hr.1
      have hr2 := hr.2
      clear hr
      have hf := HF.out j hlt
      obtain ⟨s, hs⟩ : ∃ s, (f j).1 = s := ⟨_, rfl⟩
      obtain ⟨l, hl⟩ : ∃ l, (f j).2 = l := ⟨_, rfl⟩
      obtain ⟨T, hT⟩ : ∃ T, txt c f j = T := ⟨_, rfl⟩
      have H12 : Hid (∀ w', Below wr.heap.size wr w' → Calls Tryd.prog 12 #[.pointer (some ⟨p, 57, none⟩), .agg #[.int .i32 s, .int .i32 l]] w' fun e w'' => e = .returned (.string T) ∧ Below w'.heap.size w' w'') := Lib.hid fun w' hb => by
        have := text12 p s l c w' ((H2.out.below (below2 HW2.out hb)).text) hz (by rw [← hs, ← hl]; exact hf.1) (by rw [← hs, ← hl]; exact hf.2)
        rw [← hs, ← hl] at this ⊢
        rw [← hT]
        exact this
      have HP : Hid (∀ w', Below wr.heap.size wr w' → Blk (w'.setCell ⟨W.heap.size, j, none⟩ (.string T)) W.heap.size (fillTo (txs c f n) (.string ⟨#[]⟩) (j + 1)) 9) := Lib.hid fun w' hb => by
        rw [← hT]
        exact fill_put c f hlt (HS.out.below hb)
      have HC : Hid (∀ w', Below wr.heap.size wr w' → (∃ v, w'.cell? ⟨W.heap.size, j, none⟩ = some v) ∧ w'.frozen? ⟨W.heap.size, j, none⟩ = false) := Lib.hid fun w' hb => by
        obtain ⟨v, hv⟩ := fill_cell c f hlt
        exact ⟨⟨v, ((HS.out.below hb).cell j).trans hv⟩, (HS.out.below hb).free j⟩
      rw [hs] at hr1
      rw [hl] at hr2
      clear hs hl hT hf
      have hjn : (j : Int) < (n : Int) := by omega
      go_wp2_with fail
      go_region_with (first | (go_at_call 12; (with_reducible refine (H12.out _ ?_).mono ?_); (repeat (first | with_reducible exact Below.refl _ _ | with_reducible refine Below.drew ?_ | with_reducible refine Below.alloc ?_ (by simp <;> omega) _)); rintro e w2 ⟨rfl, hb2⟩; have hb3 : Below wr.heap.size wr w2 := below2 (by repeat (first | with_reducible exact Below.refl _ _ | with_reducible refine Below.drew ?_ | with_reducible refine Below.alloc ?_ (by simp <;> omega) _)) (hb2.mono (by simp)); obtain ⟨⟨v, hv⟩, hfz⟩ := HC.out w2 hb3; have HQ := Lib.hid (HP.out w2 hb3); have HB3 := Lib.hid hb3; clear hb2 hb3))
      have HB4 : Hid (Below W.heap.size W (w2.setCell ⟨W.heap.size, j, none⟩ (.string T))) := Lib.hid ((below2 HB.out HB3.out).setCell (p := ⟨W.heap.size, j, none⟩) (Nat.le_refl _) _)
      generalize w2.setCell ⟨W.heap.size, j, none⟩ (.string T) = w4 at *
      go_wp2_with fail
      go_round
      case rel => exact ⟨j + 1, by omega, by go_num, HB4, HQ⟩
      case measure => simp [intOf]; omega
    · obtain rfl : j = n := by omega
      have hfe : fillTo (txs c f j) (.string ⟨#[]⟩) j = (txs c f j).toArray := by
        have := fill_end (txs c f j) (.string ⟨#[]⟩)
        rw [txs_len] at this
        exact this
      rw [hfe] at HS
      have hown := HO.out.below HW2.out
      have h1 := (H2.out.below HW2.out).map
      have h2 := HT2.out.loc.cell 0
      simp at h2
      obtain ⟨wU, hrun, hownU, hgrowU⟩ := World.ownsMap.update (w := wr.drew) (t := 31) (e := 32) hown.drew lawK Tryd.underlying31 (by unfold maxLen; omega) (key := .agg #[.int .i32 0]) (val := .slice (some ⟨W.heap.size, 0, none⟩) j j) kl0 rfl
      have hPr := H2.out.below HW2.out
      obtain ⟨C, hC, _⟩ := id hPr.blk
      have npm : p ≠ m := Owns.ne hown hC
      have nSm : W.heap.size ≠ m := Owns.ne hown HS.out
      have nLm : w1.heap.size ≠ m := Owns.ne hown HT2.out.loc
      have nRm : w.heap.size ≠ m := Owns.ne hown HT2.out.res
      have lp : p < w.heap.size := H2.out.lt
      have lS : w.heap.size < W.heap.size := HT.out.res.lt
      have lL : w.heap.size < w1.heap.size := HT.out.hL
      have hs1 : Same (· = m) wr wU := (same_grown hgrowU : Same (· = m) wr.drew wU)
      have HPU := Lib.hid (hPr.same hs1 npm)
      have HSU := Lib.hid (HS.out.same hs1 nSm)
      have HLU := Lib.hid (HT2.out.loc.same hs1 nLm)
      have HRU := Lib.hid (HT2.out.res.same hs1 nRm)
      have HOU : Hid (Owns wU m (N + 1) (D.put (kl 0) (.held (.slice (some ⟨W.heap.size, 0, none⟩) j j)))) := Lib.hid hownU
      have hsz : w.heap.size ≤ wr.heap.size := HW2.out.size
      have HBB : Hid (∀ B, B ≤ m → B ≤ w.heap.size → Below B w wU) := Lib.hid fun B hm hw => (HW2.out.mono hw).trans ((Below.refl B wr).drew.grown hgrowU (by show B ≤ wr.heap.size; omega) (fun k hk => by injection hk with hk; omega))
      have HSS : Hid (Same (fun q => q = p ∨ q = m) w wU) := Lib.hid ((Same.of_below HW2.out).trans (hs1.mono fun k hk => .inr hk))
      clear hPr hC hs1 hownU hgrowU hown
      go_wp2_with fail
      go_region_with fail
      all_goals
        have h3 := HPU.out.com
        have h4 := HPU.out.free 202
        clear hrun h1 h2
        go_upto_region 11 with fail
        have HPV := Lib.hid (HPU.out.put (some ⟨g, 0, none⟩) j j)
        have hs2 : Same (· = p) wU (wU.setCell ⟨p, 202, none⟩ (.slice (some ⟨g, 0, none⟩) j j)) := Same.setCell (X := (· = p)) (p := ⟨p, 202, none⟩) (Same.refl _ _) rfl _
        have HSV := Lib.hid (HSU.out.same hs2 (by show ¬ W.heap.size = p; omega))
        have HLV := Lib.hid (HLU.out.same hs2 (by show ¬ w1.heap.size = p; omega))
        have HRV := Lib.hid (HRU.out.same hs2 (by show ¬ w.heap.size = p; omega))
        have HOV := Lib.hid (Owns.same HOU.out hs2 (by show ¬ m = p; exact fun e => npm e.symm))
        have HBV : Hid (∀ B, B ≤ p → B ≤ m → B ≤ w.heap.size → Below B w (wU.setCell ⟨p, 202, none⟩ (.slice (some ⟨g, 0, none⟩) j j))) := Lib.hid fun B hp hm hw => (HBB.out B hm hw).setCell (p := ⟨p, 202, none⟩) hp _
        have HSSV := Lib.hid (HSS.out.trans (hs2.mono fun k hk => .inl hk))
        clear hs2 h3 h4
        generalize wU.setCell ⟨p, 202, none⟩ (.slice (some ⟨g, 0, none⟩) j j) = wV at *
        have h2 := HLV.out.cell 0
        have h3 := HRV.out.cell 0
        have h4 := HRV.out.free 0
        have h6 := (HRV.out.set 0 (.int .i32 0)).cell 0
        simp at h2 h3 h6
        go_wp2_with fail
        have hs3 : Same (· = w.heap.size) wV (wV.setCell ⟨w.heap.size, 0, none⟩ (.int .i32 0)) := Same.setCell (X := (· = w.heap.size)) (p := ⟨w.heap.size, 0, none⟩) (Same.refl _ _) rfl _
        refine bodyPost_ret (v := .agg #[.int .i32 0]) (by simp [results, Tryd.results10, go_sem, h6]; try (first | exact ⟨rfl, rfl⟩ | rfl)) rfl
          ⟨W.heap.size, rfl, Owns.same HOV.out hs3 (fun e => nRm e.symm), HSV.out.same hs3 (by show ¬ W.heap.size = w.heap.size; omega), HPV.out.same hs3 (by show ¬ p = w.heap.size; omega), HSSV.out.setNew (p := ⟨w.heap.size, 0, none⟩) (Nat.le_refl _) _, by omega,
            fun B hp hm hw => (HBV.out B hp hm hw).setCell (p := ⟨w.heap.size, 0, none⟩) hw _⟩
end Go.Proofs.YtpahhgeliaeniaaDoor.sav
