/- The contract of 'convertSymbolUseToCall'. No conditions beyond the hypotheses. -/
import Derived.Test.YtkbcbicecogjmaaCnvB
namespace Go.Proofs.Ytkbcbicecogjmaa.cnv
open Go.ChangeShapes Go.WideShapes Go.ChangeAt Go.RowKit Go.Mine Go.Maps
set_option linter.unusedVariables false
set_option linter.unusedSimpArgs false
set_option maxRecDepth 100000

/-- The part in block q: the map of uses in block mu, the map of calls (nil or in a block). -/
def Prt (q mu : Nat) (o : Option Nat) (w : World) : Prop := ∃ C, Blk w q C 44 ∧ C[4]? = some (.map (some mu)) ∧ C[5]? = some (.map o)
theorem Prt.lt {q mu : Nat} {o : Option Nat} {w : World} (h : Prt q mu o w) : q < w.heap.size := by
  obtain ⟨C, h1, _⟩ := h
  exact h1.lt
theorem Prt.uses {q mu : Nat} {o : Option Nat} {w : World} (h : Prt q mu o w) : w.cell? ⟨q, 4, none⟩ = some (.map (some mu)) := by
  obtain ⟨C, h1, h2, _⟩ := h
  rw [h1.cell, h2]
theorem Prt.cals {q mu : Nat} {o : Option Nat} {w : World} (h : Prt q mu o w) : w.cell? ⟨q, 5, none⟩ = some (.map o) := by
  obtain ⟨C, h1, _, h2⟩ := h
  rw [h1.cell, h2]
theorem Prt.free {q mu : Nat} {o : Option Nat} {w : World} (h : Prt q mu o w) (i : Nat) : w.frozen? ⟨q, i, none⟩ = false := by
  obtain ⟨C, h1, _⟩ := h
  exact h1.free i
theorem Prt.same {q mu : Nat} {o : Option Nat} {w w' : World} {X : Nat → Prop} (h : Prt q mu o w) (hs : Same X w w') (hx : ¬ X q) : Prt q mu o w' := by
  obtain ⟨C, h1, h2⟩ := h
  exact ⟨C, h1.same hs hx, h2⟩
theorem Prt.put {q mu : Nat} {o : Option Nat} {w : World} (h : Prt q mu o w) (o' : Option Nat) : Prt q mu o' (w.setCell ⟨q, 5, none⟩ (.map o')) := by
  obtain ⟨C, h1, h2, h3⟩ := h
  have hl : 5 < C.size := (Array.getElem?_eq_some_iff.1 h3).1
  refine ⟨_, h1.set 5 _, ?_, ?_⟩
  · rw [Array.getElem?_setIfInBounds_ne (by decide)]; exact h2
  · rw [Array.getElem?_setIfInBounds_self_of_lt hl]
theorem Par.ne {p q q' mu : Nat} {o : Option Nat} {w : World} (h : Par p q' w) (h' : Prt q mu o w) : p ≠ q := by
  rintro rfl
  obtain ⟨C, h1, _⟩ := h
  obtain ⟨C', h2, _⟩ := h'
  unfold Blk at h1 h2
  rw [h1] at h2
  cases h2
/-- The calls' map. -/
def Cls (o : Option Nat) (mu n : Nat) (c g : Nat → Nat) (w : World) : Prop :=
  (o = none ∧ ∀ k, k < 4 → c k = 0 ∧ g k = 0) ∨ ∃ mc D, o = some mc ∧ mu < mc ∧ Owns w mc n D ∧ Cals D c g
/-- All that the conversions turn. -/
structure Sta (p q mu : Nat) (o : Option Nat) (n : Nat) (u c g : Nat → Nat) (w : World) : Prop where
  par : Par p q w
  prt : Prt q mu o w
  uses : ∃ D, Owns w mu n D ∧ Uses D u
  cals : Cls o mu n c g w
  hp : mu < p
  hq : mu < q
theorem Sta.same {p q mu n : Nat} {o : Option Nat} {u c g : Nat → Nat} {w w' : World} {X : Nat → Prop} (h : Sta p q mu o n u c g w) (hs : Same X w w') (h1 : ¬ X p) (h2 : ¬ X q) (h3 : ¬ X mu) (h4 : ∀ mc, o = some mc → ¬ X mc) : Sta p q mu o n u c g w' := by
  obtain ⟨a, b, ⟨D, d1, d2⟩, e, f1, f2⟩ := h
  refine ⟨a.same hs h1, b.same hs h2, ⟨D, Owns.same d1 hs h3, d2⟩, ?_, f1, f2⟩
  rcases e with e | ⟨mc, D', rfl, e1, e2, e3⟩
  · exact .inl e
  · exact .inr ⟨mc, D', rfl, e1, Owns.same e2 hs (h4 mc rfl), e3⟩
theorem Sta.below {p q mu n : Nat} {o : Option Nat} {u c g : Nat → Nat} {w w' : World} (h : Sta p q mu o n u c g w) (hb : Below w.heap.size w w') : Sta p q mu o n u c g w' := h.same (Same.of_below (X := fun _ => False) hb) id id id (fun _ _ => id)
theorem Sta.turnU {p q mu n N : Nat} {o : Option Nat} {u u' c g : Nat → Nat} {w w' : World} (h : Sta p q mu o n u c g w) (hg : w.grownBy w' (some mu)) {D : DataW Value} (h1 : Owns w' mu N D) (h2 : Uses D u') (hN : n ≤ N) : Sta p q mu o N u' c g w' := by
  obtain ⟨a, b, _, e, f1, f2⟩ := h
  have hs := same_grown hg
  refine ⟨a.same hs (by omega), b.same hs (by omega), ⟨D, h1, h2⟩, ?_, f1, f2⟩
  rcases e with e | ⟨mc, D', rfl, e1, e2, e3⟩
  · exact .inl e
  · exact .inr ⟨mc, D', rfl, e1, (Owns.same e2 hs (by omega)).mono hN, e3⟩
theorem Sta.turnC {p q mu mc n N : Nat} {u c c' g g' : Nat → Nat} {w w' : World} (h : Sta p q mu (some mc) n u c g w) (hm : mu < mc) (hg : w.grownBy w' (some mc)) {D : DataW Value} (h1 : Owns w' mc N D) (h2 : Cals D c' g') (hO : ∃ D n, Owns w mc n D) (hN : n ≤ N) : Sta p q mu (some mc) N u c' g' w' := by
  obtain ⟨a, b, ⟨D0, d1, d2⟩, e, f1, f2⟩ := h
  have hs := same_grown hg
  obtain ⟨D1, n1, hO⟩ := hO
  have n1 : p ≠ mc := by obtain ⟨C, hC, _⟩ := a; exact Owns.ne hO hC
  have n2 : q ≠ mc := by obtain ⟨C, hC, _⟩ := b; exact Owns.ne hO hC
  exact ⟨a.same hs n1, b.same hs n2, ⟨D0, (Owns.same d1 hs (by omega)).mono hN, d2⟩, .inr ⟨mc, D, rfl, hm, h1, h2⟩, f1, f2⟩
theorem Sta.fresh {p q mu n : Nat} {u c g : Nat → Nat} {w : World} (h : Sta p q mu none n u c g w) : Sta p q mu (some w.heap.size) n u c g ((w.alloc (.map #[] 0)).setCell ⟨q, 5, none⟩ (.map (some w.heap.size))) ∧ mu < w.heap.size ∧
    ∃ D, Owns ((w.alloc (.map #[] 0)).setCell ⟨q, 5, none⟩ (.map (some w.heap.size))) w.heap.size n D ∧ Cals D c g := by
  have hne := h.par.ne h.prt
  have hb : Below w.heap.size w (w.alloc (.map #[] 0)) := (Below.refl _ _).alloc (Nat.le_refl _) _
  have h' := h.below hb
  have hs : Same (· = q) (w.alloc (.map #[] 0)) ((w.alloc (.map #[] 0)).setCell ⟨q, 5, none⟩ (.map (some w.heap.size))) := Same.setCell (X := (· = q)) (p := ⟨q, 5, none⟩) (Same.refl _ _) rfl _
  obtain ⟨a, b, ⟨D0, d1, d2⟩, e, f1, f2⟩ := h'
  have l1 := h.prt.lt
  have l2 : mu < w.heap.size := by omega
  have hz : ∀ k, k < 4 → c k = 0 ∧ g k = 0 := by
    rcases e with ⟨_, e⟩ | ⟨mc, D', e, _⟩
    · exact e
    · cases e
  have hm : Owns ((w.alloc (.map #[] 0)).setCell ⟨q, 5, none⟩ (.map (some w.heap.size))) w.heap.size n (.map []) := (Owns.same (World.ownsMap_made w _ _ _) hs (by show ¬ w.heap.size = q; omega)).mono (Nat.zero_le _)
  have hc : Cals (.map []) c g := (Fits.empty (cal 0 0)).congr (fun k hk => by simp [(hz k hk).1]) (fun k hk => by simp [(hz k hk).1, (hz k hk).2])
  exact ⟨⟨a.same hs hne, b.put _, ⟨D0, Owns.same d1 hs (by show ¬ mu = q; omega), d2⟩, .inr ⟨_, _, rfl, l2, hm, hc⟩, f1, f2⟩, l2, _, hm, hc⟩
theorem qE (w : World) (r : Option Nat) : (binOp .eql 40 (.map r) (.map none)).run Try.prog w = .ok (.bool r.isNone) w := run_eql_map_nil w _ _ _ r Try.underlying40
theorem Cals.step {D : DataW Value} {c g : Nat → Nat} (h : Cals D c g) {k : Nat} (hk : k < 4) (b : Bool) {y : Int} (hy : y = ((g k + b.toNat : Nat) : Int)) : Cals (D.put (kl k) (.held (cal ((c k : Int) + 1) y))) (cnv.put c k (c k + 1)) (cnv.put g k (g k + b.toNat)) := by
  have e : (c k : Int) + 1 = ((c k + 1 : Nat) : Int) := by omega
  rw [e, hy]
  exact Cals.put h hk (by omega)
/-- What a conversion leaves. -/
def Conv (p q mu n k : Nat) (b : Bool) (u c g : Nat → Nat) (w : World) (e : Ending) (w' : World) : Prop :=
  e = .returned (.tuple #[]) ∧ Below mu w w' ∧ ∃ mc, Sta p q mu (some mc) (n + 2) (put u k (u k - 1)) (put c k (c k + 1)) (put g k (g k + b.toNat)) w'
set_option maxHeartbeats 4000000 in
theorem conv10 (p q mu n k : Nat) (o : Option Nat) (b : Bool) (u c g : Nat → Nat) (w : World) (h : Sta p q mu o n u c g w) (hk : k < 4) (hu : 0 < u k) (hu2 : u k < 4294967296) (hc2 : c k < 1000000) (hg2 : g k < 1000000) (hn : n < 1000000) :
    Calls Try.prog 10 #[.pointer (some ⟨p, 0, none⟩), ref k, .bool b] w (Conv p q mu n k b u c g w) := by
  have hb0 : Below w.heap.size w (w.alloc (.cells #[.int .u32 0, .int .u32 k] 34)) := (Below.refl _ _).alloc (Nat.le_refl _) _
  have HS0 := Lib.hid (h.below hb0)
  have HB0 := Lib.hid hb0
  have HR0 := Lib.hid (Blk.new w #[.int .u32 0, .int .u32 k] 34)
  clear hb0
  have HLm : Hid (mu < w.heap.size) := Lib.hid (by obtain ⟨D, hD, _⟩ := h.uses; exact hD.lt)
  go_enter Try.func10, Try.ntmps10
  go_upto_region 1 with fail
  generalize w.alloc (.cells #[.int .u32 0, .int .u32 k] 34) = W at *
  have h1 := HS0.out.par.cell
  have h2 := HS0.out.prt.uses
  have r0 := HR0.out.cell 0
  have r1 := HR0.out.cell 1
  simp at r0 r1
  obtain ⟨D, hO, hU⟩ := HS0.out.uses
  have h3 := at_uses hO hU hk
  have HO := Lib.hid hO
  have HU := Lib.hid hU
  clear hO hU
  obtain ⟨x, hx⟩ : ∃ x : Nat, u k = x := ⟨_, rfl⟩
  rw [hx] at h3 hu hu2
  have hw1 : IntKind.u32.wrap ((x : Int) - 1) = ((x - 1 : Nat) : Int) := by rw [wrapU (by omega) (by omega)]; omega
  go_upto_region 4 with fail
  have hb1 : Below W.heap.size W (W.alloc (.cells #[.int .u32 ((x - 1 : Nat) : Int)] 32)) := (Below.refl _ _).alloc (Nat.le_refl _) _
  have HS1 := Lib.hid (HS0.out.below hb1)
  have HO1 := Lib.hid (HO.out.below hb1)
  have HB1 := Lib.hid (below2 HB0.out hb1)
  have HR1 := Lib.hid (HR0.out.below hb1)
  have HT1 := Lib.hid (Blk.new W #[.int .u32 ((x - 1 : Nat) : Int)] 32)
  clear h1 h2 h3 r0 r1 hb1 HS0 HO HB0 HR0 h
  generalize W.alloc (.cells #[.int .u32 ((x - 1 : Nat) : Int)] 32) = V at *
  have r0 := HR1.out.cell 0
  have r1 := HR1.out.cell 1
  have t0 := HT1.out.cell 0
  simp at r0 r1 t0
  have hmu : mu < V.heap.size := HO1.out.lt
  obtain hx1 | hx1 : x = 1 ∨ 1 < x := by omega
  · subst hx1
    have e0 : ((1 - 1 : Nat) : Int) = 0 := rfl
    rw [e0] at *
    go_upto_region 7 with (first | (at_delete; (refine wpList_delete_own _ rfl _ _ 30 34 rfl 32 lawK Try.underlying30 R mu n D rfl HO1.out _ _ rfl (kl_is hk) ?_); intro w2 hO2 ht2))
    have HS2 := Lib.hid (HS1.out.turnU ht2.grown (hO2.mono (Nat.le_succ n)) (u' := put u k (u k - 1)) (by rw [hx]; exact HU.out.del hk) (Nat.le_succ n))
    have HB2 := Lib.hid ((HB1.out.mono (Nat.le_of_lt HLm.out)).trans (below_grown ht2.grown (Nat.le_refl _) (Nat.le_of_lt hmu)))
    have HR2 := Lib.hid (HR1.out.same (same_grown ht2.grown) (by show ¬ w.heap.size = mu; have := HLm.out; omega))
    clear hO2 ht2 HS1 HO1 HB1 HR1 HT1 HU hw1 r0 r1 t0 hmu hu hu2 e0
    go_upto_region 7 with fail
    clear hx 
    have h1 := HS2.out.par.cell
    have h2 := HS2.out.prt.cals
    have q1 := qE
    have q2 := fun w' => run_makeMap (P := Try.prog) 40 w'
    cases o with
    | none =>
      obtain ⟨hF1, hm1, D3, hO3, hC3⟩ := HS2.out.fresh
      have HS3 := Lib.hid hF1
      have HO3 := Lib.hid hO3
      have HC3 := Lib.hid hC3
      have HM1 := Lib.hid hm1
      have hba : Below w2.heap.size w2 (w2.alloc (.map #[] 0)) := (Below.refl _ _).alloc (Nat.le_refl _) _
      have hf := (HS2.out.below hba).prt.free 5
      have h4 := (HS2.out.below hba).par.cell
      have h5 := (HS2.out.below hba).prt.cals
      have HB3 : Hid (Below mu w ((w2.alloc (.map #[] 0)).setCell ⟨q, 5, none⟩ (.map (some w2.heap.size)))) := Lib.hid ((HB2.out.alloc (Nat.le_of_lt hm1) _).setCell (p := ⟨q, 5, none⟩) (Nat.le_of_lt HS2.out.hq) _)
      have HR3 : Hid (Blk ((w2.alloc (.map #[] 0)).setCell ⟨q, 5, none⟩ (.map (some w2.heap.size))) w.heap.size #[.int .u32 0, .int .u32 k] 34) := Lib.hid ((HR2.out.alloc _).setOther (by
        show w.heap.size ≠ q
        rintro rfl
        obtain ⟨C, hC, _⟩ := HS2.out.prt
        have h' := HR2.out
        unfold Blk at hC h'
        rw [hC] at h'
        cases h') _)
      clear hF1 hm1 hO3 hC3 hba
      go_upto_region 11 with fail
      generalize (w2.alloc (.map #[] 0)).setCell ⟨q, 5, none⟩ (.map (some w2.heap.size)) = W3 at *
      have hcz := HC3.out
      have h3 := at_cals HO3.out HC3.out hk
      have r0 := HR3.out.cell 0
      have r1 := HR3.out.cell 1
      simp at r0 r1
      have hw2 : IntKind.u32.wrap ((c k : Int) + 1) = ((c k + 1 : Nat) : Int) := by rw [wrapU (by omega) (by omega)]; omega
      have hw3 : IntKind.u32.wrap ((g k : Int) + 1) = ((g k + 1 : Nat) : Int) := by rw [wrapU (by omega) (by omega)]; omega
      clear hcz
      cases b
      · go_upto_region 15 with fail
        have hb4 : Below W3.heap.size W3 (W3.alloc (.cells #[.int .u32 ((c k : Int) + 1), .int .u32 (g k : Int)] 50)) := (Below.refl _ _).alloc (Nat.le_refl _) _
        have HS4 := Lib.hid (HS3.out.below hb4)
        have HO4 := Lib.hid (HO3.out.below hb4)
        have HR4 := Lib.hid (HR3.out.below hb4)
        have HT4 := Lib.hid (Blk.new W3 #[.int .u32 ((c k : Int) + 1), .int .u32 (g k : Int)] 50)
        have hmc := HO3.out.lt
        have HB4 : Hid (Below mu w (W3.alloc (.cells #[.int .u32 ((c k : Int) + 1), .int .u32 (g k : Int)] 50))) := Lib.hid (HB3.out.alloc (by have := HM1.out; omega) _)
        have HSZ : Hid (mu ≤ (W3.alloc (.cells #[.int .u32 ((c k : Int) + 1), .int .u32 (g k : Int)] 50)).heap.size) := Lib.hid (by have := HM1.out; simp; omega)
        clear hb4 h3 r0 r1
        generalize W3.alloc (.cells #[.int .u32 ((c k : Int) + 1), .int .u32 (g k : Int)] 50) = W4 at *
        have r0 := HR4.out.cell 0
        have r1 := HR4.out.cell 1
        have t0 := HT4.out.cell 0
        have t1 := HT4.out.cell 1
        simp at r0 r1 t0 t1
        obtain ⟨w5, hrun, hO5, hg5⟩ := World.ownsMap.update (w := W4) (t := 40) (e := 50) HO4.out lawK Try.underlying40 (by unfold maxLen; omega) (key := ref k) (val := cal ((c k : Int) + 1) (g k : Int)) (kl_is hk) rfl
        have HF : Hid (Conv p q mu n k false u c g w (.returned (.tuple #[])) w5) := Lib.hid ⟨rfl, HB4.out.trans (below_grown hg5 (Nat.le_of_lt HM1.out) HSZ.out), _, HS4.out.turnC HM1.out hg5 hO5 (Cals.step HC3.out hk false (by simp)) ⟨_, _, HO4.out⟩ (Nat.le_succ _)⟩
        clear hO5 hg5
        go_wp2_with fail
        exact bodyPost_end (results_none rfl _ _ _) (by first | rfl | simp [Act.put]) HF.out
      · go_upto_region 15 with fail
        have hb4 : Below W3.heap.size W3 (W3.alloc (.cells #[.int .u32 ((c k : Int) + 1), .int .u32 ((g k : Int) + 1)] 50)) := (Below.refl _ _).alloc (Nat.le_refl _) _
        have HS4 := Lib.hid (HS3.out.below hb4)
        have HO4 := Lib.hid (HO3.out.below hb4)
        have HR4 := Lib.hid (HR3.out.below hb4)
        have HT4 := Lib.hid (Blk.new W3 #[.int .u32 ((c k : Int) + 1), .int .u32 ((g k : Int) + 1)] 50)
        have hmc := HO3.out.lt
        have HB4 : Hid (Below mu w (W3.alloc (.cells #[.int .u32 ((c k : Int) + 1), .int .u32 ((g k : Int) + 1)] 50))) := Lib.hid (HB3.out.alloc (by have := HM1.out; omega) _)
        have HSZ : Hid (mu ≤ (W3.alloc (.cells #[.int .u32 ((c k : Int) + 1), .int .u32 ((g k : Int) + 1)] 50)).heap.size) := Lib.hid (by have := HM1.out; simp; omega)
        clear hb4 h3 r0 r1
        generalize W3.alloc (.cells #[.int .u32 ((c k : Int) + 1), .int .u32 ((g k : Int) + 1)] 50) = W4 at *
        have r0 := HR4.out.cell 0
        have r1 := HR4.out.cell 1
        have t0 := HT4.out.cell 0
        have t1 := HT4.out.cell 1
        simp at r0 r1 t0 t1
        obtain ⟨w5, hrun, hO5, hg5⟩ := World.ownsMap.update (w := W4) (t := 40) (e := 50) HO4.out lawK Try.underlying40 (by unfold maxLen; omega) (key := ref k) (val := cal ((c k : Int) + 1) ((g k : Int) + 1)) (kl_is hk) rfl
        have HF : Hid (Conv p q mu n k true u c g w (.returned (.tuple #[])) w5) := Lib.hid ⟨rfl, HB4.out.trans (below_grown hg5 (Nat.le_of_lt HM1.out) HSZ.out), _, HS4.out.turnC HM1.out hg5 hO5 (Cals.step HC3.out hk true (by simp)) ⟨_, _, HO4.out⟩ (Nat.le_succ _)⟩
        clear hO5 hg5
        go_wp2_with fail
        exact bodyPost_end (results_none rfl _ _ _) (by first | rfl | simp [Act.put]) HF.out
    | some mc =>
      obtain ⟨D3, hm1, hO3, hC3⟩ : ∃ D, mu < mc ∧ Owns w2 mc (n + 1) D ∧ Cals D c g := by
        rcases HS2.out.cals with ⟨h, _⟩ | ⟨mc', D, h, h4, h5, h6⟩
        · cases h
        · cases h
          exact ⟨D, h4, h5, h6⟩
      have HS3 := HS2
      have HO3 := Lib.hid hO3
      have HC3 := Lib.hid hC3
      have HM1 := Lib.hid hm1
      have HB3 := HB2
      have HR3 := HR2
      clear hm1 hO3 hC3
      go_upto_region 11 with fail
      have hcz := HC3.out
      have h3 := at_cals HO3.out HC3.out hk
      have r0 := HR3.out.cell 0
      have r1 := HR3.out.cell 1
      simp at r0 r1
      have hw2 : IntKind.u32.wrap ((c k : Int) + 1) = ((c k + 1 : Nat) : Int) := by rw [wrapU (by omega) (by omega)]; omega
      have hw3 : IntKind.u32.wrap ((g k : Int) + 1) = ((g k + 1 : Nat) : Int) := by rw [wrapU (by omega) (by omega)]; omega
      clear hcz
      cases b
      · go_upto_region 15 with fail
        have hb4 : Below w2.heap.size w2 (w2.alloc (.cells #[.int .u32 ((c k : Int) + 1), .int .u32 (g k : Int)] 50)) := (Below.refl _ _).alloc (Nat.le_refl _) _
        have HS4 := Lib.hid (HS3.out.below hb4)
        have HO4 := Lib.hid (HO3.out.below hb4)
        have HR4 := Lib.hid (HR3.out.below hb4)
        have HT4 := Lib.hid (Blk.new w2 #[.int .u32 ((c k : Int) + 1), .int .u32 (g k : Int)] 50)
        have hmc := HO3.out.lt
        have HB4 : Hid (Below mu w (w2.alloc (.cells #[.int .u32 ((c k : Int) + 1), .int .u32 (g k : Int)] 50))) := Lib.hid (HB3.out.alloc (by have := HM1.out; omega) _)
        have HSZ : Hid (mu ≤ (w2.alloc (.cells #[.int .u32 ((c k : Int) + 1), .int .u32 (g k : Int)] 50)).heap.size) := Lib.hid (by have := HM1.out; simp; omega)
        clear hb4 h3 r0 r1
        generalize w2.alloc (.cells #[.int .u32 ((c k : Int) + 1), .int .u32 (g k : Int)] 50) = W4 at *
        have r0 := HR4.out.cell 0
        have r1 := HR4.out.cell 1
        have t0 := HT4.out.cell 0
        have t1 := HT4.out.cell 1
        simp at r0 r1 t0 t1
        obtain ⟨w5, hrun, hO5, hg5⟩ := World.ownsMap.update (w := W4) (t := 40) (e := 50) HO4.out lawK Try.underlying40 (by unfold maxLen; omega) (key := ref k) (val := cal ((c k : Int) + 1) (g k : Int)) (kl_is hk) rfl
        have HF : Hid (Conv p q mu n k false u c g w (.returned (.tuple #[])) w5) := Lib.hid ⟨rfl, HB4.out.trans (below_grown hg5 (Nat.le_of_lt HM1.out) HSZ.out), _, HS4.out.turnC HM1.out hg5 hO5 (Cals.step HC3.out hk false (by simp)) ⟨_, _, HO4.out⟩ (Nat.le_succ _)⟩
        clear hO5 hg5
        go_wp2_with fail
        exact bodyPost_end (results_none rfl _ _ _) (by first | rfl | simp [Act.put]) HF.out
      · go_upto_region 15 with fail
        have hb4 : Below w2.heap.size w2 (w2.alloc (.cells #[.int .u32 ((c k : Int) + 1), .int .u32 ((g k : Int) + 1)] 50)) := (Below.refl _ _).alloc (Nat.le_refl _) _
        have HS4 := Lib.hid (HS3.out.below hb4)
        have HO4 := Lib.hid (HO3.out.below hb4)
        have HR4 := Lib.hid (HR3.out.below hb4)
        have HT4 := Lib.hid (Blk.new w2 #[.int .u32 ((c k : Int) + 1), .int .u32 ((g k : Int) + 1)] 50)
        have hmc := HO3.out.lt
        have HB4 : Hid (Below mu w (w2.alloc (.cells #[.int .u32 ((c k : Int) + 1), .int .u32 ((g k : Int) + 1)] 50))) := Lib.hid (HB3.out.alloc (by have := HM1.out; omega) _)
        have HSZ : Hid (mu ≤ (w2.alloc (.cells #[.int .u32 ((c k : Int) + 1), .int .u32 ((g k : Int) + 1)] 50)).heap.size) := Lib.hid (by have := HM1.out; simp; omega)
        clear hb4 h3 r0 r1
        generalize w2.alloc (.cells #[.int .u32 ((c k : Int) + 1), .int .u32 ((g k : Int) + 1)] 50) = W4 at *
        have r0 := HR4.out.cell 0
        have r1 := HR4.out.cell 1
        have t0 := HT4.out.cell 0
        have t1 := HT4.out.cell 1
        simp at r0 r1 t0 t1
        obtain ⟨w5, hrun, hO5, hg5⟩ := World.ownsMap.update (w := W4) (t := 40) (e := 50) HO4.out lawK Try.underlying40 (by unfold maxLen; omega) (key := ref k) (val := cal ((c k : Int) + 1) ((g k : Int) + 1)) (kl_is hk) rfl
        have HF : Hid (Conv p q mu n k true u c g w (.returned (.tuple #[])) w5) := Lib.hid ⟨rfl, HB4.out.trans (below_grown hg5 (Nat.le_of_lt HM1.out) HSZ.out), _, HS4.out.turnC HM1.out hg5 hO5 (Cals.step HC3.out hk true (by simp)) ⟨_, _, HO4.out⟩ (Nat.le_succ _)⟩
        clear hO5 hg5
        go_wp2_with fail
        exact bodyPost_end (results_none rfl _ _ _) (by first | rfl | simp [Act.put]) HF.out
  · have e0 : (((x - 1 : Nat) : Int) == 0) = false := by rw [beq_eq_false_iff_ne]; omega
    obtain ⟨w2, hrun, hO2, hg2⟩ := World.ownsMap.update (w := V) (t := 30) (e := 32) HO1.out lawK Try.underlying30 (by unfold maxLen; omega) (key := ref k) (val := use ((x - 1 : Nat) : Int)) (kl_is hk) rfl
    have HS2 := Lib.hid (HS1.out.turnU hg2 hO2 (u' := put u k (u k - 1)) (by rw [hx]; exact HU.out.put hk (by omega)) (Nat.le_succ n))
    have HB2 := Lib.hid ((HB1.out.mono (Nat.le_of_lt HLm.out)).trans (below_grown hg2 (Nat.le_refl _) (Nat.le_of_lt hmu)))
    have HR2 := Lib.hid (HR1.out.same (same_grown hg2) (by show ¬ w.heap.size = mu; have := HLm.out; omega))
    go_upto_region 7 with fail
    clear hO2 hg2 HS1 HO1 HB1 HR1 HT1 HU hw1 r0 r1 t0 hmu hu hu2
    clear hx e0 hrun
    have h1 := HS2.out.par.cell
    have h2 := HS2.out.prt.cals
    have q1 := qE
    have q2 := fun w' => run_makeMap (P := Try.prog) 40 w'
    cases o with
    | none =>
      obtain ⟨hF1, hm1, D3, hO3, hC3⟩ := HS2.out.fresh
      have HS3 := Lib.hid hF1
      have HO3 := Lib.hid hO3
      have HC3 := Lib.hid hC3
      have HM1 := Lib.hid hm1
      have hba : Below w2.heap.size w2 (w2.alloc (.map #[] 0)) := (Below.refl _ _).alloc (Nat.le_refl _) _
      have hf := (HS2.out.below hba).prt.free 5
      have h4 := (HS2.out.below hba).par.cell
      have h5 := (HS2.out.below hba).prt.cals
      have HB3 : Hid (Below mu w ((w2.alloc (.map #[] 0)).setCell ⟨q, 5, none⟩ (.map (some w2.heap.size)))) := Lib.hid ((HB2.out.alloc (Nat.le_of_lt hm1) _).setCell (p := ⟨q, 5, none⟩) (Nat.le_of_lt HS2.out.hq) _)
      have HR3 : Hid (Blk ((w2.alloc (.map #[] 0)).setCell ⟨q, 5, none⟩ (.map (some w2.heap.size))) w.heap.size #[.int .u32 0, .int .u32 k] 34) := Lib.hid ((HR2.out.alloc _).setOther (by
        show w.heap.size ≠ q
        rintro rfl
        obtain ⟨C, hC, _⟩ := HS2.out.prt
        have h' := HR2.out
        unfold Blk at hC h'
        rw [hC] at h'
        cases h') _)
      clear hF1 hm1 hO3 hC3 hba
      go_upto_region 11 with fail
      generalize (w2.alloc (.map #[] 0)).setCell ⟨q, 5, none⟩ (.map (some w2.heap.size)) = W3 at *
      have hcz := HC3.out
      have h3 := at_cals HO3.out HC3.out hk
      have r0 := HR3.out.cell 0
      have r1 := HR3.out.cell 1
      simp at r0 r1
      have hw2 : IntKind.u32.wrap ((c k : Int) + 1) = ((c k + 1 : Nat) : Int) := by rw [wrapU (by omega) (by omega)]; omega
      have hw3 : IntKind.u32.wrap ((g k : Int) + 1) = ((g k + 1 : Nat) : Int) := by rw [wrapU (by omega) (by omega)]; omega
      clear hcz
      cases b
      · go_upto_region 15 with fail
        have hb4 : Below W3.heap.size W3 (W3.alloc (.cells #[.int .u32 ((c k : Int) + 1), .int .u32 (g k : Int)] 50)) := (Below.refl _ _).alloc (Nat.le_refl _) _
        have HS4 := Lib.hid (HS3.out.below hb4)
        have HO4 := Lib.hid (HO3.out.below hb4)
        have HR4 := Lib.hid (HR3.out.below hb4)
        have HT4 := Lib.hid (Blk.new W3 #[.int .u32 ((c k : Int) + 1), .int .u32 (g k : Int)] 50)
        have hmc := HO3.out.lt
        have HB4 : Hid (Below mu w (W3.alloc (.cells #[.int .u32 ((c k : Int) + 1), .int .u32 (g k : Int)] 50))) := Lib.hid (HB3.out.alloc (by have := HM1.out; omega) _)
        have HSZ : Hid (mu ≤ (W3.alloc (.cells #[.int .u32 ((c k : Int) + 1), .int .u32 (g k : Int)] 50)).heap.size) := Lib.hid (by have := HM1.out; simp; omega)
        clear hb4 h3 r0 r1
        generalize W3.alloc (.cells #[.int .u32 ((c k : Int) + 1), .int .u32 (g k : Int)] 50) = W4 at *
        have r0 := HR4.out.cell 0
        have r1 := HR4.out.cell 1
        have t0 := HT4.out.cell 0
        have t1 := HT4.out.cell 1
        simp at r0 r1 t0 t1
        obtain ⟨w5, hrun, hO5, hg5⟩ := World.ownsMap.update (w := W4) (t := 40) (e := 50) HO4.out lawK Try.underlying40 (by unfold maxLen; omega) (key := ref k) (val := cal ((c k : Int) + 1) (g k : Int)) (kl_is hk) rfl
        have HF : Hid (Conv p q mu n k false u c g w (.returned (.tuple #[])) w5) := Lib.hid ⟨rfl, HB4.out.trans (below_grown hg5 (Nat.le_of_lt HM1.out) HSZ.out), _, HS4.out.turnC HM1.out hg5 hO5 (Cals.step HC3.out hk false (by simp)) ⟨_, _, HO4.out⟩ (Nat.le_succ _)⟩
        clear hO5 hg5
        go_wp2_with fail
        exact bodyPost_end (results_none rfl _ _ _) (by first | rfl | simp [Act.put]) HF.out
      · go_upto_region 15 with fail
        have hb4 : Below W3.heap.size W3 (W3.alloc (.cells #[.int .u32 ((c k : Int) + 1), .int .u32 ((g k : Int) + 1)] 50)) := (Below.refl _ _).alloc (Nat.le_refl _) _
        have HS4 := Lib.hid (HS3.out.below hb4)
        have HO4 := Lib.hid (HO3.out.below hb4)
        have HR4 := Lib.hid (HR3.out.below hb4)
        have HT4 := Lib.hid (Blk.new W3 #[.int .u32 ((c k : Int) + 1), .int .u32 ((g k : Int) + 1)] 50)
        have hmc := HO3.out.lt
        have HB4 : Hid (Below mu w (W3.alloc (.cells #[.int .u32 ((c k : Int) + 1), .int .u32 ((g k : Int) + 1)] 50))) := Lib.hid (HB3.out.alloc (by have := HM1.out; omega) _)
        have HSZ : Hid (mu ≤ (W3.alloc (.cells #[.int .u32 ((c k : Int) + 1), .int .u32 ((g k : Int) + 1)] 50)).heap.size) := Lib.hid (by have := HM1.out; simp; omega)
        clear hb4 h3 r0 r1
        generalize W3.alloc (.cells #[.int .u32 ((c k : Int) + 1), .int .u32 ((g k : Int) + 1)] 50) = W4 at *
        have r0 := HR4.out.cell 0
        have r1 := HR4.out.cell 1
        have t0 := HT4.out.cell 0
        have t1 := HT4.out.cell 1
        simp at r0 r1 t0 t1
        obtain ⟨w5, hrun, hO5, hg5⟩ := World.ownsMap.update (w := W4) (t := 40) (e := 50) HO4.out lawK Try.underlying40 (by unfold maxLen; omega) (key := ref k) (val := cal ((c k : Int) + 1) ((g k : Int) + 1)) (kl_is hk) rfl
        have HF : Hid (Conv p q mu n k true u c g w (.returned (.tuple #[])) w5) := Lib.hid ⟨rfl, HB4.out.trans (below_grown hg5 (Nat.le_of_lt HM1.out) HSZ.out), _, HS4.out.turnC HM1.out hg5 hO5 (Cals.step HC3.out hk true (by simp)) ⟨_, _, HO4.out⟩ (Nat.le_succ _)⟩
        clear hO5 hg5
        go_wp2_with fail
        exact bodyPost_end (results_none rfl _ _ _) (by first | rfl | simp [Act.put]) HF.out
    | some mc =>
      obtain ⟨D3, hm1, hO3, hC3⟩ : ∃ D, mu < mc ∧ Owns w2 mc (n + 1) D ∧ Cals D c g := by
        rcases HS2.out.cals with ⟨h, _⟩ | ⟨mc', D, h, h4, h5, h6⟩
        · cases h
        · cases h
          exact ⟨D, h4, h5, h6⟩
      have HS3 := HS2
      have HO3 := Lib.hid hO3
      have HC3 := Lib.hid hC3
      have HM1 := Lib.hid hm1
      have HB3 := HB2
      have HR3 := HR2
      clear hm1 hO3 hC3
      go_upto_region 11 with fail
      have hcz := HC3.out
      have h3 := at_cals HO3.out HC3.out hk
      have r0 := HR3.out.cell 0
      have r1 := HR3.out.cell 1
      simp at r0 r1
      have hw2 : IntKind.u32.wrap ((c k : Int) + 1) = ((c k + 1 : Nat) : Int) := by rw [wrapU (by omega) (by omega)]; omega
      have hw3 : IntKind.u32.wrap ((g k : Int) + 1) = ((g k + 1 : Nat) : Int) := by rw [wrapU (by omega) (by omega)]; omega
      clear hcz
      cases b
      · go_upto_region 15 with fail
        have hb4 : Below w2.heap.size w2 (w2.alloc (.cells #[.int .u32 ((c k : Int) + 1), .int .u32 (g k : Int)] 50)) := (Below.refl _ _).alloc (Nat.le_refl _) _
        have HS4 := Lib.hid (HS3.out.below hb4)
        have HO4 := Lib.hid (HO3.out.below hb4)
        have HR4 := Lib.hid (HR3.out.below hb4)
        have HT4 := Lib.hid (Blk.new w2 #[.int .u32 ((c k : Int) + 1), .int .u32 (g k : Int)] 50)
        have hmc := HO3.out.lt
        have HB4 : Hid (Below mu w (w2.alloc (.cells #[.int .u32 ((c k : Int) + 1), .int .u32 (g k : Int)] 50))) := Lib.hid (HB3.out.alloc (by have := HM1.out; omega) _)
        have HSZ : Hid (mu ≤ (w2.alloc (.cells #[.int .u32 ((c k : Int) + 1), .int .u32 (g k : Int)] 50)).heap.size) := Lib.hid (by have := HM1.out; simp; omega)
        clear hb4 h3 r0 r1
        generalize w2.alloc (.cells #[.int .u32 ((c k : Int) + 1), .int .u32 (g k : Int)] 50) = W4 at *
        have r0 := HR4.out.cell 0
        have r1 := HR4.out.cell 1
        have t0 := HT4.out.cell 0
        have t1 := HT4.out.cell 1
        simp at r0 r1 t0 t1
        obtain ⟨w5, hrun, hO5, hg5⟩ := World.ownsMap.update (w := W4) (t := 40) (e := 50) HO4.out lawK Try.underlying40 (by unfold maxLen; omega) (key := ref k) (val := cal ((c k : Int) + 1) (g k : Int)) (kl_is hk) rfl
        have HF : Hid (Conv p q mu n k false u c g w (.returned (.tuple #[])) w5) := Lib.hid ⟨rfl, HB4.out.trans (below_grown hg5 (Nat.le_of_lt HM1.out) HSZ.out), _, HS4.out.turnC HM1.out hg5 hO5 (Cals.step HC3.out hk false (by simp)) ⟨_, _, HO4.out⟩ (Nat.le_succ _)⟩
        clear hO5 hg5
        go_wp2_with fail
        exact bodyPost_end (results_none rfl _ _ _) (by first | rfl | simp [Act.put]) HF.out
      · go_upto_region 15 with fail
        have hb4 : Below w2.heap.size w2 (w2.alloc (.cells #[.int .u32 ((c k : Int) + 1), .int .u32 ((g k : Int) + 1)] 50)) := (Below.refl _ _).alloc (Nat.le_refl _) _
        have HS4 := Lib.hid (HS3.out.below hb4)
        have HO4 := Lib.hid (HO3.out.below hb4)
        have HR4 := Lib.hid (HR3.out.below hb4)
        have HT4 := Lib.hid (Blk.new w2 #[.int .u32 ((c k : Int) + 1), .int .u32 ((g k : Int) + 1)] 50)
        have hmc := HO3.out.lt
        have HB4 : Hid (Below mu w (w2.alloc (.cells #[.int .u32 ((c k : Int) + 1), .int .u32 ((g k : Int) + 1)] 50))) := Lib.hid (HB3.out.alloc (by have := HM1.out; omega) _)
        have HSZ : Hid (mu ≤ (w2.alloc (.cells #[.int .u32 ((c k : Int) + 1), .int .u32 ((g k : Int) + 1)] 50)).heap.size) := Lib.hid (by have := HM1.out; simp; omega)
        clear hb4 h3 r0 r1
        generalize w2.alloc (.cells #[.int .u32 ((c k : Int) + 1), .int .u32 ((g k : Int) + 1)] 50) = W4 at *
        have r0 := HR4.out.cell 0
        have r1 := HR4.out.cell 1
        have t0 := HT4.out.cell 0
        have t1 := HT4.out.cell 1
        simp at r0 r1 t0 t1
        obtain ⟨w5, hrun, hO5, hg5⟩ := World.ownsMap.update (w := W4) (t := 40) (e := 50) HO4.out lawK Try.underlying40 (by unfold maxLen; omega) (key := ref k) (val := cal ((c k : Int) + 1) ((g k : Int) + 1)) (kl_is hk) rfl
        have HF : Hid (Conv p q mu n k true u c g w (.returned (.tuple #[])) w5) := Lib.hid ⟨rfl, HB4.out.trans (below_grown hg5 (Nat.le_of_lt HM1.out) HSZ.out), _, HS4.out.turnC HM1.out hg5 hO5 (Cals.step HC3.out hk true (by simp)) ⟨_, _, HO4.out⟩ (Nat.le_succ _)⟩
        clear hO5 hg5
        go_wp2_with fail
        exact bodyPost_end (results_none rfl _ _ _) (by first | rfl | simp [Act.put]) HF.out
end Go.Proofs.Ytkbcbicecogjmaa.cnv
