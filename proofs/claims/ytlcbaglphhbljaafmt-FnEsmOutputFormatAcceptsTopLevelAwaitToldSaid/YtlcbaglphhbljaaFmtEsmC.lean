/- The contracts of the log's closures, of 'AddError' and of 'sort.Stable' at fewer than two messages. No conditions beyond the hypotheses. -/
import Derived.Test.YtlcbaglphhbljaaFmtEsmB
import Derived.Defers
import Derived.Deep.AppendLies
namespace Go.Proofs.YtlcbaglphhbljaaFmt.es
open Go.ChangeShapes Go.WideShapes Go.ChangeAt Go.RowKit Go.Mine
set_option linter.unusedVariables false
set_option linter.unusedSimpArgs false
set_option maxRecDepth 100000

theorem own_ge {w : World} {B e size n : Nat} {v : Value} {xs : List Value} (h : w.ownsRow B e size v n xs) {g : Nat} (hg : v.ownBlock = some g) : B ≤ g ∧ g < w.heap.size := by
  rcases h.2 with ⟨rfl, _⟩ | ⟨g', cap, cur, rfl, hb, hg', rest⟩
  · simp [Value.ownBlock] at hg
  · have e : g' = g := by simpa [Value.ownBlock] using hg
    subst e
    exact ⟨hb, lt_of_block hg'⟩
theorem own_ne {w : World} {B e size n : Nat} {v : Value} {xs : List Value} (h : w.ownsRow B e size v n xs) {q : Nat} {C : Array Value} {t : TypeId} (hq : Blk w q C t) (ht : t ≠ e) : v.ownBlock ≠ some q := by
  rcases h.2 with ⟨rfl, _⟩ | ⟨g, cap, cur, rfl, hb, hg, rest⟩
  · simp [Value.ownBlock]
  · intro e1
    simp only [Value.ownBlock, Option.some.injEq] at e1
    subst e1
    unfold Blk at hq
    rw [hq] at hg
    injection hg with e1
    injection e1 with _ e1
    exact ht e1
theorem infoM : (Tryf.prog.info? 34).map (fun i => (i.zero, i.size, i.bytes)) = some (some (.agg #[.slice none 0 0, .string ⟨#[]⟩, .nilIface, .pointer none, .string ⟨#[]⟩, .bool false, .int .u8 0, .int .u8 0]), 8, 96) := by kernel_rfl
theorem one_form {w : World} {B : Nat} {q : Nat} {t : ByteArray} {v : Value} (h : w.ownsRow B 34 8 v (0 + 1) ([] ++ (#[.slice none 0 0, .string ⟨#[]⟩, .nilIface, .pointer (some ⟨q, 0, none⟩), .string t, .bool false, .int .u8 0, .int .u8 0] : Array Value).toList)) :
    ∃ g c, v = .slice (some ⟨g, 0, none⟩) 1 c ∧ B ≤ g ∧ w.cell? ⟨g, 6, none⟩ = some (.int .u8 0) ∧ g < w.heap.size := by
  have hc := fun g hg => h.cells (g := g) hg 6 (.int .u8 0) (by simp)
  have hl := fun g hg => own_ge h (g := g) hg
  rcases h.2 with ⟨_, h0⟩ | ⟨g, cap, cur, rfl, hb, hg, rest⟩
  · cases h0
  · exact ⟨g, cap, rfl, hb, by simpa [Addr.add] using hc g rfl, (hl g rfl).2⟩
/-- The message that is added. -/
abbrev msgC (q : Nat) (t : ByteArray) : Array Value := #[.slice none 0 0, .string ⟨#[]⟩, .nilIface, .pointer (some ⟨q, 0, none⟩), .string t, .bool false, .int .u8 0, .int .u8 0]
/-- One message lies in the log; the lock is free. -/
structure One (n : Nat) (w : World) : Prop where
  ms : ∃ g c, Blk w (n + 1 + 1) #[.slice (some ⟨g, 0, none⟩) 1 c] 190 ∧ w.cell? ⟨g, 6, none⟩ = some (.int .u8 0) ∧ g < w.heap.size
  mu : Blk w (n + 1 + 1 + 1) #[.int .i32 0, .int .u32 0] 196
set_option maxHeartbeats 4000000 in
theorem c20 (n q : Nat) (t : ByteArray) (w : World) (hl : Lg n w) :
    Calls Tryf.prog 20 #[.agg (msgC q t), .pointer (some ⟨n, 0, none⟩), .pointer (some ⟨n + 1 + 1 + 1, 0, none⟩), .pointer (some ⟨n + 1 + 1 + 1 + 1, 0, none⟩), .pointer (some ⟨n + 1 + 1, 0, none⟩)] w fun e w' => e = .returned (.tuple #[]) ∧ One n w' ∧ Below n w w' ∧ Same (fun k => n ≤ k ∧ k ≤ n + 4) w w' := by
  obtain ⟨i0, hi, hz0, hz1, hz2⟩ := info_parts infoM
  have k0 := hl.kd.cell 0
  have s0 := hl.ms.cell 0
  have m0 := hl.mu.cell 0
  have h0 := hl.he.cell 0
  have g0 := hl.he.free 0
  have g1 := hl.ms.free 0
  have g2 := hl.mu.free 0
  have l0 := hl.kd.lt
  have l1 := hl.ms.lt
  have l2 := hl.mu.lt
  have l3 := hl.he.lt
  simp at k0 s0 m0 h0
  have HL := Lib.hid hl
  clear hl
  go_enter_defers Tryf.func20, Tryf.ntmps20
  go_wp2_with fail
  refine (Go.MuLone.lock_free muLib ⟨n + 1 + 1 + 1, 0, none⟩ _ (((HL.out.mu.alloc _).cell 0).trans (by simp)) ((HL.out.mu.alloc _).free 0)).mono ?_
  rintro e w1 ⟨rfl, rfl⟩
  go_wp2_with (first | (at_builtin; (refine wpList_append_own _ rfl _ _ 190 rfl n 34 i0 _ 8 96 Tryf.underlying190 hi hz0 hz1 hz2 rfl (by decide) _ _ _ rfl (World.ownsRow_nil _ _ _ _) ⟨w.heap.size + 1, 0, none⟩ 1 1 (msgC q t).toList rfl rfl (World.news_of_block (cs := msgC q t) (blk_new' _ (by simp))) (by simp [Value.oneCell']) (by unfold maxLen; omega) (by omega) (by simp; omega) ?_); intro v' w3 hown' hgrow3 hnil3; obtain ⟨g, cp, rfl, hge, hc6, hlt⟩ := one_form hown'; have k2 : Blk w3 (n + 1 + 1) #[.slice none 0 0] 190 := (hgrow3.block (n + 1 + 1) (by simp; omega) (fun e => by cases e)).trans ((((HL.out.ms.setOther (a := ⟨n + 1 + 1 + 1, 0, none⟩) (by simp) _).setOther (a := ⟨n + 1 + 1 + 1 + 1, 0, none⟩) (by simp) _).alloc _).alloc _); have k3 : Blk w3 (n + 1 + 1 + 1) #[.int .i32 1, .int .u32 0] 196 := (hgrow3.block (n + 1 + 1 + 1) (by simp; omega) (fun e => by cases e)).trans ((((HL.out.mu.set 0 (.int .i32 1)).setOther (a := ⟨n + 1 + 1 + 1 + 1, 0, none⟩) (by simp) _).alloc _).alloc _); have hbl : Below n w w3 := Below.grown (((((Below.refl n w).setCell (p := ⟨n + 1 + 1 + 1, 0, none⟩) (by simp; omega) _).setCell (p := ⟨n + 1 + 1 + 1 + 1, 0, none⟩) (by simp; omega) _).alloc (by simp; omega) _).alloc (by simp; omega) _) hgrow3 (by simp; omega) (fun k hk => by cases hk); have hsm : Same (fun k => n ≤ k ∧ k ≤ n + 4) w w3 := (((((Same.refl (fun k => n ≤ k ∧ k ≤ n + 4) w).setCell (p := ⟨n + 1 + 1 + 1, 0, none⟩) (by simp; omega) _).setCell (p := ⟨n + 1 + 1 + 1 + 1, 0, none⟩) (by simp; omega) _).alloc _).alloc _).trans ⟨hgrow3.size, fun k hk hx => hgrow3.block k hk (fun e => by cases e)⟩; have HSM := Lib.hid hsm; clear hsm; have c2 := k2.cell 0; have f2 := k2.free 0; have lt2 := k2.lt; simp at c2; have hne2 : g ≠ n + 1 + 1 := fun e => own_ne hown' k2 (by decide) (by subst e; rfl); have hne3 : g ≠ n + 1 + 1 + 1 := fun e => own_ne hown' k3 (by decide) (by subst e; rfl); have K2 := Lib.hid k2; have K3 := Lib.hid k3; have HB := Lib.hid hbl; have C6 := Lib.hid hc6; clear k2 k3 hbl hc6 hgrow3 hnil3 hown'))
  refine leaves_cons (f := 22) (args := #[.pointer (some ⟨n + 1 + 1 + 1, 0, none⟩)]) (by simp) (by simp [go_sem]) ?_
  have k3 := K3.out.setOther (a := ⟨n + 1 + 1, 0, none⟩) (by simp) (.slice (some ⟨g, 0, none⟩) 1 cp)
  refine (Go.MuLone.unlock_deferred muLib ⟨n + 1 + 1 + 1, 0, none⟩ .returning _ ((k3.cell 0).trans (by simp)) (k3.free 0)).mono ?_
  rintro e u' w'' ⟨rfl, rfl, rfl⟩
  refine ⟨_, results_none rfl _ _ _, rfl, ⟨⟨g, cp, ?_, ?_, ?_⟩, ?_⟩, ?_, ?_⟩
  · exact (K2.out.set 0 (.slice (some ⟨g, 0, none⟩) 1 cp)).setOther (a := ⟨n + 1 + 1 + 1, 0, none⟩) (by simp) _
  · rw [World.cell?_setCell_other _ ⟨n + 1 + 1 + 1, 0, none⟩ ⟨g, 6, none⟩ _ (by simp), World.cell?_setCell_other _ ⟨n + 1 + 1, 0, none⟩ ⟨g, 6, none⟩ _ (by simp)]
    exact C6.out
  · simpa using hlt
  · exact k3.set 0 (.int .i32 0)
  · exact (HB.out.setCell (p := ⟨n + 1 + 1, 0, none⟩) (by simp; omega) _).setCell (p := ⟨n + 1 + 1 + 1, 0, none⟩) (by simp; omega) _
  · exact (HSM.out.setCell (p := ⟨n + 1 + 1, 0, none⟩) (by simp; omega) _).setCell (p := ⟨n + 1 + 1 + 1, 0, none⟩) (by simp; omega) _
theorem Lg.same {X : Nat → Prop} {n : Nat} {w w' : World} (h : Lg n w) (hs : Same X w w') (hx : ∀ k, n ≤ k → ¬ X k) : Lg n w' :=
  ⟨h.kd.same hs (hx _ (by omega)), h.ms.same hs (hx _ (by omega)), h.mu.same hs (hx _ (by omega)), h.he.same hs (hx _ (by omega))⟩
set_option maxHeartbeats 4000000 in
theorem c14 (p n : Nat) (f u : Int) (C : Array Value) (t : ByteArray) (w : World) (hb : Blk w p C 165) (hp : Par n f u C) (hl : Lg n w) (hpn : p < n) :
    Calls Tryf.prog 14 #[logV n, .pointer (some ⟨p, 67, none⟩), .agg #[.int .i32 0, .int .i32 0], .string t] w fun e w' => e = .returned (.tuple #[]) ∧ One n w' ∧ Below p w w' ∧ (∀ o, o < 67 → w'.cell? ⟨p, o, none⟩ = w.cell? ⟨p, o, none⟩) ∧ Same (fun k => k = p ∨ (n ≤ k ∧ k ≤ n + 4)) w w' := by
  have fl := hb.lt
  have l3 := hl.he.lt
  have KB := Lib.hid hb
  have KP := Lib.hid hp
  have HL := Lib.hid hl
  clear hb hp hl
  go_enter Tryf.func14, Tryf.ntmps14
  go_wp2_with fail
  have hX : Blk ((w.alloc (Obj.cells #[fnAdd n, fnHas n, fnPeek n, fnDone n, Value.int IntKind.i8 3, Value.map none] 83)).alloc (Obj.cells #[Value.int IntKind.i32 0, Value.int IntKind.i32 0] 57)) w.heap.size #[fnAdd n, fnHas n, fnPeek n, fnDone n, .int .i8 3, .map none] 83 := (Blk.new w _ _).alloc _
  have hY : Blk ((w.alloc (Obj.cells #[fnAdd n, fnHas n, fnPeek n, fnDone n, Value.int IntKind.i8 3, Value.map none] 83)).alloc (Obj.cells #[Value.int IntKind.i32 0, Value.int IntKind.i32 0] 57)) (w.heap.size + 1) #[.int .i32 0, .int .i32 0] 57 := blk_new' _ (by simp)
  have k0 := (KB.out.alloc (Obj.cells #[fnAdd n, fnHas n, fnPeek n, fnDone n, Value.int IntKind.i8 3, Value.map none] 83)).alloc (Obj.cells #[Value.int IntKind.i32 0, Value.int IntKind.i32 0] 57)
  have g0 := (HL.out.alloc (Obj.cells #[fnAdd n, fnHas n, fnPeek n, fnDone n, Value.int IntKind.i8 3, Value.map none] 83)).alloc (Obj.cells #[Value.int IntKind.i32 0, Value.int IntKind.i32 0] 57)
  have b0 : Below p w ((w.alloc (Obj.cells #[fnAdd n, fnHas n, fnPeek n, fnDone n, Value.int IntKind.i8 3, Value.map none] 83)).alloc (Obj.cells #[Value.int IntKind.i32 0, Value.int IntKind.i32 0] 57)) := ((Below.refl p w).alloc (by omega) _).alloc (by simp; omega) _
  have s0 : Same (fun k => k = p ∨ (n ≤ k ∧ k ≤ n + 4)) w ((w.alloc (Obj.cells #[fnAdd n, fnHas n, fnPeek n, fnDone n, Value.int IntKind.i8 3, Value.map none] 83)).alloc (Obj.cells #[Value.int IntKind.i32 0, Value.int IntKind.i32 0] 57)) := ((Same.refl _ w).alloc _).alloc _
  generalize ((w.alloc (Obj.cells #[fnAdd n, fnHas n, fnPeek n, fnDone n, Value.int IntKind.i8 3, Value.map none] 83)).alloc (Obj.cells #[Value.int IntKind.i32 0, Value.int IntKind.i32 0] 57)) = W at *
  generalize hN : w.heap.size = N at *
  have x0 := hX.cell 0
  have xl := hX.lt
  have y0 := hY.cell 0
  have y1 := hY.cell 1
  have yl := hY.lt
  simp at x0 y0 y1
  have KX := Lib.hid hX
  have KB0 := Lib.hid k0
  have HL0 := Lib.hid g0
  have BB0 := Lib.hid b0
  have hpN : N ≠ p := by omega
  have SC : Hid (∀ o, W.cell? ⟨p, o, none⟩ = w.cell? ⟨p, o, none⟩) := Lib.hid fun o => (k0.cell o).trans (KB.out.cell o).symm
  have SW : Hid (Same (fun k => k = p ∨ (n ≤ k ∧ k ≤ n + 4)) w W.drew) := Lib.hid (s0.drew)
  have HC := Lib.hid (c27 p n f u C t W.drew KB0.out KP.out)
  clear hX hY k0 g0 b0 s0 KB HL
  go_region_with (first | (go_at_call 27; refine HC.out.mono ?_; rintro e w1 ⟨q, rfl, hb1, hs1, h54⟩; have H54 := Lib.hid h54; clear h54; have kx : Blk w1 N #[fnAdd n, fnHas n, fnPeek n, fnDone n, .int .i8 3, .map none] 83 := (hs1.2 N KX.out.lt hpN).trans KX.out; have cx := kx.cell 0; simp at cx; have lx := kx.lt; have HB1 := Lib.hid hb1; have HS1 := Lib.hid hs1; have HL1 : Hid (Lg n w1) := Lib.hid (Lg.same (X := fun k => k = p) (w := W.drew) ⟨HL0.out.kd, HL0.out.ms, HL0.out.mu, HL0.out.he⟩ hs1 (fun k hk e => by omega)); clear hb1 hs1 kx) | (go_at_call 20; refine (c20 n _ t _ HL1.out).mono ?_; rintro e w2 ⟨rfl, ho, hb2, hs2⟩))
  all_goals
    go_end0
    exact ⟨rfl, ho, (BB0.out.drew.trans HB1.out).trans (hb2.mono (by omega)), fun o ho' => ((hb2.cell (p := ⟨p, o, none⟩) hpn).trans (H54.out o ho')).trans (SC.out o), SW.out.trans ((Same.mono (X := fun k => k = p ∨ (n ≤ k ∧ k ≤ n + 4)) (w := W.drew) HS1.out (fun k h => .inl h)).trans (hs2.mono (fun k h => .inr h)))⟩
end Go.Proofs.YtlcbaglphhbljaaFmt.es
