/- The contracts of the expression builders and of the table's function. No conditions beyond the hypotheses. -/
import Derived.Test.YtoalhglknldpnaaDefC
import Derived.Deep.RegionHeld3
namespace Go.Proofs.Ytoalhglknldpnaa.df
open Go.ChangeShapes Go.WideShapes Go.ChangeAt Go.RowKit Go.Mine
set_option linter.unusedVariables false
set_option linter.unusedSimpArgs false
set_option maxRecDepth 100000

theorem PS.same {lo p n c : Nat} {a : Option Addr} {w w' : World} {X : Nat → Prop} (h : PS lo p a n c w) (hs : Same X w w') (hp : ¬ X p) (hg : ∀ g, (Value.slice a n c).ownBlock = some g → ¬ X g) : PS lo p a n c w' := by
  obtain ⟨⟨xs, ho⟩, ⟨C, hb1, h103⟩, hge⟩ := h
  exact ⟨⟨xs, own_kept ho fun g hg' => hs.2 g (own_ge ho hg').2 (hg g hg')⟩, ⟨C, hb1.same hs hp, h103⟩, hge⟩
theorem PS.box {lo p n c X : Nat} {a : Option Addr} {w w' : World} {D : Array Value} {t : TypeId} (h : PS lo p a n c w) (hX : Blk w X D t) (ht1 : t ≠ 9) (ht2 : t ≠ 160) (hs : Same (· = X) w w') : PS lo p a n c w' := by
  have h' := h
  obtain ⟨⟨xs, ho⟩, ⟨C, hb1, h103⟩, hge⟩ := h
  refine h'.same hs (fun e => ?_) (fun g hg e => ?_)
  · subst e
    unfold Blk at hX hb1
    rw [hX] at hb1
    injection hb1 with e1
    injection e1 with _ e1
    exact ht2 e1
  · subst e
    exact own_ne ho hX ht1 hg
theorem PS.lt {lo p n c : Nat} {a : Option Addr} {w : World} (h : PS lo p a n c w) : p < w.heap.size ∧ ∀ g, (Value.slice a n c).ownBlock = some g → g < w.heap.size := by
  obtain ⟨⟨xs, ho⟩, ⟨C, hb1, h103⟩, hge⟩ := h
  exact ⟨hb1.lt, fun g hg => (own_ge ho hg).2⟩
/-- Values of an expression's data. -/
def ifP (T q : Nat) : Value := .iface T (.pointer (some ⟨q, 0, none⟩))
def Ident (lo p : Nat) (a : Option Addr) (n c : Nat) (w : World) (e : Ending) (w' : World) : Prop :=
  (∃ q, e = .returned (.agg #[.iface 161 (.pointer (some ⟨q, 0, none⟩)), .int .i32 0])) ∧ (∃ a' c', PS lo p a' (n + 1) c' w') ∧ Same (Ch p a n c) w w' ∧ (∀ w0, Below lo w0 w → Below lo w0 w')
theorem ident_fin {lo p n c n' : Nat} {a a' : Option Addr} {c' : Nat} {w w3 w4 : World} {D : Array Value} (h : PS lo p a n c w) (h3 : PS lo p a' n' c' w3) (hS : Same (Ch p a n c) (w.alloc (.cells D 32)) w3) (hB : ∀ w0, Below lo w0 (w.alloc (.cells D 32)) → Below lo w0 w3)
    (o : Obj) (x y : Value) (hw : w4 = ((w3.setCell ⟨w.heap.size, 0, none⟩ x).setCell ⟨w.heap.size, 1, none⟩ y).alloc o) :
    (∃ a' c', PS lo p a' n' c' w4) ∧ Same (Ch p a n c) w w4 ∧ (∀ w0, Below lo w0 w → Below lo w0 w4) := by
  have hl := h.lt
  have hlo : lo ≤ w.heap.size := by have := h.ge; omega
  have nX : ¬ Ch p a n c w.heap.size := fun e => by rcases e with e | e; omega; have := hl.2 _ e; omega
  have b0 : Blk w3 w.heap.size D 32 := (Blk.new w D 32).same hS nX
  have sw : Same (· = w.heap.size) w3 ((w3.setCell ⟨w.heap.size, 0, none⟩ x).setCell ⟨w.heap.size, 1, none⟩ y) := Same.setCell (X := (· = w.heap.size)) (Same.setCell (X := (· = w.heap.size)) (Same.refl _ _) (p := ⟨w.heap.size, 0, none⟩) rfl x) (p := ⟨w.heap.size, 1, none⟩) rfl y
  subst hw
  refine ⟨⟨_, _, (h3.box b0 (by decide) (by decide) sw).kept ((Below.refl _ _).alloc (Nat.le_refl _) _)⟩, ?_, fun w0 h0 => ?_⟩
  · refine Same.alloc ⟨?_, fun k hk hx => ?_⟩ o
    · have := hS.1
      rw [size_set, size_set]
      simp at this
      omega
    · rw [sw.2 k (by have := hS.1; simp at this; omega) (by omega), hS.2 k (by simp; omega) hx, Below.heap_alloc _ _ _ hk]
  · have h1 := hB w0 (h0.alloc hlo _)
    exact ((h1.setCell (p := ⟨w.heap.size, 0, none⟩) hlo x).setCell (p := ⟨w.heap.size, 1, none⟩) hlo y).alloc (by rw [size_set, size_set]; have := hS.1; simp at this; omega) o
theorem box_after {lo p n c : Nat} {a : Option Addr} {w w3 : World} {D L : Value} (h : PS lo p a n c w) (hS : Same (Ch p a n c) (w.alloc (.cells #[D, L] 32)) w3) :
    w3.cell? ⟨w.heap.size, 0, none⟩ = some D ∧ w3.cell? ⟨w.heap.size, 1, none⟩ = some L ∧ w3.frozen? ⟨w.heap.size, 0, none⟩ = false ∧ w3.frozen? ⟨w.heap.size, 1, none⟩ = false ∧ w.heap.size < w3.heap.size := by
  have nX : ¬ Ch p a n c w.heap.size := fun e => by rcases e with e | e; have := h.lt.1; omega; have := h.lt.2 _ e; omega
  have b0 := (Blk.new w #[D, L] 32).same hS nX
  exact ⟨b0.cell 0, b0.cell 1, b0.free 0, b0.free 1, b0.lt⟩
set_option maxHeartbeats 2000000 in
theorem ident6 (lo p : Nat) (s : ByteArray) (a : Option Addr) (n c : Nat) (w : World) (h : PS lo p a n c w) (hn : n ≤ 65536) :
    Calls Try.prog 6 #[.pointer (some ⟨p, 0, none⟩), .string s] w (Ident lo p a n c w) := by
  have H := Lib.hid h
  have h1 : ∀ o : Obj, PS lo p a n c (w.alloc o) := fun o => h.kept ((Below.refl _ _).alloc (Nat.le_refl _) _)
  have H1 := Lib.hid h1
  clear h h1
  go_enter Try.func6, Try.ntmps6
  go_wp2_with (first | (go_at_call 13; refine (store13 lo p s a n c _ (H1.out _) hn).mono ?_; rintro e w3 ⟨⟨x, y, rfl⟩, hP, hS, hB⟩; obtain ⟨c0, c1, f0, f1, l0⟩ := box_after H.out hS; have HS := Lib.hid hS; have HB := Lib.hid hB; have HP := Lib.hid hP; clear hS hB hP))
  obtain ⟨a', c', hP⟩ := HP.out
  refine bodyPost_ret (v := .agg #[.iface 161 (.pointer (some ⟨w3.heap.size, 0, none⟩)), .int .i32 0]) (by simp [results, Try.results6, go_sem, c0, c1, l0]; try (first | exact ⟨rfl, rfl⟩ | rfl)) rfl ?_
  exact ⟨⟨_, rfl⟩, ident_fin H.out hP HS.out HB.out _ _ _ rfl⟩
def Ex (T : TypeId) (w : World) (e : Ending) (w' : World) : Prop := (∃ q, e = .returned (.agg #[.iface T (.pointer (some ⟨q, 0, none⟩)), .int .i32 0])) ∧ Below w.heap.size w w'
def OkD (D : Value) : Prop := D = .nilIface ∨ ∃ T q, D = .iface T (.pointer (some ⟨q, 0, none⟩))
set_option maxHeartbeats 1000000 in
theorem num7 (f : Nat) (w : World) : Calls Try.prog 7 #[.float .f64 f] w (Ex 165 w) := by
  go_enter Try.func7, Try.ntmps7
  go_wp2
  refine bodyPost_ret (v := .agg #[.iface 165 (.pointer (some ⟨w.heap.size + 1, 0, none⟩)), .int .i32 0]) (by simp [results, Try.results7, go_sem]; try (first | exact ⟨rfl, rfl⟩ | rfl)) rfl ⟨⟨_, rfl⟩, ?_⟩
  (repeat (first | with_reducible exact Below.refl _ _ | with_reducible refine Below.drew ?_ | with_reducible refine Below.alloc ?_ (by simp <;> omega) _ | with_reducible refine Below.setCell ?_ (by simp <;> omega) _))
set_option maxHeartbeats 1000000 in
theorem dot8 (D : Value) (s : ByteArray) (w : World) (hD : OkD D) : Calls Try.prog 8 #[.agg #[D, .int .i32 0], .string s] w (Ex 168 w) := by
  rcases hD with rfl | ⟨T, q, rfl⟩
  all_goals
    go_enter Try.func8, Try.ntmps8
    go_wp2
    refine bodyPost_ret (v := .agg #[.iface 168 (.pointer (some ⟨w.heap.size + 1 + 1, 0, none⟩)), .int .i32 0]) (by simp [results, Try.results8, go_sem]; try (first | exact ⟨rfl, rfl⟩ | rfl)) rfl ⟨⟨_, rfl⟩, ?_⟩
    (repeat (first | with_reducible exact Below.refl _ _ | with_reducible refine Below.drew ?_ | with_reducible refine Below.alloc ?_ (by simp <;> omega) _ | with_reducible refine Below.setCell ?_ (by simp <;> omega) _))
set_option maxHeartbeats 1000000 in
theorem inum10 (D : Value) (f : Nat) (w : World) (hD : OkD D) : Calls Try.prog 10 #[.agg #[D, .int .i32 0], .float .f64 f] w (Ex 172 w) := by
  rcases hD with rfl | ⟨T, q, rfl⟩
  all_goals
    go_enter Try.func10, Try.ntmps10
    go_wp2
    refine bodyPost_ret (v := .agg #[.iface 172 (.pointer (some ⟨w.heap.size + 1 + 1 + 1, 0, none⟩)), .int .i32 0]) (by simp [results, Try.results10, go_sem]; try (first | exact ⟨rfl, rfl⟩ | rfl)) rfl ⟨⟨_, rfl⟩, ?_⟩
    (repeat (first | with_reducible exact Below.refl _ _ | with_reducible refine Below.drew ?_ | with_reducible refine Below.alloc ?_ (by simp <;> omega) _ | with_reducible refine Below.setCell ?_ (by simp <;> omega) _))
theorem can_yes (T q : Nat) (L : Value) (w : World) (h : T = 161 ∨ T = 168) : Calls Try.prog 15 #[.iface T (.pointer (some ⟨q, 0, none⟩))] w fun e w' => e = .returned (.bool true) ∧ w = w' := by
  rcases h with rfl | rfl
  all_goals
    go_enter Try.func15, Try.ntmps15
    go_wp2
    go_ret
    exact ⟨rfl, rfl⟩
theorem can_no (D : Value) (w : World) (h : D = .nilIface ∨ ∃ q, D = .iface 165 (.pointer (some ⟨q, 0, none⟩)) ∨ D = .iface 172 (.pointer (some ⟨q, 0, none⟩))) : Calls Try.prog 15 #[D] w fun e w' => e = .returned (.bool false) ∧ w = w' := by
  rcases h with rfl | ⟨q, rfl | rfl⟩
  all_goals
    go_enter Try.func15, Try.ntmps15
    go_wp2
    go_ret
    exact ⟨rfl, rfl⟩
theorem can11y (T q : Nat) (w : World) (h : T = 161 ∨ T = 168) : Calls Try.prog 11 #[.agg #[.iface T (.pointer (some ⟨q, 0, none⟩)), .int .i32 0]] w fun e w' => e = .returned (.bool true) ∧ Below w.heap.size w w' := by
  go_enter Try.func11, Try.ntmps11
  go_wp2_with (first | (go_at_call 15; (with_reducible refine (can_yes _ _ (.int .i32 0) _ h).mono ?_); rintro e w1 ⟨rfl, rfl⟩))
  go_ret
  exact ⟨rfl, (Below.refl _ _).alloc (Nat.le_refl _) _⟩
theorem can11n (D : Value) (w : World) (h : D = .nilIface ∨ ∃ q, D = .iface 165 (.pointer (some ⟨q, 0, none⟩)) ∨ D = .iface 172 (.pointer (some ⟨q, 0, none⟩))) : Calls Try.prog 11 #[.agg #[D, .int .i32 0]] w fun e w' => e = .returned (.bool false) ∧ Below w.heap.size w w' := by
  have H := fun w' => can_no D w' h
  have K := Lib.hid H
  clear H
  rcases h with rfl | ⟨q, rfl | rfl⟩
  all_goals
    go_enter Try.func11, Try.ntmps11
    go_wp2_with (first | (go_at_call 15; (with_reducible refine (K.out _).mono ?_); rintro e w1 ⟨rfl, rfl⟩))
    go_ret
    exact ⟨rfl, (Below.refl _ _).alloc (Nat.le_refl _) _⟩
theorem balloc {w w' : World} (h : Below w.heap.size w w') (o : Obj) : Below w.heap.size w (w'.alloc o) := h.alloc h.size o
structure Fr (w : World) (X R : Nat) (D : Value) : Prop where
  x0 : w.cell? ⟨X, 0, none⟩ = some D
  x1 : w.cell? ⟨X, 1, none⟩ = some (.int .i32 0)
  r0 : w.cell? ⟨R, 0, none⟩ = some .nilIface
  r1 : w.cell? ⟨R, 1, none⟩ = some (.int .i32 0)
  f0 : w.frozen? ⟨R, 0, none⟩ = false
  f1 : w.frozen? ⟨R, 1, none⟩ = false
  l : R < w.heap.size
theorem fr_mk {w w' : World} {X R : Nat} {D : Value} (hX : Blk w X #[D, .int .i32 0] 32) (hR : Blk w R #[.nilIface, .int .i32 0] 32) (hb : Below w.heap.size w w') : Fr w' X R D :=
  ⟨(hX.below hb).cell 0, (hX.below hb).cell 1, (hR.below hb).cell 0, (hR.below hb).cell 1, (hR.below hb).free 0, (hR.below hb).free 1, (hR.below hb).lt⟩
theorem same_b {X : Nat → Prop} {w w1 w2 : World} (h : Same X w w1) (hb : Below w1.heap.size w1 w2) : Same X w w2 := h.trans (Same.of_below hb)
theorem same_set {R : Nat} {w w1 : World} (h : Same (· = R) w w1) (o : Nat) (v : Value) : Same (· = R) w (w1.setCell ⟨R, o, none⟩ v) := Same.setCell (X := (· = R)) h (p := ⟨R, o, none⟩) rfl v
theorem bset {w w1 : World} (h : Below w.heap.size w w1) (o : Nat) (v : Value) : Below w.heap.size w (w1.setCell ⟨w.heap.size + 1, o, none⟩ v) := h.setCell (p := ⟨w.heap.size + 1, o, none⟩) (Nat.le_succ _) v
theorem xs_mk {w w' : World} {X R : Nat} {D : Value} (hX : Blk w X #[D, .int .i32 0] 32) (hne : X ≠ R) (hb : Same (· = R) w w') : w'.cell? ⟨X, 0, none⟩ = some D ∧ w'.cell? ⟨X, 1, none⟩ = some (.int .i32 0) :=
  ⟨(hX.same hb hne).cell 0, (hX.same hb hne).cell 1⟩
set_option maxHeartbeats 2000000 in
theorem istr9 (D : Value) (s : ByteArray) (w : World) (hD : OkD D) (hs : s.size ≤ 1048576) : Calls Try.prog 9 #[.agg #[D, .int .i32 0], .string s] w (Ex 172 w) := by
  have HU := Lib.hid (fun w' => utf14 s w' hs)
  have HR0 : ∀ D, Hid (∀ w', Below ((w.alloc (.cells #[D, .int .i32 0] 32)).alloc (.cells #[.nilIface, .int .i32 0] 32)).heap.size ((w.alloc (.cells #[D, .int .i32 0] 32)).alloc (.cells #[.nilIface, .int .i32 0] 32)) w' → Fr w' w.heap.size (w.heap.size + 1) D) :=
    fun D => Lib.hid fun w' hb => fr_mk ((Blk.new w _ _).alloc _) (blk_new' _ (by simp)) hb
  have HC0 : ∀ D, Hid (∀ w', Same (· = w.heap.size + 1) ((w.alloc (.cells #[D, .int .i32 0] 32)).alloc (.cells #[.nilIface, .int .i32 0] 32)) w' → w'.cell? ⟨w.heap.size, 0, none⟩ = some D ∧ w'.cell? ⟨w.heap.size, 1, none⟩ = some (.int .i32 0)) :=
    fun D => Lib.hid fun w' hb => xs_mk ((Blk.new w _ _).alloc _) (by omega) hb
  have HB0 : ∀ D, Hid (Below w.heap.size w ((w.alloc (.cells #[D, .int .i32 0] 32)).alloc (.cells #[.nilIface, .int .i32 0] 32))) := fun D => Lib.hid (balloc (balloc (Below.refl _ _) _) _)
  rcases hD with rfl | ⟨T, q, rfl⟩
  · have HR := HR0 (.nilIface)
    have HB := HB0 (.nilIface)
    have HC := HC0 (.nilIface)
    clear HR0 HB0 HC0
    go_enter Try.func9, Try.ntmps9
    go_wp2_with fail
    generalize (w.alloc (.cells #[.nilIface, .int .i32 0] 32)).alloc (.cells #[.nilIface, .int .i32 0] 32) = W1 at *
    go_region_held3 (fun w' => w'.cell? ⟨w.heap.size, 0, none⟩ = some (.nilIface) ∧ w'.cell? ⟨w.heap.size, 1, none⟩ = some (.int .i32 0)) ((refine HC.out _ ?_; (repeat (first | with_reducible exact Same.refl _ _ | with_reducible refine Same.drew ?_ | with_reducible refine Same.alloc ?_ _ | with_reducible refine same_set ?_ _ _ | with_reducible refine same_b ?_ BL.out)); done))
      ((go_at_call 14; (with_reducible refine (HU.out _).mono ?_); rintro e wL ⟨⟨a, n, c, rfl⟩, hbL⟩; have BL := Lib.hid hbL; have hr := HR.out wL (by (repeat (first | with_reducible exact Below.refl _ _ | with_reducible refine Below.drew ?_ | with_reducible refine balloc ?_ _ | with_reducible refine below2 ?_ BL.out))); obtain ⟨x0, x1, r0, r1, f0, f1, l⟩ := hr; have l1 : w.heap.size + 1 < wL.heap.size + 1 := Nat.lt_succ_of_lt l; have l2 : w.heap.size + 1 < wL.heap.size + 1 + 1 := Nat.lt_succ_of_lt l1; clear hbL))
    all_goals
      go_wp2_with fail
      refine bodyPost_ret (v := .agg #[.iface 172 (.pointer (some ⟨wL.heap.size + 1, 0, none⟩)), .int .i32 0]) (by simp [results, Try.results9, go_sem, r0, r1, l, l1, l2]; try (first | exact ⟨rfl, rfl⟩ | rfl)) rfl ⟨⟨_, rfl⟩, ?_⟩
      go_light
      (repeat (first | with_reducible exact HB.out | with_reducible refine Below.drew ?_ | with_reducible refine balloc ?_ _ | with_reducible refine bset ?_ _ _ | with_reducible refine below2 ?_ BL.out))
  · have HR := HR0 (.iface T (.pointer (some ⟨q, 0, none⟩)))
    have HB := HB0 (.iface T (.pointer (some ⟨q, 0, none⟩)))
    have HC := HC0 (.iface T (.pointer (some ⟨q, 0, none⟩)))
    clear HR0 HB0 HC0
    go_enter Try.func9, Try.ntmps9
    go_wp2_with fail
    generalize (w.alloc (.cells #[.iface T (.pointer (some ⟨q, 0, none⟩)), .int .i32 0] 32)).alloc (.cells #[.nilIface, .int .i32 0] 32) = W1 at *
    go_region_held3 (fun w' => w'.cell? ⟨w.heap.size, 0, none⟩ = some (.iface T (.pointer (some ⟨q, 0, none⟩))) ∧ w'.cell? ⟨w.heap.size, 1, none⟩ = some (.int .i32 0)) ((refine HC.out _ ?_; (repeat (first | with_reducible exact Same.refl _ _ | with_reducible refine Same.drew ?_ | with_reducible refine Same.alloc ?_ _ | with_reducible refine same_set ?_ _ _ | with_reducible refine same_b ?_ BL.out)); done))
      ((go_at_call 14; (with_reducible refine (HU.out _).mono ?_); rintro e wL ⟨⟨a, n, c, rfl⟩, hbL⟩; have BL := Lib.hid hbL; have hr := HR.out wL (by (repeat (first | with_reducible exact Below.refl _ _ | with_reducible refine Below.drew ?_ | with_reducible refine balloc ?_ _ | with_reducible refine below2 ?_ BL.out))); obtain ⟨x0, x1, r0, r1, f0, f1, l⟩ := hr; have l1 : w.heap.size + 1 < wL.heap.size + 1 := Nat.lt_succ_of_lt l; have l2 : w.heap.size + 1 < wL.heap.size + 1 + 1 := Nat.lt_succ_of_lt l1; clear hbL))
    all_goals
      go_wp2_with fail
      refine bodyPost_ret (v := .agg #[.iface 172 (.pointer (some ⟨wL.heap.size + 1, 0, none⟩)), .int .i32 0]) (by simp [results, Try.results9, go_sem, r0, r1, l, l1, l2]; try (first | exact ⟨rfl, rfl⟩ | rfl)) rfl ⟨⟨_, rfl⟩, ?_⟩
      go_light
      (repeat (first | with_reducible exact HB.out | with_reducible refine Below.drew ?_ | with_reducible refine balloc ?_ _ | with_reducible refine bset ?_ _ _ | with_reducible refine below2 ?_ BL.out))
end Go.Proofs.Ytoalhglknldpnaa.df
