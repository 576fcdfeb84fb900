/- The walk of the law 'FnDefineValueCanBeUsedInAssignTargetTable': it returns true and leaves what was there as it was. No conditions. -/
import Derived.Test.YtoalhglknldpnaaRows
import Derived.Test.YtoalhglknldpnaaLib
import Derived.Test.YtoalhglknldpnaaDefD
namespace Go.Proofs.Ytoalhglknldpnaa.fnDefineValueCanBeUsedInAssignTargetTable
open Go.ChangeShapes Go.WideShapes Go.ChangeAt Go.RowKit Go.Mine df
set_option linter.unusedVariables false
set_option linter.unusedSimpArgs false
set_option maxRecDepth 100000

theorem bytesY (a0 a1 : Int) (s : ByteArray) (f : Nat) (w : World) (hs : s.size ≤ 1048576) : Calls Try.prog 4 #[.int .u8 a0, .int .u8 a1, .string s, .float .f64 f] w fun e w' => e = .returned (.bool true) ∧ w = w' := by
  go_enter Try.func4, Try.ntmps4
  go_wp2
  go_ret
  exact ⟨rfl, rfl⟩
theorem bytesN (a0 a1 : Int) (s : ByteArray) (f : Nat) (w : World) (hm : s.size ≤ 9223372036854775807) (hs : ¬ s.size ≤ 1048576) : Calls Try.prog 4 #[.int .u8 a0, .int .u8 a1, .string s, .float .f64 f] w fun e w' => e = .returned (.bool false) ∧ w = w' := by
  go_enter Try.func4, Try.ntmps4
  go_wp2
  go_ret
  exact ⟨rfl, rfl⟩
/-- The state ahead of the second switch: the parser, and the two variables' boxes. -/
structure St (lo p X Y : Nat) (a : Option Addr) (n c : Nat) (D : Value) (w0 W : World) : Prop where
  ps : PS lo p a n c W
  hn : n ≤ 1
  x : Blk W X #[D, .int .i32 0] 32
  y : Blk W Y #[.nilIface, .int .i32 0] 32
  bel : Below lo w0 W
  ly : lo ≤ Y
theorem St.y_ch {lo p X Y n c : Nat} {a : Option Addr} {D : Value} {w0 W : World} (h : St lo p X Y a n c D w0 W) : ¬ Ch p a n c Y := by
  obtain ⟨⟨⟨xs, ho⟩, ⟨C, hb1, h103⟩, hge⟩, _, _, hy, _⟩ := h
  intro e
  rcases e with e | e
  · subst e
    unfold Blk at hy hb1
    rw [hy] at hb1
    injection hb1 with e1
    injection e1 with _ e1
    revert e1
    decide
  · exact own_ne ho hy (by decide) e
structure Cells (W : World) (X : Nat) (D : Value) : Prop where
  c0 : W.cell? ⟨X, 0, none⟩ = some D
  c1 : W.cell? ⟨X, 1, none⟩ = some (.int .i32 0)
  f0 : W.frozen? ⟨X, 0, none⟩ = false
  f1 : W.frozen? ⟨X, 1, none⟩ = false
  l : X < W.heap.size
theorem cells_of {W : World} {X : Nat} {D : Value} (h : Blk W X #[D, .int .i32 0] 32) : Cells W X D := ⟨h.cell 0, h.cell 1, h.free 0, h.free 1, h.lt⟩
def Post (w : World) (e : Ending) (w' : World) : Prop := e = .returned (.bool true) ∧ Below w.heap.size w w'
theorem st0 {w w1 : World} {p : Nat} (h : PS w.heap.size p none 0 0 w1) (hb : Below w.heap.size w w1) : St w.heap.size p w1.heap.size (w1.heap.size + 1) none 0 0 .nilIface w ((w1.alloc (.cells #[.nilIface, .int .i32 0] 32)).alloc (.cells #[.nilIface, .int .i32 0] 32)) :=
  ⟨h.kept (((Below.refl _ _).alloc (Nat.le_refl _) _).alloc (by simp) _), Nat.zero_le _, (Blk.new w1 _ _).alloc _, blk_new' _ (by simp), (hb.alloc hb.size _).alloc (by have := hb.size; simp; omega) _, by have := hb.size; omega⟩
theorem st1 {w w1 w2 : World} {p c : Nat} {a : Option Addr} {D : Value} (h : PS w.heap.size p none 0 0 w1) (hb : Below w.heap.size w w1) (hP : PS w.heap.size p a 1 c w2) (hS : Same (Ch p none 0 0) (w1.alloc (.cells #[.nilIface, .int .i32 0] 32)) w2) (hB : ∀ w0, Below w.heap.size w0 (w1.alloc (.cells #[.nilIface, .int .i32 0] 32)) → Below w.heap.size w0 w2) :
    St w.heap.size p w1.heap.size w2.heap.size a 1 c D w (((w2.setCell ⟨w1.heap.size, 0, none⟩ D).setCell ⟨w1.heap.size, 1, none⟩ (.int .i32 0)).alloc (.cells #[.nilIface, .int .i32 0] 32)) := by
  have hl := h.lt
  have hz := hb.size
  have hz2 := hS.1
  simp at hz2
  have nX : ¬ Ch p none 0 0 w1.heap.size := fun e => by rcases e with e | e; omega; have := hl.2 _ e; omega
  have b0 := (Blk.new w1 #[.nilIface, .int .i32 0] 32).same hS nX
  have sw : Same (· = w1.heap.size) w2 ((w2.setCell ⟨w1.heap.size, 0, none⟩ D).setCell ⟨w1.heap.size, 1, none⟩ (.int .i32 0)) := same_set (same_set (Same.refl _ _) 0 D) 1 _
  have b1 := (b0.set 0 D).set 1 (.int .i32 0)
  rw [set2] at b1
  refine ⟨(hP.box b0 (by decide) (by decide) sw).kept ((Below.refl _ _).alloc (Nat.le_refl _) _), Nat.le_refl _, b1.alloc _, blk_new' _ (by rw [size_set, size_set]), ?_, by omega⟩
  exact (((hB w (hb.alloc hz _)).setCell (p := ⟨w1.heap.size, 0, none⟩) hz D).setCell (p := ⟨w1.heap.size, 1, none⟩) hz _).alloc (by rw [size_set, size_set]; omega) _
theorem st2 {w w1 w2 : World} {p : Nat} {D : Value} (h : PS w.heap.size p none 0 0 w1) (hb : Below w.heap.size w w1) (hB : Below (w1.alloc (.cells #[.nilIface, .int .i32 0] 32)).heap.size (w1.alloc (.cells #[.nilIface, .int .i32 0] 32)) w2) :
    St w.heap.size p w1.heap.size w2.heap.size none 0 0 D w (((w2.setCell ⟨w1.heap.size, 0, none⟩ D).setCell ⟨w1.heap.size, 1, none⟩ (.int .i32 0)).alloc (.cells #[.nilIface, .int .i32 0] 32)) := by
  have hz := hb.size
  have hz2 := hB.size
  simp at hz2
  have b0 := (Blk.new w1 #[.nilIface, .int .i32 0] 32).below hB
  have sw : Same (· = w1.heap.size) w2 ((w2.setCell ⟨w1.heap.size, 0, none⟩ D).setCell ⟨w1.heap.size, 1, none⟩ (.int .i32 0)) := same_set (same_set (Same.refl _ _) 0 D) 1 _
  have b1 := (b0.set 0 D).set 1 (.int .i32 0)
  rw [set2] at b1
  have hP : PS w.heap.size p none 0 0 w2 := (h.kept ((Below.refl _ _).alloc (Nat.le_refl _) _)).kept hB
  refine ⟨(hP.box b0 (by decide) (by decide) sw).kept ((Below.refl _ _).alloc (Nat.le_refl _) _), Nat.zero_le _, b1.alloc _, blk_new' _ (by rw [size_set, size_set]), ?_, by omega⟩
  exact ((((hb.alloc hz _).trans (hB.mono (by simp; omega))).setCell (p := ⟨w1.heap.size, 0, none⟩) hz D).setCell (p := ⟨w1.heap.size, 1, none⟩) hz _).alloc (by rw [size_set, size_set]; omega) _
/-! TAIL -/
theorem fin3 {lo Y : Nat} {w0 w3 w4 : World} {u v : Value} (hB : Below lo w0 w3) (ly : lo ≤ Y) (hz : lo ≤ w3.heap.size) (b2 : Below ((w3.setCell ⟨Y, 0, none⟩ u).setCell ⟨Y, 1, none⟩ v).heap.size ((w3.setCell ⟨Y, 0, none⟩ u).setCell ⟨Y, 1, none⟩ v) w4) : Below lo w0 w4 :=
  ((hB.setCell (p := ⟨Y, 0, none⟩) ly u).setCell (p := ⟨Y, 1, none⟩) ly v).trans (b2.mono (by rw [size_set, size_set]; exact hz))
theorem St.sz {lo p X Y n c : Nat} {a : Option Addr} {D : Value} {w0 W : World} (h : St lo p X Y a n c D w0 W) : lo ≤ W.heap.size := by have := h.ps.ge; have := h.ps.lt.1; omega
set_option maxHeartbeats 8000000 in
theorem walk0 (a0 a1 : Int) (a2 : ByteArray) (a3 : Nat) (w : World) (h0 : 0 ≤ a0) (h1 : a0 ≤ 255) (h2 : 0 ≤ a1) (h3 : a1 ≤ 255) (hs : a2.size ≤ 1048576) (hi : a1 % 3 = 0) :
    Calls Try.prog 3 #[.int .u8 a0, .int .u8 a1, .string a2, .float .f64 a3] w (Post w) := by
  have H5 := Lib.hid c5
  have H6 := Lib.hid (fun lo p a n c w h hn => ident6 lo p a2 a n c w h hn)
  · have i1 : (a1 % 3 == 1) = false := by rw [hi]; rfl
    have i2 : (a1 % 3 == 2) = false := by rw [hi]; rfl
    clear hi
    go_enter Try.func3, Try.ntmps3
    go_upto_region 14 with (first | (go_at_call 4; (with_reducible refine (bytesY _ _ _ _ _ hs).mono ?_); rintro e w1 ⟨rfl, rfl⟩) | (go_at_call 5; (with_reducible refine (H5.out _).mono ?_); rintro e w1 ⟨p, rfl, hP, hb⟩; have HP := Lib.hid hP; have HB := Lib.hid hb; have HA := Lib.hid (hP.kept ((Below.refl _ _).alloc (Nat.le_refl _) (.cells #[.nilIface, .int .i32 0] 32))); clear hP hb))
    have SX := Lib.hid (st0 HP.out HB.out)
    have OKD : Hid (OkD .nilIface) := Lib.hid (.inl rfl)
    clear HP HB HA
    generalize (w1.alloc (.cells #[.nilIface, .int .i32 0] 32)).alloc (.cells #[.nilIface, .int .i32 0] 32) = W at *
    generalize w1.heap.size + 1 = Y at *
    generalize w1.heap.size = X at *
    obtain ⟨x0, x1, _, _, xl⟩ := cells_of SX.out.x
    obtain ⟨y0, y1, g0, g1, yl⟩ := cells_of SX.out.y
    have ho : a0 % 6 = 0 ∨ a0 % 6 = 1 ∨ a0 % 6 = 2 ∨ a0 % 6 = 3 ∨ a0 % 6 = 4 ∨ a0 % 6 = 5 := by omega
    rcases ho with ho | ho | ho | ho | ho | ho
    · have j0 : (a0 % 6 == 0) = true := by rw [ho]; rfl
      have j1 : (a0 % 6 == 1) = false := by rw [ho]; rfl
      have j2 : (a0 % 6 == 2) = false := by rw [ho]; rfl
      have j3 : (a0 % 6 == 3) = false := by rw [ho]; rfl
      have j4 : (a0 % 6 == 4) = false := by rw [ho]; rfl
      clear ho
      go_wp2_with (first | (go_at_call 11; (with_reducible refine (can11n _ _ (by simp)).mono ?_); rintro e w4 ⟨rfl, b4⟩; have B4 := Lib.hid b4; clear b4))
      go_ret
      exact ⟨rfl, SX.out.bel.trans (B4.out.mono SX.out.sz)⟩
    · have j0 : (a0 % 6 == 0) = false := by rw [ho]; rfl
      have j1 : (a0 % 6 == 1) = true := by rw [ho]; rfl
      have j2 : (a0 % 6 == 2) = false := by rw [ho]; rfl
      have j3 : (a0 % 6 == 3) = false := by rw [ho]; rfl
      have j4 : (a0 % 6 == 4) = false := by rw [ho]; rfl
      clear ho
      go_wp2_with (first | (go_at_call 6; (with_reducible refine (H6.out _ _ _ _ _ _ SX.out.ps (by have := SX.out.hn; omega)).mono ?_); rintro e w3 ⟨⟨q1, rfl⟩, _, hS, hB⟩; obtain ⟨y0', y1', g0', g1', yl'⟩ := cells_of (SX.out.y.same hS SX.out.y_ch); have B3 := Lib.hid (hB w SX.out.bel); have Z3 := Lib.hid (Nat.le_trans SX.out.sz hS.1); clear hS hB) | (go_at_call 11; (with_reducible refine (can11y _ _ _ (by decide)).mono ?_); rintro e w4 ⟨rfl, b4⟩; have B4 := Lib.hid b4; clear b4))
      go_ret
      exact ⟨rfl, fin3 B3.out SX.out.ly Z3.out B4.out⟩
    · have j0 : (a0 % 6 == 0) = false := by rw [ho]; rfl
      have j1 : (a0 % 6 == 1) = false := by rw [ho]; rfl
      have j2 : (a0 % 6 == 2) = true := by rw [ho]; rfl
      have j3 : (a0 % 6 == 3) = false := by rw [ho]; rfl
      have j4 : (a0 % 6 == 4) = false := by rw [ho]; rfl
      clear ho
      go_wp2_with (first | (go_at_call 8; (with_reducible refine (dot8 _ _ _ OKD.out).mono ?_); rintro e w3 ⟨⟨q1, rfl⟩, hb3⟩; obtain ⟨y0', y1', g0', g1', yl'⟩ := cells_of (SX.out.y.below hb3); have B3 := Lib.hid (SX.out.bel.trans (hb3.mono SX.out.sz)); have Z3 := Lib.hid (Nat.le_trans SX.out.sz hb3.size); clear hb3) | (go_at_call 11; (with_reducible refine (can11y _ _ _ (by decide)).mono ?_); rintro e w4 ⟨rfl, b4⟩; have B4 := Lib.hid b4; clear b4))
      go_ret
      exact ⟨rfl, fin3 B3.out SX.out.ly Z3.out B4.out⟩
    · have j0 : (a0 % 6 == 0) = false := by rw [ho]; rfl
      have j1 : (a0 % 6 == 1) = false := by rw [ho]; rfl
      have j2 : (a0 % 6 == 2) = false := by rw [ho]; rfl
      have j3 : (a0 % 6 == 3) = true := by rw [ho]; rfl
      have j4 : (a0 % 6 == 4) = false := by rw [ho]; rfl
      clear ho
      go_wp2_with (first | (go_at_call 9; (with_reducible refine (istr9 _ _ _ OKD.out hs).mono ?_); rintro e w3 ⟨⟨q1, rfl⟩, hb3⟩; obtain ⟨y0', y1', g0', g1', yl'⟩ := cells_of (SX.out.y.below hb3); have B3 := Lib.hid (SX.out.bel.trans (hb3.mono SX.out.sz)); have Z3 := Lib.hid (Nat.le_trans SX.out.sz hb3.size); clear hb3) | (go_at_call 11; (with_reducible refine (can11n _ _ (by simp)).mono ?_); rintro e w4 ⟨rfl, b4⟩; have B4 := Lib.hid b4; clear b4))
      go_ret
      exact ⟨rfl, fin3 B3.out SX.out.ly Z3.out B4.out⟩
    · have j0 : (a0 % 6 == 0) = false := by rw [ho]; rfl
      have j1 : (a0 % 6 == 1) = false := by rw [ho]; rfl
      have j2 : (a0 % 6 == 2) = false := by rw [ho]; rfl
      have j3 : (a0 % 6 == 3) = false := by rw [ho]; rfl
      have j4 : (a0 % 6 == 4) = true := by rw [ho]; rfl
      clear ho
      go_wp2_with (first | (go_at_call 10; (with_reducible refine (inum10 _ _ _ OKD.out).mono ?_); rintro e w3 ⟨⟨q1, rfl⟩, hb3⟩; obtain ⟨y0', y1', g0', g1', yl'⟩ := cells_of (SX.out.y.below hb3); have B3 := Lib.hid (SX.out.bel.trans (hb3.mono SX.out.sz)); have Z3 := Lib.hid (Nat.le_trans SX.out.sz hb3.size); clear hb3) | (go_at_call 11; (with_reducible refine (can11n _ _ (by simp)).mono ?_); rintro e w4 ⟨rfl, b4⟩; have B4 := Lib.hid b4; clear b4))
      go_ret
      exact ⟨rfl, fin3 B3.out SX.out.ly Z3.out B4.out⟩
    · have j0 : (a0 % 6 == 0) = false := by rw [ho]; rfl
      have j1 : (a0 % 6 == 1) = false := by rw [ho]; rfl
      have j2 : (a0 % 6 == 2) = false := by rw [ho]; rfl
      have j3 : (a0 % 6 == 3) = false := by rw [ho]; rfl
      have j4 : (a0 % 6 == 4) = false := by rw [ho]; rfl
      clear ho
      go_wp2_with (first | (go_at_call 7; (with_reducible refine (num7 _ _).mono ?_); rintro e w3 ⟨⟨q1, rfl⟩, hb3⟩; obtain ⟨y0', y1', g0', g1', yl'⟩ := cells_of (SX.out.y.below hb3); have B3 := Lib.hid (SX.out.bel.trans (hb3.mono SX.out.sz)); have Z3 := Lib.hid (Nat.le_trans SX.out.sz hb3.size); clear hb3) | (go_at_call 11; (with_reducible refine (can11n _ _ (by simp)).mono ?_); rintro e w4 ⟨rfl, b4⟩; have B4 := Lib.hid b4; clear b4))
      go_ret
      exact ⟨rfl, fin3 B3.out SX.out.ly Z3.out B4.out⟩
set_option maxHeartbeats 8000000 in
theorem walk1 (a0 a1 : Int) (a2 : ByteArray) (a3 : Nat) (w : World) (h0 : 0 ≤ a0) (h1 : a0 ≤ 255) (h2 : 0 ≤ a1) (h3 : a1 ≤ 255) (hs : a2.size ≤ 1048576) (hi : a1 % 3 = 1) :
    Calls Try.prog 3 #[.int .u8 a0, .int .u8 a1, .string a2, .float .f64 a3] w (Post w) := by
  have H5 := Lib.hid c5
  have H6 := Lib.hid (fun lo p a n c w h hn => ident6 lo p a2 a n c w h hn)
  · have i1 : (a1 % 3 == 1) = true := by rw [hi]; rfl
    have i2 : (a1 % 3 == 2) = false := by rw [hi]; rfl
    clear hi
    go_enter Try.func3, Try.ntmps3
    go_upto_region 14 with (first | (go_at_call 4; (with_reducible refine (bytesY _ _ _ _ _ hs).mono ?_); rintro e w1 ⟨rfl, rfl⟩) | (go_at_call 5; (with_reducible refine (H5.out _).mono ?_); rintro e w1 ⟨p, rfl, hP, hb⟩; have HP := Lib.hid hP; have HB := Lib.hid hb; have HA := Lib.hid (hP.kept ((Below.refl _ _).alloc (Nat.le_refl _) (.cells #[.nilIface, .int .i32 0] 32))); clear hP hb) | (go_at_call 6; (with_reducible refine (H6.out _ _ _ _ _ _ HA.out (by omega)).mono ?_); rintro e w2 ⟨⟨q, rfl⟩, hP2, hS, hB⟩; obtain ⟨c0, c1, f0, f1, l0⟩ := box_after HP.out hS; have HP2 := Lib.hid hP2; have HS2 := Lib.hid hS; have HB2 := Lib.hid hB; clear hP2 hS hB))
    obtain ⟨a, c, hP2⟩ := HP2.out
    have SX := Lib.hid (st1 (D := (.iface 161 (.pointer (some ⟨q, 0, none⟩)))) HP.out HB.out hP2 HS2.out HB2.out)
    have OKD : Hid (OkD (.iface 161 (.pointer (some ⟨q, 0, none⟩)))) := Lib.hid (.inr ⟨_, _, rfl⟩)
    clear HP HB HA HP2 HS2 HB2 hP2 c0 c1 f0 f1 l0
    generalize ((w2.setCell ⟨w1.heap.size, 0, none⟩ (.iface 161 (.pointer (some ⟨q, 0, none⟩)))).setCell ⟨w1.heap.size, 1, none⟩ (.int .i32 0)).alloc (.cells #[.nilIface, .int .i32 0] 32) = W at *
    generalize w2.heap.size = Y at *
    generalize w1.heap.size = X at *
    obtain ⟨x0, x1, _, _, xl⟩ := cells_of SX.out.x
    obtain ⟨y0, y1, g0, g1, yl⟩ := cells_of SX.out.y
    have ho : a0 % 6 = 0 ∨ a0 % 6 = 1 ∨ a0 % 6 = 2 ∨ a0 % 6 = 3 ∨ a0 % 6 = 4 ∨ a0 % 6 = 5 := by omega
    rcases ho with ho | ho | ho | ho | ho | ho
    · have j0 : (a0 % 6 == 0) = true := by rw [ho]; rfl
      have j1 : (a0 % 6 == 1) = false := by rw [ho]; rfl
      have j2 : (a0 % 6 == 2) = false := by rw [ho]; rfl
      have j3 : (a0 % 6 == 3) = false := by rw [ho]; rfl
      have j4 : (a0 % 6 == 4) = false := by rw [ho]; rfl
      clear ho
      go_wp2_with (first | (go_at_call 11; (with_reducible refine (can11n _ _ (by simp)).mono ?_); rintro e w4 ⟨rfl, b4⟩; have B4 := Lib.hid b4; clear b4))
      go_ret
      exact ⟨rfl, SX.out.bel.trans (B4.out.mono SX.out.sz)⟩
    · have j0 : (a0 % 6 == 0) = false := by rw [ho]; rfl
      have j1 : (a0 % 6 == 1) = true := by rw [ho]; rfl
      have j2 : (a0 % 6 == 2) = false := by rw [ho]; rfl
      have j3 : (a0 % 6 == 3) = false := by rw [ho]; rfl
      have j4 : (a0 % 6 == 4) = false := by rw [ho]; rfl
      clear ho
      go_wp2_with (first | (go_at_call 6; (with_reducible refine (H6.out _ _ _ _ _ _ SX.out.ps (by have := SX.out.hn; omega)).mono ?_); rintro e w3 ⟨⟨q1, rfl⟩, _, hS, hB⟩; obtain ⟨y0', y1', g0', g1', yl'⟩ := cells_of (SX.out.y.same hS SX.out.y_ch); have B3 := Lib.hid (hB w SX.out.bel); have Z3 := Lib.hid (Nat.le_trans SX.out.sz hS.1); clear hS hB) | (go_at_call 11; (with_reducible refine (can11y _ _ _ (by decide)).mono ?_); rintro e w4 ⟨rfl, b4⟩; have B4 := Lib.hid b4; clear b4))
      go_ret
      exact ⟨rfl, fin3 B3.out SX.out.ly Z3.out B4.out⟩
    · have j0 : (a0 % 6 == 0) = false := by rw [ho]; rfl
      have j1 : (a0 % 6 == 1) = false := by rw [ho]; rfl
      have j2 : (a0 % 6 == 2) = true := by rw [ho]; rfl
      have j3 : (a0 % 6 == 3) = false := by rw [ho]; rfl
      have j4 : (a0 % 6 == 4) = false := by rw [ho]; rfl
      clear ho
      go_wp2_with (first | (go_at_call 8; (with_reducible refine (dot8 _ _ _ OKD.out).mono ?_); rintro e w3 ⟨⟨q1, rfl⟩, hb3⟩; obtain ⟨y0', y1', g0', g1', yl'⟩ := cells_of (SX.out.y.below hb3); have B3 := Lib.hid (SX.out.bel.trans (hb3.mono SX.out.sz)); have Z3 := Lib.hid (Nat.le_trans SX.out.sz hb3.size); clear hb3) | (go_at_call 11; (with_reducible refine (can11y _ _ _ (by decide)).mono ?_); rintro e w4 ⟨rfl, b4⟩; have B4 := Lib.hid b4; clear b4))
      go_ret
      exact ⟨rfl, fin3 B3.out SX.out.ly Z3.out B4.out⟩
    · have j0 : (a0 % 6 == 0) = false := by rw [ho]; rfl
      have j1 : (a0 % 6 == 1) = false := by rw [ho]; rfl
      have j2 : (a0 % 6 == 2) = false := by rw [ho]; rfl
      have j3 : (a0 % 6 == 3) = true := by rw [ho]; rfl
      have j4 : (a0 % 6 == 4) = false := by rw [ho]; rfl
      clear ho
      go_wp2_with (first | (go_at_call 9; (with_reducible refine (istr9 _ _ _ OKD.out hs).mono ?_); rintro e w3 ⟨⟨q1, rfl⟩, hb3⟩; obtain ⟨y0', y1', g0', g1', yl'⟩ := cells_of (SX.out.y.below hb3); have B3 := Lib.hid (SX.out.bel.trans (hb3.mono SX.out.sz)); have Z3 := Lib.hid (Nat.le_trans SX.out.sz hb3.size); clear hb3) | (go_at_call 11; (with_reducible refine (can11n _ _ (by simp)).mono ?_); rintro e w4 ⟨rfl, b4⟩; have B4 := Lib.hid b4; clear b4))
      go_ret
      exact ⟨rfl, fin3 B3.out SX.out.ly Z3.out B4.out⟩
    · have j0 : (a0 % 6 == 0) = false := by rw [ho]; rfl
      have j1 : (a0 % 6 == 1) = false := by rw [ho]; rfl
      have j2 : (a0 % 6 == 2) = false := by rw [ho]; rfl
      have j3 : (a0 % 6 == 3) = false := by rw [ho]; rfl
      have j4 : (a0 % 6 == 4) = true := by rw [ho]; rfl
      clear ho
      go_wp2_with (first | (go_at_call 10; (with_reducible refine (inum10 _ _ _ OKD.out).mono ?_); rintro e w3 ⟨⟨q1, rfl⟩, hb3⟩; obtain ⟨y0', y1', g0', g1', yl'⟩ := cells_of (SX.out.y.below hb3); have B3 := Lib.hid (SX.out.bel.trans (hb3.mono SX.out.sz)); have Z3 := Lib.hid (Nat.le_trans SX.out.sz hb3.size); clear hb3) | (go_at_call 11; (with_reducible refine (can11n _ _ (by simp)).mono ?_); rintro e w4 ⟨rfl, b4⟩; have B4 := Lib.hid b4; clear b4))
      go_ret
      exact ⟨rfl, fin3 B3.out SX.out.ly Z3.out B4.out⟩
    · have j0 : (a0 % 6 == 0) = false := by rw [ho]; rfl
      have j1 : (a0 % 6 == 1) = false := by rw [ho]; rfl
      have j2 : (a0 % 6 == 2) = false := by rw [ho]; rfl
      have j3 : (a0 % 6 == 3) = false := by rw [ho]; rfl
      have j4 : (a0 % 6 == 4) = false := by rw [ho]; rfl
      clear ho
      go_wp2_with (first | (go_at_call 7; (with_reducible refine (num7 _ _).mono ?_); rintro e w3 ⟨⟨q1, rfl⟩, hb3⟩; obtain ⟨y0', y1', g0', g1', yl'⟩ := cells_of (SX.out.y.below hb3); have B3 := Lib.hid (SX.out.bel.trans (hb3.mono SX.out.sz)); have Z3 := Lib.hid (Nat.le_trans SX.out.sz hb3.size); clear hb3) | (go_at_call 11; (with_reducible refine (can11n _ _ (by simp)).mono ?_); rintro e w4 ⟨rfl, b4⟩; have B4 := Lib.hid b4; clear b4))
      go_ret
      exact ⟨rfl, fin3 B3.out SX.out.ly Z3.out B4.out⟩
set_option maxHeartbeats 8000000 in
theorem walk2 (a0 a1 : Int) (a2 : ByteArray) (a3 : Nat) (w : World) (h0 : 0 ≤ a0) (h1 : a0 ≤ 255) (h2 : 0 ≤ a1) (h3 : a1 ≤ 255) (hs : a2.size ≤ 1048576) (hi : a1 % 3 = 2) :
    Calls Try.prog 3 #[.int .u8 a0, .int .u8 a1, .string a2, .float .f64 a3] w (Post w) := by
  have H5 := Lib.hid c5
  have H6 := Lib.hid (fun lo p a n c w h hn => ident6 lo p a2 a n c w h hn)
  · have i1 : (a1 % 3 == 1) = false := by rw [hi]; rfl
    have i2 : (a1 % 3 == 2) = true := by rw [hi]; rfl
    clear hi
    go_enter Try.func3, Try.ntmps3
    go_upto_region 14 with (first | (go_at_call 4; (with_reducible refine (bytesY _ _ _ _ _ hs).mono ?_); rintro e w1 ⟨rfl, rfl⟩) | (go_at_call 5; (with_reducible refine (H5.out _).mono ?_); rintro e w1 ⟨p, rfl, hP, hb⟩; have HP := Lib.hid hP; have HB := Lib.hid hb; have HA := Lib.hid (hP.kept ((Below.refl _ _).alloc (Nat.le_refl _) (.cells #[.nilIface, .int .i32 0] 32))); clear hP hb) | (go_at_call 7; (with_reducible refine (num7 _ _).mono ?_); rintro e w2 ⟨⟨q, rfl⟩, hb2⟩; obtain ⟨c0, c1, f0, f1, l0⟩ := cells_of ((Blk.new w1 #[.nilIface, .int .i32 0] 32).below hb2); have HB2 := Lib.hid hb2; clear hb2))
    have SX := Lib.hid (st2 (D := (.iface 165 (.pointer (some ⟨q, 0, none⟩)))) HP.out HB.out HB2.out)
    have OKD : Hid (OkD (.iface 165 (.pointer (some ⟨q, 0, none⟩)))) := Lib.hid (.inr ⟨_, _, rfl⟩)
    clear HP HB HA HB2 c0 c1 f0 f1 l0
    generalize ((w2.setCell ⟨w1.heap.size, 0, none⟩ (.iface 165 (.pointer (some ⟨q, 0, none⟩)))).setCell ⟨w1.heap.size, 1, none⟩ (.int .i32 0)).alloc (.cells #[.nilIface, .int .i32 0] 32) = W at *
    generalize w2.heap.size = Y at *
    generalize w1.heap.size = X at *
    obtain ⟨x0, x1, _, _, xl⟩ := cells_of SX.out.x
    obtain ⟨y0, y1, g0, g1, yl⟩ := cells_of SX.out.y
    have ho : a0 % 6 = 0 ∨ a0 % 6 = 1 ∨ a0 % 6 = 2 ∨ a0 % 6 = 3 ∨ a0 % 6 = 4 ∨ a0 % 6 = 5 := by omega
    rcases ho with ho | ho | ho | ho | ho | ho
    · have j0 : (a0 % 6 == 0) = true := by rw [ho]; rfl
      have j1 : (a0 % 6 == 1) = false := by rw [ho]; rfl
      have j2 : (a0 % 6 == 2) = false := by rw [ho]; rfl
      have j3 : (a0 % 6 == 3) = false := by rw [ho]; rfl
      have j4 : (a0 % 6 == 4) = false := by rw [ho]; rfl
      clear ho
      go_wp2_with (first | (go_at_call 11; (with_reducible refine (can11n _ _ (by simp)).mono ?_); rintro e w4 ⟨rfl, b4⟩; have B4 := Lib.hid b4; clear b4))
      go_ret
      exact ⟨rfl, SX.out.bel.trans (B4.out.mono SX.out.sz)⟩
    · have j0 : (a0 % 6 == 0) = false := by rw [ho]; rfl
      have j1 : (a0 % 6 == 1) = true := by rw [ho]; rfl
      have j2 : (a0 % 6 == 2) = false := by rw [ho]; rfl
      have j3 : (a0 % 6 == 3) = false := by rw [ho]; rfl
      have j4 : (a0 % 6 == 4) = false := by rw [ho]; rfl
      clear ho
      go_wp2_with (first | (go_at_call 6; (with_reducible refine (H6.out _ _ _ _ _ _ SX.out.ps (by have := SX.out.hn; omega)).mono ?_); rintro e w3 ⟨⟨q1, rfl⟩, _, hS, hB⟩; obtain ⟨y0', y1', g0', g1', yl'⟩ := cells_of (SX.out.y.same hS SX.out.y_ch); have B3 := Lib.hid (hB w SX.out.bel); have Z3 := Lib.hid (Nat.le_trans SX.out.sz hS.1); clear hS hB) | (go_at_call 11; (with_reducible refine (can11y _ _ _ (by decide)).mono ?_); rintro e w4 ⟨rfl, b4⟩; have B4 := Lib.hid b4; clear b4))
      go_ret
      exact ⟨rfl, fin3 B3.out SX.out.ly Z3.out B4.out⟩
    · have j0 : (a0 % 6 == 0) = false := by rw [ho]; rfl
      have j1 : (a0 % 6 == 1) = false := by rw [ho]; rfl
      have j2 : (a0 % 6 == 2) = true := by rw [ho]; rfl
      have j3 : (a0 % 6 == 3) = false := by rw [ho]; rfl
      have j4 : (a0 % 6 == 4) = false := by rw [ho]; rfl
      clear ho
      go_wp2_with (first | (go_at_call 8; (with_reducible refine (dot8 _ _ _ OKD.out).mono ?_); rintro e w3 ⟨⟨q1, rfl⟩, hb3⟩; obtain ⟨y0', y1', g0', g1', yl'⟩ := cells_of (SX.out.y.below hb3); have B3 := Lib.hid (SX.out.bel.trans (hb3.mono SX.out.sz)); have Z3 := Lib.hid (Nat.le_trans SX.out.sz hb3.size); clear hb3) | (go_at_call 11; (with_reducible refine (can11y _ _ _ (by decide)).mono ?_); rintro e w4 ⟨rfl, b4⟩; have B4 := Lib.hid b4; clear b4))
      go_ret
      exact ⟨rfl, fin3 B3.out SX.out.ly Z3.out B4.out⟩
    · have j0 : (a0 % 6 == 0) = false := by rw [ho]; rfl
      have j1 : (a0 % 6 == 1) = false := by rw [ho]; rfl
      have j2 : (a0 % 6 == 2) = false := by rw [ho]; rfl
      have j3 : (a0 % 6 == 3) = true := by rw [ho]; rfl
      have j4 : (a0 % 6 == 4) = false := by rw [ho]; rfl
      clear ho
      go_wp2_with (first | (go_at_call 9; (with_reducible refine (istr9 _ _ _ OKD.out hs).mono ?_); rintro e w3 ⟨⟨q1, rfl⟩, hb3⟩; obtain ⟨y0', y1', g0', g1', yl'⟩ := cells_of (SX.out.y.below hb3); have B3 := Lib.hid (SX.out.bel.trans (hb3.mono SX.out.sz)); have Z3 := Lib.hid (Nat.le_trans SX.out.sz hb3.size); clear hb3) | (go_at_call 11; (with_reducible refine (can11n _ _ (by simp)).mono ?_); rintro e w4 ⟨rfl, b4⟩; have B4 := Lib.hid b4; clear b4))
      go_ret
      exact ⟨rfl, fin3 B3.out SX.out.ly Z3.out B4.out⟩
    · have j0 : (a0 % 6 == 0) = false := by rw [ho]; rfl
      have j1 : (a0 % 6 == 1) = false := by rw [ho]; rfl
      have j2 : (a0 % 6 == 2) = false := by rw [ho]; rfl
      have j3 : (a0 % 6 == 3) = false := by rw [ho]; rfl
      have j4 : (a0 % 6 == 4) = true := by rw [ho]; rfl
      clear ho
      go_wp2_with (first | (go_at_call 10; (with_reducible refine (inum10 _ _ _ OKD.out).mono ?_); rintro e w3 ⟨⟨q1, rfl⟩, hb3⟩; obtain ⟨y0', y1', g0', g1', yl'⟩ := cells_of (SX.out.y.below hb3); have B3 := Lib.hid (SX.out.bel.trans (hb3.mono SX.out.sz)); have Z3 := Lib.hid (Nat.le_trans SX.out.sz hb3.size); clear hb3) | (go_at_call 11; (with_reducible refine (can11n _ _ (by simp)).mono ?_); rintro e w4 ⟨rfl, b4⟩; have B4 := Lib.hid b4; clear b4))
      go_ret
      exact ⟨rfl, fin3 B3.out SX.out.ly Z3.out B4.out⟩
    · have j0 : (a0 % 6 == 0) = false := by rw [ho]; rfl
      have j1 : (a0 % 6 == 1) = false := by rw [ho]; rfl
      have j2 : (a0 % 6 == 2) = false := by rw [ho]; rfl
      have j3 : (a0 % 6 == 3) = false := by rw [ho]; rfl
      have j4 : (a0 % 6 == 4) = false := by rw [ho]; rfl
      clear ho
      go_wp2_with (first | (go_at_call 7; (with_reducible refine (num7 _ _).mono ?_); rintro e w3 ⟨⟨q1, rfl⟩, hb3⟩; obtain ⟨y0', y1', g0', g1', yl'⟩ := cells_of (SX.out.y.below hb3); have B3 := Lib.hid (SX.out.bel.trans (hb3.mono SX.out.sz)); have Z3 := Lib.hid (Nat.le_trans SX.out.sz hb3.size); clear hb3) | (go_at_call 11; (with_reducible refine (can11n _ _ (by simp)).mono ?_); rintro e w4 ⟨rfl, b4⟩; have B4 := Lib.hid b4; clear b4))
      go_ret
      exact ⟨rfl, fin3 B3.out SX.out.ly Z3.out B4.out⟩
theorem walk (a0 : Int) (a1 : Int) (a2 : ByteArray) (a3 : Nat) (w : World) (w0 : (Lit.int .u8 a0).wf = true) (w1 : (Lit.int .u8 a1).wf = true) (w2 : a2.size ≤ maxLen) (w3 : (Lit.float .f64 a3).wf = true) :
    Calls Try.prog 3 #[.int .u8 a0, .int .u8 a1, .string a2, .float .f64 a3] w fun e w' => e = .returned (.bool true) ∧ Below w.heap.size w w' := by
  have b0 := bounds_u8 w0
  have b1 := bounds_u8 w1
  unfold maxLen at w2
  by_cases hs : a2.size ≤ 1048576
  · have hi : a1 % 3 = 0 ∨ a1 % 3 = 1 ∨ a1 % 3 = 2 := by omega
    rcases hi with hi | hi | hi
    · exact (walk0 a0 a1 a2 a3 w b0.1 b0.2 b1.1 b1.2 hs hi).mono fun _ _ h => h
    · exact (walk1 a0 a1 a2 a3 w b0.1 b0.2 b1.1 b1.2 hs hi).mono fun _ _ h => h
    · exact (walk2 a0 a1 a2 a3 w b0.1 b0.2 b1.1 b1.2 hs hi).mono fun _ _ h => h
  · go_enter Try.func3, Try.ntmps3
    go_wp2_with (first | (go_at_call 4; (with_reducible refine (bytesN _ _ _ _ _ (by omega) hs).mono ?_); rintro e w1 ⟨rfl, rfl⟩))
    go_ret
    exact ⟨rfl, Below.refl _ _⟩
end Go.Proofs.Ytoalhglknldpnaa.fnDefineValueCanBeUsedInAssignTargetTable
