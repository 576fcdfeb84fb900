/- The contract of 'b3Build' of the package n011_37: each built expression is a node, and the two kinds of property access bear their flag. No conditions beyond its hypotheses. -/
import Derived.Test.YtpgkbpgfiblboaaRSymD
import Derived.Deep.RegionHeld3
import Derived.Deep.RegionWith
import Derived.Deep.CutBlock
import Derived.Deep.DeepCutAuto
namespace Go.Proofs.YtpgkbpgfiblboaaR.sym
open Go.ChangeShapes Go.WideShapes Go.ChangeAt Go.RowKit Go.Mine Go.Deep
set_option linter.unusedVariables false
set_option linter.unusedSimpArgs false
set_option maxRecDepth 100000

def OkN (w : World) (T p : Nat) : Prop := (T ≠ 97 ∧ T ≠ 101) ∨ (T = 97 ∧ ∃ f : Bool, w.cell? ⟨p, 7, none⟩ = some (.bool f)) ∨ (T = 101 ∧ ∃ f : Bool, w.cell? ⟨p, 8, none⟩ = some (.bool f))
structure Er (n i R : Nat) (C : Array Value) (w wr : World) : Prop where
  bel : Below w.heap.size w wr
  blk : Blk wr R C 30
  size : C.size = n * 2
  loc : ∀ j, j < n → C[j * 2 + 1]? = some (.int .i32 0)
  low : ∀ j, j < i → j < n → C[j * 2]? = some .nilIface
  high : ∀ j, i ≤ j → j < n → ∃ T p, C[j * 2]? = some (.iface T (.pointer (some ⟨p, 0, none⟩))) ∧ R < p ∧ OkN wr T p
theorem OkN.same {w w' : World} {R T p : Nat} (h : OkN w T p) (hs : Same (fun k => k = R) w w') (hp : R < p) : OkN w' T p := by
  rcases h with h | ⟨h, f, hc⟩ | ⟨h, f, hc⟩
  · exact .inl h
  · exact .inr (.inl ⟨h, f, hs.cell (by omega) hc⟩)
  · exact .inr (.inr ⟨h, f, hs.cell (by omega) hc⟩)
theorem Er.erow {n i R : Nat} {C : Array Value} {w wr : World} (h : Er n (i + 1) R C w wr) : ERow wr R n i := fun j h1 h2 => by
  obtain ⟨T, p, hc, _, _⟩ := h.high j (by omega) h2
  exact ⟨T, p, (h.blk.cell _).trans hc, (h.blk.cell _).trans (h.loc j h2)⟩
theorem Er.below {n i R : Nat} {C : Array Value} {w wr w' : World} (h : Er n i R C w wr) (hb : Below wr.heap.size wr w') : Er n i R C w w' :=
  ⟨below2 h.bel hb, h.blk.below hb, h.size, h.loc, h.low, fun j h1 h2 => by
    obtain ⟨T, p, hc, hp, hok⟩ := h.high j h1 h2
    exact ⟨T, p, hc, hp, hok.same (Same.of_below hb) hp⟩⟩
theorem Er.fin {n i R : Nat} {C : Array Value} {w wn X : World} (h : Er n (i + 1) R C w wn) (hi : i < n) {T p : Nat} (hblk : Blk X R (C.setIfInBounds (i * 2) (.iface T (.pointer (some ⟨p, 0, none⟩)))) 30) (hs : Same (fun k => k = R) wn X)
    (hb : Below w.heap.size w X) (hp : R < p) (hok : OkN X T p) : Er n i R (C.setIfInBounds (i * 2) (.iface T (.pointer (some ⟨p, 0, none⟩)))) w X := by
  refine ⟨hb, hblk, by simpa using h.size, fun j hj => ?_, fun j h1 h2 => ?_, fun j h1 h2 => ?_⟩
  · rw [Array.getElem?_setIfInBounds, if_neg (by omega)]; exact h.loc j hj
  · rw [Array.getElem?_setIfInBounds, if_neg (by omega)]; exact h.low j (by omega) h2
  · by_cases e : j = i
    · subst e
      exact ⟨T, p, by rw [Array.getElem?_setIfInBounds, if_pos rfl, if_pos (by rw [h.size]; omega)], hp, hok⟩
    · obtain ⟨T', p', hc, hp', hok'⟩ := h.high j (by omega) h2
      exact ⟨T', p', by rw [Array.getElem?_setIfInBounds, if_neg (by omega)]; exact hc, hp', hok'.same hs hp'⟩
theorem made_at (n i : Nat) (hi : i < n) : (madeCells #[.nilIface, .int .i32 0] (n * 2))[i * 2]? = some .nilIface ∧ (madeCells #[.nilIface, .int .i32 0] (n * 2))[i * 2 + 1]? = some (.int .i32 0) := by
  have h1 : i * 2 < n * 2 := by omega
  have h2 : i * 2 + 1 < n * 2 := by omega
  have m1 : i * 2 % 2 = 0 := by omega
  have m2 : (i * 2 + 1) % 2 = 1 := by omega
  constructor
  · simp [madeCells, h1]
  · simp [madeCells, h2, m2]
theorem er_start (n : Nat) (w : World) : Er n n w.heap.size (madeCells #[.nilIface, .int .i32 0] (n * 2)) w (w.alloc (.cells (madeCells #[.nilIface, .int .i32 0] (n * 2)) 30)) :=
  ⟨(Below.refl _ _).alloc (Nat.le_refl _) _, Blk.new _ _ _, size_madeCells _ _, fun j hj => (made_at n j hj).2, fun j _ hj => (made_at n j hj).1, fun j h1 h2 => by omega⟩
theorem cellAll {a w : World} (h : Below a.heap.size a w) : ∀ b o, b < a.heap.size → w.cell? ⟨b, o, none⟩ = a.cell? ⟨b, o, none⟩ := fun b o hb => h.cell (p := ⟨b, o, none⟩) hb
theorem frozenAll {a w : World} (h : Below a.heap.size a w) : ∀ b o, b < a.heap.size → w.frozen? ⟨b, o, none⟩ = a.frozen? ⟨b, o, none⟩ := fun b o hb => h.frozen (p := ⟨b, o, none⟩) hb
theorem bal {a w : World} (h : Below a.heap.size a w) (o : Obj) : Below a.heap.size a (w.alloc o) := h.alloc h.size _
theorem bset {a w : World} (h : Below a.heap.size a w) {q o : Nat} (hq : a.heap.size ≤ q) (u : Value) : Below a.heap.size a (w.setCell ⟨q, o, none⟩ u) := h.setCell hq u
theorem blkDrew {w : World} {q : Nat} {C : Array Value} {t : TypeId} (h : Blk w q C t) : Blk w.drew q C t := h
theorem same_b {X : Nat → Prop} {a w w' : World} (h : Same X a w) (hb : Below w.heap.size w w') : Same X a w' := h.trans (Same.of_below hb)
theorem same_set {R o : Nat} {a w : World} (h : Same (fun k => k = R) a w) (u : Value) : Same (fun k => k = R) a (w.setCell ⟨R, o, none⟩ u) := Same.setCell (X := fun k => k = R) (p := ⟨R, o, none⟩) h rfl u

def Built14 (n : Nat) (w : World) (e : Ending) (w' : World) : Prop := e = .returned (.slice (some ⟨w.heap.size, 0, none⟩) n n) ∧ ∃ C, Er n 0 w.heap.size C w w'
set_option maxHeartbeats 60000000 in
theorem build14 (a : Option Addr) (n c : Nat) (w : World) (h : NRow w a n c) (hn : n ≤ 4096) : Calls Try.prog 14 #[.slice a n c] w (Built14 n w) := by
  have H := Lib.hid h
  have hmk := make30 n (by omega)
  have E0 := Lib.hid (er_start n w)
  clear h
  go_enter Try.func14, Try.ntmps14
  go_wp2_with fail
  go_loopw [5] (fun i wr => ∃ q : Nat, q ≤ n ∧ i = .int .i64 ((q : Int) - 1) ∧ ∃ C, Er n q w.heap.size C w wr) (fun i _ => (intOf i + 1).toNat)
  case atStart => exact ⟨n, Nat.le_refl _, by go_num, _, E0.out⟩
  case round =>
    obtain ⟨q, hq, rfl, C, hE⟩ := hrel
    clear hmk E0
    rcases q with _ | i
    · rw [show (((0 : Nat) : Int) - 1) = -1 from rfl]
      have HE := Lib.hid hE
      clear hE
      go_wp2_with fail
      go_ret
      exact ⟨rfl, C, HE.out⟩
    · rw [show (((i + 1 : Nat) : Int) - 1) = (i : Int) by omega]
      have hlt : i < n := by omega
      obtain ⟨b, off, eb, hb, hN⟩ := (H.out.below hE.bel).at hlt
      subst eb
      obtain ⟨kk, op, ch, x, y, z, f, h1, h2, h3, h4, h5, h6, c0, c1, c2, c3, c4, c5, c6⟩ := hN
      have HE := Lib.hid hE
      clear hE
      go_upto_region 7 with fail
      have n0 : (wr.alloc (.cells #[.int .u8 kk, .int .u8 op, .bool f, .int .u8 ch, .int .i32 x, .int .i32 y, .int .i32 z] 68)).cell? ⟨wr.heap.size, 0, none⟩ = some (.int .u8 kk) := by simp [go_sem]
      have n1 : (wr.alloc (.cells #[.int .u8 kk, .int .u8 op, .bool f, .int .u8 ch, .int .i32 x, .int .i32 y, .int .i32 z] 68)).cell? ⟨wr.heap.size, 1, none⟩ = some (.int .u8 op) := by simp [go_sem]
      have n2 : (wr.alloc (.cells #[.int .u8 kk, .int .u8 op, .bool f, .int .u8 ch, .int .i32 x, .int .i32 y, .int .i32 z] 68)).cell? ⟨wr.heap.size, 2, none⟩ = some (.bool f) := by simp [go_sem]
      have n3 : (wr.alloc (.cells #[.int .u8 kk, .int .u8 op, .bool f, .int .u8 ch, .int .i32 x, .int .i32 y, .int .i32 z] 68)).cell? ⟨wr.heap.size, 3, none⟩ = some (.int .u8 ch) := by simp [go_sem]
      have n4 : (wr.alloc (.cells #[.int .u8 kk, .int .u8 op, .bool f, .int .u8 ch, .int .i32 x, .int .i32 y, .int .i32 z] 68)).cell? ⟨wr.heap.size, 4, none⟩ = some (.int .i32 x) := by simp [go_sem]
      have n5 : (wr.alloc (.cells #[.int .u8 kk, .int .u8 op, .bool f, .int .u8 ch, .int .i32 x, .int .i32 y, .int .i32 z] 68)).cell? ⟨wr.heap.size, 5, none⟩ = some (.int .i32 y) := by simp [go_sem]
      have n6 : (wr.alloc (.cells #[.int .u8 kk, .int .u8 op, .bool f, .int .u8 ch, .int .i32 x, .int .i32 y, .int .i32 z] 68)).cell? ⟨wr.heap.size, 6, none⟩ = some (.int .i32 z) := by simp [go_sem]
      have hE2 := HE.out.below (bal (Below.refl wr.heap.size wr) (.cells #[.int .u8 kk, .int .u8 op, .bool f, .int .u8 ch, .int .i32 x, .int .i32 y, .int .i32 z] 68))
      have hNR : w.heap.size ≠ wr.heap.size := by have := HE.out.blk.lt; omega
      clear c0 c1 c2 c3 c4 c5 c6 hb HE
      generalize wr.alloc (.cells #[.int .u8 kk, .int .u8 op, .bool f, .int .u8 ch, .int .i32 x, .int .i32 y, .int .i32 z] 68) = wn at *
      obtain ⟨N, hN⟩ : ∃ N, N = wr.heap.size := ⟨_, rfl⟩
      rw [← hN] at n0 n1 n2 n3 n4 n5 n6 hNR ⊢
      clear hN
      have E := Lib.hid hE2
      have HBW := Lib.hid hE2.bel
      have hlr := hE2.blk.lt
      have BK : Hid (∀ w', Below wn.heap.size wn w' → Blk w' w.heap.size C 30) := fun w' hb => hE2.blk.below hb
      have r0 : wn.cell? ⟨w.heap.size, i * 2, none⟩ = some .nilIface := (hE2.blk.cell _).trans (hE2.low i (by omega) hlt)
      have r1 := hE2.blk.free (i * 2)
      have LO := Lib.hid (hE2.low i (by omega) hlt)
      have hNl := cell_lt n0
      have j2 : (0 : Int) ≤ (i : Int) := by omega
      have j3 : (i : Int) < (n : Int) := by omega
      have hrow := hE2.erow
      obtain ⟨D1, hD1⟩ := child28 wn w.heap.size n i x hn hlt h4.1 h4.2 hrow
      obtain ⟨D2, hD2⟩ := child28 wn w.heap.size n i y hn hlt h5.1 h5.2 hrow
      obtain ⟨D3, hD3⟩ := child28 wn w.heap.size n i z hn hlt h6.1 h6.2 hrow
      have K1 := Lib.hid hD1
      have K2 := Lib.hid hD2
      have K3 := Lib.hid hD3
      have HK := Lib.hid h1
      have bs : Hid True := trivial
      clear hE2 hrow hD1 hD2 hD3 h1 h2 h3 h4 h5 h6
      have hk : kk = 0 ∨ kk = 1 ∨ kk = 2 ∨ kk = 3 ∨ kk = 4 ∨ kk = 5 ∨ kk = 6 ∨ kk = 7 ∨ kk = 8 ∨ kk = 9 ∨ kk = 10 ∨ kk = 11 ∨ kk = 13 ∨ kk = 14 ∨ kk = 15 ∨ kk = 16 ∨ kk = 17 ∨ (kk ≠ 0 ∧ kk ≠ 1 ∧ kk ≠ 2 ∧ kk ≠ 3 ∧ kk ≠ 4 ∧ kk ≠ 5 ∧ kk ≠ 6 ∧ kk ≠ 7 ∧ kk ≠ 8 ∧ kk ≠ 9 ∧ kk ≠ 10 ∧ kk ≠ 11 ∧ kk ≠ 13 ∧ kk ≠ 14 ∧ kk ≠ 15 ∧ kk ≠ 16 ∧ kk ≠ 17) := by omega
      rcases hk with rfl | rfl | rfl | rfl | rfl | rfl | rfl | rfl | rfl | rfl | rfl | rfl | rfl | rfl | rfl | rfl | rfl | hk
      · as_aux_lemma =>
          go_wp2_with fail
          go_roundw
          case rel =>
            refine ⟨i, by omega, by go_num, ?_⟩
            apply Exists.intro
            apply Er.fin (T := 48) E.out hlt
            · go_light
              (repeat (first | with_reducible refine blkDrew ?_ | with_reducible refine Blk.alloc ?_ _)); refine Blk.set (BK.out _ ?_) _ _; (repeat (first | with_reducible exact Below.refl _ _ | with_reducible exact HBW.out | with_reducible refine Below.drew ?_ | with_reducible refine bal ?_ _ | with_reducible refine bset ?_ (by exact Nat.le_refl _) _ | with_reducible refine below2 ?_ B1.out | with_reducible refine below2 ?_ B2.out | with_reducible refine below2 ?_ B3.out))
            · (repeat (first | with_reducible exact Same.refl _ _ | with_reducible refine Same.drew ?_ | with_reducible refine Same.alloc ?_ _ | with_reducible refine same_set ?_ _ | with_reducible refine same_b ?_ B1.out | with_reducible refine same_b ?_ B2.out | with_reducible refine same_b ?_ B3.out))
            · (repeat (first | with_reducible exact Below.refl _ _ | with_reducible exact HBW.out | with_reducible refine Below.drew ?_ | with_reducible refine bal ?_ _ | with_reducible refine bset ?_ (by exact Nat.le_refl _) _ | with_reducible refine below2 ?_ B1.out | with_reducible refine below2 ?_ B2.out | with_reducible refine below2 ?_ B3.out))
            · first | omega | (simp [size_set] <;> omega)
            · exact .inl ⟨by decide, by decide⟩
          case measure => simp [intOf]; try omega
      · as_aux_lemma =>
          go_wp2_with fail
          go_roundw
          case rel =>
            refine ⟨i, by omega, by go_num, ?_⟩
            apply Exists.intro
            apply Er.fin (T := 71) E.out hlt
            · go_light
              (repeat (first | with_reducible refine blkDrew ?_ | with_reducible refine Blk.alloc ?_ _)); refine Blk.set (BK.out _ ?_) _ _; (repeat (first | with_reducible exact Below.refl _ _ | with_reducible exact HBW.out | with_reducible refine Below.drew ?_ | with_reducible refine bal ?_ _ | with_reducible refine bset ?_ (by exact Nat.le_refl _) _ | with_reducible refine below2 ?_ B1.out | with_reducible refine below2 ?_ B2.out | with_reducible refine below2 ?_ B3.out))
            · (repeat (first | with_reducible exact Same.refl _ _ | with_reducible refine Same.drew ?_ | with_reducible refine Same.alloc ?_ _ | with_reducible refine same_set ?_ _ | with_reducible refine same_b ?_ B1.out | with_reducible refine same_b ?_ B2.out | with_reducible refine same_b ?_ B3.out))
            · (repeat (first | with_reducible exact Below.refl _ _ | with_reducible exact HBW.out | with_reducible refine Below.drew ?_ | with_reducible refine bal ?_ _ | with_reducible refine bset ?_ (by exact Nat.le_refl _) _ | with_reducible refine below2 ?_ B1.out | with_reducible refine below2 ?_ B2.out | with_reducible refine below2 ?_ B3.out))
            · first | omega | (simp [size_set] <;> omega)
            · exact .inl ⟨by decide, by decide⟩
          case measure => simp [intOf]; try omega
      · as_aux_lemma =>
          go_wp2_with fail
          go_roundw
          case rel =>
            refine ⟨i, by omega, by go_num, ?_⟩
            apply Exists.intro
            apply Er.fin (T := 75) E.out hlt
            · go_light
              (repeat (first | with_reducible refine blkDrew ?_ | with_reducible refine Blk.alloc ?_ _)); refine Blk.set (BK.out _ ?_) _ _; (repeat (first | with_reducible exact Below.refl _ _ | with_reducible exact HBW.out | with_reducible refine Below.drew ?_ | with_reducible refine bal ?_ _ | with_reducible refine bset ?_ (by exact Nat.le_refl _) _ | with_reducible refine below2 ?_ B1.out | with_reducible refine below2 ?_ B2.out | with_reducible refine below2 ?_ B3.out))
            · (repeat (first | with_reducible exact Same.refl _ _ | with_reducible refine Same.drew ?_ | with_reducible refine Same.alloc ?_ _ | with_reducible refine same_set ?_ _ | with_reducible refine same_b ?_ B1.out | with_reducible refine same_b ?_ B2.out | with_reducible refine same_b ?_ B3.out))
            · (repeat (first | with_reducible exact Below.refl _ _ | with_reducible exact HBW.out | with_reducible refine Below.drew ?_ | with_reducible refine bal ?_ _ | with_reducible refine bset ?_ (by exact Nat.le_refl _) _ | with_reducible refine below2 ?_ B1.out | with_reducible refine below2 ?_ B2.out | with_reducible refine below2 ?_ B3.out))
            · first | omega | (simp [size_set] <;> omega)
            · exact .inl ⟨by decide, by decide⟩
          case measure => simp [intOf]; try omega
      · as_aux_lemma =>
          go_wp2_with fail
          go_roundw
          case rel =>
            refine ⟨i, by omega, by go_num, ?_⟩
            apply Exists.intro
            apply Er.fin (T := 78) E.out hlt
            · go_light
              (repeat (first | with_reducible refine blkDrew ?_ | with_reducible refine Blk.alloc ?_ _)); refine Blk.set (BK.out _ ?_) _ _; (repeat (first | with_reducible exact Below.refl _ _ | with_reducible exact HBW.out | with_reducible refine Below.drew ?_ | with_reducible refine bal ?_ _ | with_reducible refine bset ?_ (by exact Nat.le_refl _) _ | with_reducible refine below2 ?_ B1.out | with_reducible refine below2 ?_ B2.out | with_reducible refine below2 ?_ B3.out))
            · (repeat (first | with_reducible exact Same.refl _ _ | with_reducible refine Same.drew ?_ | with_reducible refine Same.alloc ?_ _ | with_reducible refine same_set ?_ _ | with_reducible refine same_b ?_ B1.out | with_reducible refine same_b ?_ B2.out | with_reducible refine same_b ?_ B3.out))
            · (repeat (first | with_reducible exact Below.refl _ _ | with_reducible exact HBW.out | with_reducible refine Below.drew ?_ | with_reducible refine bal ?_ _ | with_reducible refine bset ?_ (by exact Nat.le_refl _) _ | with_reducible refine below2 ?_ B1.out | with_reducible refine below2 ?_ B2.out | with_reducible refine below2 ?_ B3.out))
            · first | omega | (simp [size_set] <;> omega)
            · exact .inl ⟨by decide, by decide⟩
          case measure => simp [intOf]; try omega
      · as_aux_lemma =>
          go_wp2_with fail
          go_roundw
          case rel =>
            refine ⟨i, by omega, by go_num, ?_⟩
            apply Exists.intro
            apply Er.fin (T := 80) E.out hlt
            · go_light
              (repeat (first | with_reducible refine blkDrew ?_ | with_reducible refine Blk.alloc ?_ _)); refine Blk.set (BK.out _ ?_) _ _; (repeat (first | with_reducible exact Below.refl _ _ | with_reducible exact HBW.out | with_reducible refine Below.drew ?_ | with_reducible refine bal ?_ _ | with_reducible refine bset ?_ (by exact Nat.le_refl _) _ | with_reducible refine below2 ?_ B1.out | with_reducible refine below2 ?_ B2.out | with_reducible refine below2 ?_ B3.out))
            · (repeat (first | with_reducible exact Same.refl _ _ | with_reducible refine Same.drew ?_ | with_reducible refine Same.alloc ?_ _ | with_reducible refine same_set ?_ _ | with_reducible refine same_b ?_ B1.out | with_reducible refine same_b ?_ B2.out | with_reducible refine same_b ?_ B3.out))
            · (repeat (first | with_reducible exact Below.refl _ _ | with_reducible exact HBW.out | with_reducible refine Below.drew ?_ | with_reducible refine bal ?_ _ | with_reducible refine bset ?_ (by exact Nat.le_refl _) _ | with_reducible refine below2 ?_ B1.out | with_reducible refine below2 ?_ B2.out | with_reducible refine below2 ?_ B3.out))
            · first | omega | (simp [size_set] <;> omega)
            · exact .inl ⟨by decide, by decide⟩
          case measure => simp [intOf]; try omega
      · as_aux_lemma =>
          cases f
          all_goals
            go_wp2_with fail
            go_roundw
            case rel =>
              refine ⟨i, by omega, by go_num, ?_⟩
              apply Exists.intro
              apply Er.fin (T := 82) E.out hlt
              · go_light
                (repeat (first | with_reducible refine blkDrew ?_ | with_reducible refine Blk.alloc ?_ _)); refine Blk.set (BK.out _ ?_) _ _; (repeat (first | with_reducible exact Below.refl _ _ | with_reducible exact HBW.out | with_reducible refine Below.drew ?_ | with_reducible refine bal ?_ _ | with_reducible refine bset ?_ (by exact Nat.le_refl _) _ | with_reducible refine below2 ?_ B1.out | with_reducible refine below2 ?_ B2.out | with_reducible refine below2 ?_ B3.out))
              · (repeat (first | with_reducible exact Same.refl _ _ | with_reducible refine Same.drew ?_ | with_reducible refine Same.alloc ?_ _ | with_reducible refine same_set ?_ _ | with_reducible refine same_b ?_ B1.out | with_reducible refine same_b ?_ B2.out | with_reducible refine same_b ?_ B3.out))
              · (repeat (first | with_reducible exact Below.refl _ _ | with_reducible exact HBW.out | with_reducible refine Below.drew ?_ | with_reducible refine bal ?_ _ | with_reducible refine bset ?_ (by exact Nat.le_refl _) _ | with_reducible refine below2 ?_ B1.out | with_reducible refine below2 ?_ B2.out | with_reducible refine below2 ?_ B3.out))
              · first | omega | (simp [size_set] <;> omega)
              · exact .inl ⟨by decide, by decide⟩
            case measure => simp [intOf]; try omega
      · as_aux_lemma =>
          have HC : Hid (∀ w', Same (fun k => k = w.heap.size) wn w' → w'.cell? ⟨N, 1, none⟩ = some (.int .u8 op) ∧ w'.cell? ⟨N, 2, none⟩ = some (.bool f) ∧ w'.cell? ⟨N, 3, none⟩ = some (.int .u8 ch) ∧ w'.cell? ⟨N, 4, none⟩ = some (.int .i32 x) ∧ w'.cell? ⟨N, 5, none⟩ = some (.int .i32 y) ∧ w'.cell? ⟨N, 6, none⟩ = some (.int .i32 z)) := fun w' hs => ⟨hs.cell (Ne.symm hNR) n1, hs.cell (Ne.symm hNR) n2, hs.cell (Ne.symm hNR) n3, hs.cell (Ne.symm hNR) n4, hs.cell (Ne.symm hNR) n5, hs.cell (Ne.symm hNR) n6⟩
          go_wp2_with fail
          go_region_held3 (fun w' => w'.cell? ⟨N, 1, none⟩ = some (.int .u8 op) ∧ w'.cell? ⟨N, 2, none⟩ = some (.bool f) ∧ w'.cell? ⟨N, 3, none⟩ = some (.int .u8 ch) ∧ w'.cell? ⟨N, 4, none⟩ = some (.int .i32 x) ∧ w'.cell? ⟨N, 5, none⟩ = some (.int .i32 y) ∧ w'.cell? ⟨N, 6, none⟩ = some (.int .i32 z)) ((refine HC.out _ ?_; (repeat (first | with_reducible exact Same.refl _ _ | with_reducible refine Same.drew ?_ | with_reducible refine Same.alloc ?_ _ | with_reducible refine same_set ?_ _ | with_reducible refine same_b ?_ B1.out | with_reducible refine same_b ?_ B2.out | with_reducible refine same_b ?_ B3.out)); done))
            (first | (go_at_call 28; (with_reducible refine (K1.out _ ?_).mono ?_); (repeat (first | with_reducible exact Below.refl _ _ | with_reducible exact HBW.out | with_reducible refine Below.drew ?_ | with_reducible refine bal ?_ _ | with_reducible refine bset ?_ (by exact Nat.le_refl _) _ | with_reducible refine below2 ?_ B1.out | with_reducible refine below2 ?_ B2.out | with_reducible refine below2 ?_ B3.out)); rintro e w1 ⟨rfl, b1⟩; have B1 := Lib.hid b1; have Q1 := BK.out w1 (by (repeat (first | with_reducible exact Below.refl _ _ | with_reducible exact HBW.out | with_reducible refine Below.drew ?_ | with_reducible refine bal ?_ _ | with_reducible refine bset ?_ (by exact Nat.le_refl _) _ | with_reducible refine below2 ?_ B1.out | with_reducible refine below2 ?_ B2.out | with_reducible refine below2 ?_ B3.out))); have qc1 : w1.cell? ⟨w.heap.size, i * 2, none⟩ = some .nilIface := (Q1.cell _).trans LO.out; have qf1 : w1.frozen? ⟨w.heap.size, i * 2, none⟩ = false := Q1.free _; have ql1 := Q1.lt; clear b1 Q1))
          all_goals
            go_wp2_with fail
            go_roundw
            case rel =>
              refine ⟨i, by omega, by go_num, ?_⟩
              apply Exists.intro
              apply Er.fin (T := 58) E.out hlt
              · go_light
                (repeat (first | with_reducible refine blkDrew ?_ | with_reducible refine Blk.alloc ?_ _)); refine Blk.set (BK.out _ ?_) _ _; (repeat (first | with_reducible exact Below.refl _ _ | with_reducible exact HBW.out | with_reducible refine Below.drew ?_ | with_reducible refine bal ?_ _ | with_reducible refine bset ?_ (by exact Nat.le_refl _) _ | with_reducible refine below2 ?_ B1.out | with_reducible refine below2 ?_ B2.out | with_reducible refine below2 ?_ B3.out))
              · (repeat (first | with_reducible exact Same.refl _ _ | with_reducible refine Same.drew ?_ | with_reducible refine Same.alloc ?_ _ | with_reducible refine same_set ?_ _ | with_reducible refine same_b ?_ B1.out | with_reducible refine same_b ?_ B2.out | with_reducible refine same_b ?_ B3.out))
              · (repeat (first | with_reducible exact Below.refl _ _ | with_reducible exact HBW.out | with_reducible refine Below.drew ?_ | with_reducible refine bal ?_ _ | with_reducible refine bset ?_ (by exact Nat.le_refl _) _ | with_reducible refine below2 ?_ B1.out | with_reducible refine below2 ?_ B2.out | with_reducible refine below2 ?_ B3.out))
              · first | omega | (simp [size_set] <;> omega)
              · exact .inl ⟨by decide, by decide⟩
            case measure => simp [intOf]; try omega
      · as_aux_lemma =>
          have HC : Hid (∀ w', Same (fun k => k = w.heap.size) wn w' → w'.cell? ⟨N, 1, none⟩ = some (.int .u8 op) ∧ w'.cell? ⟨N, 2, none⟩ = some (.bool f) ∧ w'.cell? ⟨N, 3, none⟩ = some (.int .u8 ch) ∧ w'.cell? ⟨N, 4, none⟩ = some (.int .i32 x) ∧ w'.cell? ⟨N, 5, none⟩ = some (.int .i32 y) ∧ w'.cell? ⟨N, 6, none⟩ = some (.int .i32 z)) := fun w' hs => ⟨hs.cell (Ne.symm hNR) n1, hs.cell (Ne.symm hNR) n2, hs.cell (Ne.symm hNR) n3, hs.cell (Ne.symm hNR) n4, hs.cell (Ne.symm hNR) n5, hs.cell (Ne.symm hNR) n6⟩
          go_wp2_with fail
          go_region_held3 (fun w' => w'.cell? ⟨N, 1, none⟩ = some (.int .u8 op) ∧ w'.cell? ⟨N, 2, none⟩ = some (.bool f) ∧ w'.cell? ⟨N, 3, none⟩ = some (.int .u8 ch) ∧ w'.cell? ⟨N, 4, none⟩ = some (.int .i32 x) ∧ w'.cell? ⟨N, 5, none⟩ = some (.int .i32 y) ∧ w'.cell? ⟨N, 6, none⟩ = some (.int .i32 z)) ((refine HC.out _ ?_; (repeat (first | with_reducible exact Same.refl _ _ | with_reducible refine Same.drew ?_ | with_reducible refine Same.alloc ?_ _ | with_reducible refine same_set ?_ _ | with_reducible refine same_b ?_ B1.out | with_reducible refine same_b ?_ B2.out | with_reducible refine same_b ?_ B3.out)); done))
            (first | (go_at_call 28; (with_reducible refine (K1.out _ ?_).mono ?_); (repeat (first | with_reducible exact Below.refl _ _ | with_reducible exact HBW.out | with_reducible refine Below.drew ?_ | with_reducible refine bal ?_ _ | with_reducible refine bset ?_ (by exact Nat.le_refl _) _ | with_reducible refine below2 ?_ B1.out | with_reducible refine below2 ?_ B2.out | with_reducible refine below2 ?_ B3.out)); rintro e w1 ⟨rfl, b1⟩; have B1 := Lib.hid b1; have Q1 := BK.out w1 (by (repeat (first | with_reducible exact Below.refl _ _ | with_reducible exact HBW.out | with_reducible refine Below.drew ?_ | with_reducible refine bal ?_ _ | with_reducible refine bset ?_ (by exact Nat.le_refl _) _ | with_reducible refine below2 ?_ B1.out | with_reducible refine below2 ?_ B2.out | with_reducible refine below2 ?_ B3.out))); have qc1 : w1.cell? ⟨w.heap.size, i * 2, none⟩ = some .nilIface := (Q1.cell _).trans LO.out; have qf1 : w1.frozen? ⟨w.heap.size, i * 2, none⟩ = false := Q1.free _; have ql1 := Q1.lt; clear b1 Q1) | (go_at_call 28; (with_reducible refine (K2.out _ ?_).mono ?_); (repeat (first | with_reducible exact Below.refl _ _ | with_reducible exact HBW.out | with_reducible refine Below.drew ?_ | with_reducible refine bal ?_ _ | with_reducible refine bset ?_ (by exact Nat.le_refl _) _ | with_reducible refine below2 ?_ B1.out | with_reducible refine below2 ?_ B2.out | with_reducible refine below2 ?_ B3.out)); rintro e w2 ⟨rfl, b2⟩; have B2 := Lib.hid b2; have Q2 := BK.out w2 (by (repeat (first | with_reducible exact Below.refl _ _ | with_reducible exact HBW.out | with_reducible refine Below.drew ?_ | with_reducible refine bal ?_ _ | with_reducible refine bset ?_ (by exact Nat.le_refl _) _ | with_reducible refine below2 ?_ B1.out | with_reducible refine below2 ?_ B2.out | with_reducible refine below2 ?_ B3.out))); have qc2 : w2.cell? ⟨w.heap.size, i * 2, none⟩ = some .nilIface := (Q2.cell _).trans LO.out; have qf2 : w2.frozen? ⟨w.heap.size, i * 2, none⟩ = false := Q2.free _; have ql2 := Q2.lt; clear b2 Q2))
          all_goals
            go_wp2_with fail
            go_roundw
            case rel =>
              refine ⟨i, by omega, by go_num, ?_⟩
              apply Exists.intro
              apply Er.fin (T := 62) E.out hlt
              · go_light
                (repeat (first | with_reducible refine blkDrew ?_ | with_reducible refine Blk.alloc ?_ _)); refine Blk.set (BK.out _ ?_) _ _; (repeat (first | with_reducible exact Below.refl _ _ | with_reducible exact HBW.out | with_reducible refine Below.drew ?_ | with_reducible refine bal ?_ _ | with_reducible refine bset ?_ (by exact Nat.le_refl _) _ | with_reducible refine below2 ?_ B1.out | with_reducible refine below2 ?_ B2.out | with_reducible refine below2 ?_ B3.out))
              · (repeat (first | with_reducible exact Same.refl _ _ | with_reducible refine Same.drew ?_ | with_reducible refine Same.alloc ?_ _ | with_reducible refine same_set ?_ _ | with_reducible refine same_b ?_ B1.out | with_reducible refine same_b ?_ B2.out | with_reducible refine same_b ?_ B3.out))
              · (repeat (first | with_reducible exact Below.refl _ _ | with_reducible exact HBW.out | with_reducible refine Below.drew ?_ | with_reducible refine bal ?_ _ | with_reducible refine bset ?_ (by exact Nat.le_refl _) _ | with_reducible refine below2 ?_ B1.out | with_reducible refine below2 ?_ B2.out | with_reducible refine below2 ?_ B3.out))
              · first | omega | (simp [size_set] <;> omega)
              · exact .inl ⟨by decide, by decide⟩
            case measure => simp [intOf]; try omega
      · as_aux_lemma =>
          have HC : Hid (∀ w', Same (fun k => k = w.heap.size) wn w' → w'.cell? ⟨N, 1, none⟩ = some (.int .u8 op) ∧ w'.cell? ⟨N, 2, none⟩ = some (.bool f) ∧ w'.cell? ⟨N, 3, none⟩ = some (.int .u8 ch) ∧ w'.cell? ⟨N, 4, none⟩ = some (.int .i32 x) ∧ w'.cell? ⟨N, 5, none⟩ = some (.int .i32 y) ∧ w'.cell? ⟨N, 6, none⟩ = some (.int .i32 z)) := fun w' hs => ⟨hs.cell (Ne.symm hNR) n1, hs.cell (Ne.symm hNR) n2, hs.cell (Ne.symm hNR) n3, hs.cell (Ne.symm hNR) n4, hs.cell (Ne.symm hNR) n5, hs.cell (Ne.symm hNR) n6⟩
          go_wp2_with fail
          go_region_held3 (fun w' => w'.cell? ⟨N, 1, none⟩ = some (.int .u8 op) ∧ w'.cell? ⟨N, 2, none⟩ = some (.bool f) ∧ w'.cell? ⟨N, 3, none⟩ = some (.int .u8 ch) ∧ w'.cell? ⟨N, 4, none⟩ = some (.int .i32 x) ∧ w'.cell? ⟨N, 5, none⟩ = some (.int .i32 y) ∧ w'.cell? ⟨N, 6, none⟩ = some (.int .i32 z)) ((refine HC.out _ ?_; (repeat (first | with_reducible exact Same.refl _ _ | with_reducible refine Same.drew ?_ | with_reducible refine Same.alloc ?_ _ | with_reducible refine same_set ?_ _ | with_reducible refine same_b ?_ B1.out | with_reducible refine same_b ?_ B2.out | with_reducible refine same_b ?_ B3.out)); done))
            (first | (go_at_call 28; (with_reducible refine (K1.out _ ?_).mono ?_); (repeat (first | with_reducible exact Below.refl _ _ | with_reducible exact HBW.out | with_reducible refine Below.drew ?_ | with_reducible refine bal ?_ _ | with_reducible refine bset ?_ (by exact Nat.le_refl _) _ | with_reducible refine below2 ?_ B1.out | with_reducible refine below2 ?_ B2.out | with_reducible refine below2 ?_ B3.out)); rintro e w1 ⟨rfl, b1⟩; have B1 := Lib.hid b1; have Q1 := BK.out w1 (by (repeat (first | with_reducible exact Below.refl _ _ | with_reducible exact HBW.out | with_reducible refine Below.drew ?_ | with_reducible refine bal ?_ _ | with_reducible refine bset ?_ (by exact Nat.le_refl _) _ | with_reducible refine below2 ?_ B1.out | with_reducible refine below2 ?_ B2.out | with_reducible refine below2 ?_ B3.out))); have qc1 : w1.cell? ⟨w.heap.size, i * 2, none⟩ = some .nilIface := (Q1.cell _).trans LO.out; have qf1 : w1.frozen? ⟨w.heap.size, i * 2, none⟩ = false := Q1.free _; have ql1 := Q1.lt; clear b1 Q1) | (go_at_call 28; (with_reducible refine (K2.out _ ?_).mono ?_); (repeat (first | with_reducible exact Below.refl _ _ | with_reducible exact HBW.out | with_reducible refine Below.drew ?_ | with_reducible refine bal ?_ _ | with_reducible refine bset ?_ (by exact Nat.le_refl _) _ | with_reducible refine below2 ?_ B1.out | with_reducible refine below2 ?_ B2.out | with_reducible refine below2 ?_ B3.out)); rintro e w2 ⟨rfl, b2⟩; have B2 := Lib.hid b2; have Q2 := BK.out w2 (by (repeat (first | with_reducible exact Below.refl _ _ | with_reducible exact HBW.out | with_reducible refine Below.drew ?_ | with_reducible refine bal ?_ _ | with_reducible refine bset ?_ (by exact Nat.le_refl _) _ | with_reducible refine below2 ?_ B1.out | with_reducible refine below2 ?_ B2.out | with_reducible refine below2 ?_ B3.out))); have qc2 : w2.cell? ⟨w.heap.size, i * 2, none⟩ = some .nilIface := (Q2.cell _).trans LO.out; have qf2 : w2.frozen? ⟨w.heap.size, i * 2, none⟩ = false := Q2.free _; have ql2 := Q2.lt; clear b2 Q2) | (go_at_call 28; (with_reducible refine (K3.out _ ?_).mono ?_); (repeat (first | with_reducible exact Below.refl _ _ | with_reducible exact HBW.out | with_reducible refine Below.drew ?_ | with_reducible refine bal ?_ _ | with_reducible refine bset ?_ (by exact Nat.le_refl _) _ | with_reducible refine below2 ?_ B1.out | with_reducible refine below2 ?_ B2.out | with_reducible refine below2 ?_ B3.out)); rintro e w3 ⟨rfl, b3⟩; have B3 := Lib.hid b3; have Q3 := BK.out w3 (by (repeat (first | with_reducible exact Below.refl _ _ | with_reducible exact HBW.out | with_reducible refine Below.drew ?_ | with_reducible refine bal ?_ _ | with_reducible refine bset ?_ (by exact Nat.le_refl _) _ | with_reducible refine below2 ?_ B1.out | with_reducible refine below2 ?_ B2.out | with_reducible refine below2 ?_ B3.out))); have qc3 : w3.cell? ⟨w.heap.size, i * 2, none⟩ = some .nilIface := (Q3.cell _).trans LO.out; have qf3 : w3.frozen? ⟨w.heap.size, i * 2, none⟩ = false := Q3.free _; have ql3 := Q3.lt; clear b3 Q3))
          all_goals
            go_wp2_with fail
            go_roundw
            case rel =>
              refine ⟨i, by omega, by go_num, ?_⟩
              apply Exists.intro
              apply Er.fin (T := 55) E.out hlt
              · go_light
                (repeat (first | with_reducible refine blkDrew ?_ | with_reducible refine Blk.alloc ?_ _)); refine Blk.set (BK.out _ ?_) _ _; (repeat (first | with_reducible exact Below.refl _ _ | with_reducible exact HBW.out | with_reducible refine Below.drew ?_ | with_reducible refine bal ?_ _ | with_reducible refine bset ?_ (by exact Nat.le_refl _) _ | with_reducible refine below2 ?_ B1.out | with_reducible refine below2 ?_ B2.out | with_reducible refine below2 ?_ B3.out))
              · (repeat (first | with_reducible exact Same.refl _ _ | with_reducible refine Same.drew ?_ | with_reducible refine Same.alloc ?_ _ | with_reducible refine same_set ?_ _ | with_reducible refine same_b ?_ B1.out | with_reducible refine same_b ?_ B2.out | with_reducible refine same_b ?_ B3.out))
              · (repeat (first | with_reducible exact Below.refl _ _ | with_reducible exact HBW.out | with_reducible refine Below.drew ?_ | with_reducible refine bal ?_ _ | with_reducible refine bset ?_ (by exact Nat.le_refl _) _ | with_reducible refine below2 ?_ B1.out | with_reducible refine below2 ?_ B2.out | with_reducible refine below2 ?_ B3.out))
              · first | omega | (simp [size_set] <;> omega)
              · exact .inl ⟨by decide, by decide⟩
            case measure => simp [intOf]; try omega
      · as_aux_lemma =>
          go_wp2_with (first | (go_at_call 28; (with_reducible refine (K1.out _ ?_).mono ?_); (repeat (first | with_reducible exact Below.refl _ _ | with_reducible exact HBW.out | with_reducible refine Below.drew ?_ | with_reducible refine bal ?_ _ | with_reducible refine bset ?_ (by exact Nat.le_refl _) _ | with_reducible refine below2 ?_ B1.out | with_reducible refine below2 ?_ B2.out | with_reducible refine below2 ?_ B3.out)); rintro e w1 ⟨rfl, b1⟩; have B1 := Lib.hid b1; have Q1 := BK.out w1 (by (repeat (first | with_reducible exact Below.refl _ _ | with_reducible exact HBW.out | with_reducible refine Below.drew ?_ | with_reducible refine bal ?_ _ | with_reducible refine bset ?_ (by exact Nat.le_refl _) _ | with_reducible refine below2 ?_ B1.out | with_reducible refine below2 ?_ B2.out | with_reducible refine below2 ?_ B3.out))); have qc1 : w1.cell? ⟨w.heap.size, i * 2, none⟩ = some .nilIface := (Q1.cell _).trans LO.out; have qf1 : w1.frozen? ⟨w.heap.size, i * 2, none⟩ = false := Q1.free _; have ql1 := Q1.lt; clear b1 Q1))
          go_wp2_with fail
          go_roundw
          case rel =>
            refine ⟨i, by omega, by go_num, ?_⟩
            apply Exists.intro
            apply Er.fin (T := 86) E.out hlt
            · go_light
              (repeat (first | with_reducible refine blkDrew ?_ | with_reducible refine Blk.alloc ?_ _)); refine Blk.set (BK.out _ ?_) _ _; (repeat (first | with_reducible exact Below.refl _ _ | with_reducible exact HBW.out | with_reducible refine Below.drew ?_ | with_reducible refine bal ?_ _ | with_reducible refine bset ?_ (by exact Nat.le_refl _) _ | with_reducible refine below2 ?_ B1.out | with_reducible refine below2 ?_ B2.out | with_reducible refine below2 ?_ B3.out))
            · (repeat (first | with_reducible exact Same.refl _ _ | with_reducible refine Same.drew ?_ | with_reducible refine Same.alloc ?_ _ | with_reducible refine same_set ?_ _ | with_reducible refine same_b ?_ B1.out | with_reducible refine same_b ?_ B2.out | with_reducible refine same_b ?_ B3.out))
            · (repeat (first | with_reducible exact Below.refl _ _ | with_reducible exact HBW.out | with_reducible refine Below.drew ?_ | with_reducible refine bal ?_ _ | with_reducible refine bset ?_ (by exact Nat.le_refl _) _ | with_reducible refine below2 ?_ B1.out | with_reducible refine below2 ?_ B2.out | with_reducible refine below2 ?_ B3.out))
            · first | omega | (simp [size_set] <;> omega)
            · exact .inl ⟨by decide, by decide⟩
          case measure => simp [intOf]; try omega
      · as_aux_lemma =>
          go_wp2_with (first | (go_at_call 28; (with_reducible refine (K1.out _ ?_).mono ?_); (repeat (first | with_reducible exact Below.refl _ _ | with_reducible exact HBW.out | with_reducible refine Below.drew ?_ | with_reducible refine bal ?_ _ | with_reducible refine bset ?_ (by exact Nat.le_refl _) _ | with_reducible refine below2 ?_ B1.out | with_reducible refine below2 ?_ B2.out | with_reducible refine below2 ?_ B3.out)); rintro e w1 ⟨rfl, b1⟩; have B1 := Lib.hid b1; have Q1 := BK.out w1 (by (repeat (first | with_reducible exact Below.refl _ _ | with_reducible exact HBW.out | with_reducible refine Below.drew ?_ | with_reducible refine bal ?_ _ | with_reducible refine bset ?_ (by exact Nat.le_refl _) _ | with_reducible refine below2 ?_ B1.out | with_reducible refine below2 ?_ B2.out | with_reducible refine below2 ?_ B3.out))); have qc1 : w1.cell? ⟨w.heap.size, i * 2, none⟩ = some .nilIface := (Q1.cell _).trans LO.out; have qf1 : w1.frozen? ⟨w.heap.size, i * 2, none⟩ = false := Q1.free _; have ql1 := Q1.lt; clear b1 Q1))
          go_wp2_with fail
          go_roundw
          case rel =>
            refine ⟨i, by omega, by go_num, ?_⟩
            apply Exists.intro
            apply Er.fin (T := 90) E.out hlt
            · go_light
              (repeat (first | with_reducible refine blkDrew ?_ | with_reducible refine Blk.alloc ?_ _)); refine Blk.set (BK.out _ ?_) _ _; (repeat (first | with_reducible exact Below.refl _ _ | with_reducible exact HBW.out | with_reducible refine Below.drew ?_ | with_reducible refine bal ?_ _ | with_reducible refine bset ?_ (by exact Nat.le_refl _) _ | with_reducible refine below2 ?_ B1.out | with_reducible refine below2 ?_ B2.out | with_reducible refine below2 ?_ B3.out))
            · (repeat (first | with_reducible exact Same.refl _ _ | with_reducible refine Same.drew ?_ | with_reducible refine Same.alloc ?_ _ | with_reducible refine same_set ?_ _ | with_reducible refine same_b ?_ B1.out | with_reducible refine same_b ?_ B2.out | with_reducible refine same_b ?_ B3.out))
            · (repeat (first | with_reducible exact Below.refl _ _ | with_reducible exact HBW.out | with_reducible refine Below.drew ?_ | with_reducible refine bal ?_ _ | with_reducible refine bset ?_ (by exact Nat.le_refl _) _ | with_reducible refine below2 ?_ B1.out | with_reducible refine below2 ?_ B2.out | with_reducible refine below2 ?_ B3.out))
            · first | omega | (simp [size_set] <;> omega)
            · exact .inl ⟨by decide, by decide⟩
          case measure => simp [intOf]; try omega
      · as_aux_lemma =>
          go_wp2_with (first | (go_at_call 28; (with_reducible refine (K1.out _ ?_).mono ?_); (repeat (first | with_reducible exact Below.refl _ _ | with_reducible exact HBW.out | with_reducible refine Below.drew ?_ | with_reducible refine bal ?_ _ | with_reducible refine bset ?_ (by exact Nat.le_refl _) _ | with_reducible refine below2 ?_ B1.out | with_reducible refine below2 ?_ B2.out | with_reducible refine below2 ?_ B3.out)); rintro e w1 ⟨rfl, b1⟩; have B1 := Lib.hid b1; have Q1 := BK.out w1 (by (repeat (first | with_reducible exact Below.refl _ _ | with_reducible exact HBW.out | with_reducible refine Below.drew ?_ | with_reducible refine bal ?_ _ | with_reducible refine bset ?_ (by exact Nat.le_refl _) _ | with_reducible refine below2 ?_ B1.out | with_reducible refine below2 ?_ B2.out | with_reducible refine below2 ?_ B3.out))); have qc1 : w1.cell? ⟨w.heap.size, i * 2, none⟩ = some .nilIface := (Q1.cell _).trans LO.out; have qf1 : w1.frozen? ⟨w.heap.size, i * 2, none⟩ = false := Q1.free _; have ql1 := Q1.lt; clear b1 Q1))
          go_wp2_with fail
          go_roundw
          case rel =>
            refine ⟨i, by omega, by go_num, ?_⟩
            apply Exists.intro
            apply Er.fin (T := 93) E.out hlt
            · go_light
              (repeat (first | with_reducible refine blkDrew ?_ | with_reducible refine Blk.alloc ?_ _)); refine Blk.set (BK.out _ ?_) _ _; (repeat (first | with_reducible exact Below.refl _ _ | with_reducible exact HBW.out | with_reducible refine Below.drew ?_ | with_reducible refine bal ?_ _ | with_reducible refine bset ?_ (by exact Nat.le_refl _) _ | with_reducible refine below2 ?_ B1.out | with_reducible refine below2 ?_ B2.out | with_reducible refine below2 ?_ B3.out))
            · (repeat (first | with_reducible exact Same.refl _ _ | with_reducible refine Same.drew ?_ | with_reducible refine Same.alloc ?_ _ | with_reducible refine same_set ?_ _ | with_reducible refine same_b ?_ B1.out | with_reducible refine same_b ?_ B2.out | with_reducible refine same_b ?_ B3.out))
            · (repeat (first | with_reducible exact Below.refl _ _ | with_reducible exact HBW.out | with_reducible refine Below.drew ?_ | with_reducible refine bal ?_ _ | with_reducible refine bset ?_ (by exact Nat.le_refl _) _ | with_reducible refine below2 ?_ B1.out | with_reducible refine below2 ?_ B2.out | with_reducible refine below2 ?_ B3.out))
            · first | omega | (simp [size_set] <;> omega)
            · exact .inl ⟨by decide, by decide⟩
          case measure => simp [intOf]; try omega
      · as_aux_lemma =>
          have HC : Hid (∀ w', Same (fun k => k = w.heap.size) wn w' → w'.cell? ⟨N, 1, none⟩ = some (.int .u8 op) ∧ w'.cell? ⟨N, 2, none⟩ = some (.bool f) ∧ w'.cell? ⟨N, 3, none⟩ = some (.int .u8 ch) ∧ w'.cell? ⟨N, 4, none⟩ = some (.int .i32 x) ∧ w'.cell? ⟨N, 5, none⟩ = some (.int .i32 y) ∧ w'.cell? ⟨N, 6, none⟩ = some (.int .i32 z)) := fun w' hs => ⟨hs.cell (Ne.symm hNR) n1, hs.cell (Ne.symm hNR) n2, hs.cell (Ne.symm hNR) n3, hs.cell (Ne.symm hNR) n4, hs.cell (Ne.symm hNR) n5, hs.cell (Ne.symm hNR) n6⟩
          go_wp2_with fail
          go_region_held3 (fun w' => w'.cell? ⟨N, 1, none⟩ = some (.int .u8 op) ∧ w'.cell? ⟨N, 2, none⟩ = some (.bool f) ∧ w'.cell? ⟨N, 3, none⟩ = some (.int .u8 ch) ∧ w'.cell? ⟨N, 4, none⟩ = some (.int .i32 x) ∧ w'.cell? ⟨N, 5, none⟩ = some (.int .i32 y) ∧ w'.cell? ⟨N, 6, none⟩ = some (.int .i32 z)) ((refine HC.out _ ?_; (repeat (first | with_reducible exact Same.refl _ _ | with_reducible refine Same.drew ?_ | with_reducible refine Same.alloc ?_ _ | with_reducible refine same_set ?_ _ | with_reducible refine same_b ?_ B1.out | with_reducible refine same_b ?_ B2.out | with_reducible refine same_b ?_ B3.out)); done))
            (first | (go_at_call 28; (with_reducible refine (K1.out _ ?_).mono ?_); (repeat (first | with_reducible exact Below.refl _ _ | with_reducible exact HBW.out | with_reducible refine Below.drew ?_ | with_reducible refine bal ?_ _ | with_reducible refine bset ?_ (by exact Nat.le_refl _) _ | with_reducible refine below2 ?_ B1.out | with_reducible refine below2 ?_ B2.out | with_reducible refine below2 ?_ B3.out)); rintro e w1 ⟨rfl, b1⟩; have B1 := Lib.hid b1; have Q1 := BK.out w1 (by (repeat (first | with_reducible exact Below.refl _ _ | with_reducible exact HBW.out | with_reducible refine Below.drew ?_ | with_reducible refine bal ?_ _ | with_reducible refine bset ?_ (by exact Nat.le_refl _) _ | with_reducible refine below2 ?_ B1.out | with_reducible refine below2 ?_ B2.out | with_reducible refine below2 ?_ B3.out))); have qc1 : w1.cell? ⟨w.heap.size, i * 2, none⟩ = some .nilIface := (Q1.cell _).trans LO.out; have qf1 : w1.frozen? ⟨w.heap.size, i * 2, none⟩ = false := Q1.free _; have ql1 := Q1.lt; clear b1 Q1))
          all_goals
            go_wp2_with fail
            go_roundw
            case rel =>
              refine ⟨i, by omega, by go_num, ?_⟩
              apply Exists.intro
              apply Er.fin (T := 97) E.out hlt
              · go_light
                (repeat (first | with_reducible refine blkDrew ?_ | with_reducible refine Blk.alloc ?_ _)); refine Blk.set (BK.out _ ?_) _ _; (repeat (first | with_reducible exact Below.refl _ _ | with_reducible exact HBW.out | with_reducible refine Below.drew ?_ | with_reducible refine bal ?_ _ | with_reducible refine bset ?_ (by exact Nat.le_refl _) _ | with_reducible refine below2 ?_ B1.out | with_reducible refine below2 ?_ B2.out | with_reducible refine below2 ?_ B3.out))
              · (repeat (first | with_reducible exact Same.refl _ _ | with_reducible refine Same.drew ?_ | with_reducible refine Same.alloc ?_ _ | with_reducible refine same_set ?_ _ | with_reducible refine same_b ?_ B1.out | with_reducible refine same_b ?_ B2.out | with_reducible refine same_b ?_ B3.out))
              · (repeat (first | with_reducible exact Below.refl _ _ | with_reducible exact HBW.out | with_reducible refine Below.drew ?_ | with_reducible refine bal ?_ _ | with_reducible refine bset ?_ (by exact Nat.le_refl _) _ | with_reducible refine below2 ?_ B1.out | with_reducible refine below2 ?_ B2.out | with_reducible refine below2 ?_ B3.out))
              · first | omega | (simp [size_set] <;> omega)
              · exact .inr (.inl ⟨rfl, f, by simp [go_sem, size_set]⟩)
            case measure => simp [intOf]; try omega
      · as_aux_lemma =>
          have HC : Hid (∀ w', Same (fun k => k = w.heap.size) wn w' → w'.cell? ⟨N, 1, none⟩ = some (.int .u8 op) ∧ w'.cell? ⟨N, 2, none⟩ = some (.bool f) ∧ w'.cell? ⟨N, 3, none⟩ = some (.int .u8 ch) ∧ w'.cell? ⟨N, 4, none⟩ = some (.int .i32 x) ∧ w'.cell? ⟨N, 5, none⟩ = some (.int .i32 y) ∧ w'.cell? ⟨N, 6, none⟩ = some (.int .i32 z)) := fun w' hs => ⟨hs.cell (Ne.symm hNR) n1, hs.cell (Ne.symm hNR) n2, hs.cell (Ne.symm hNR) n3, hs.cell (Ne.symm hNR) n4, hs.cell (Ne.symm hNR) n5, hs.cell (Ne.symm hNR) n6⟩
          go_wp2_with fail
          go_region_held3 (fun w' => w'.cell? ⟨N, 1, none⟩ = some (.int .u8 op) ∧ w'.cell? ⟨N, 2, none⟩ = some (.bool f) ∧ w'.cell? ⟨N, 3, none⟩ = some (.int .u8 ch) ∧ w'.cell? ⟨N, 4, none⟩ = some (.int .i32 x) ∧ w'.cell? ⟨N, 5, none⟩ = some (.int .i32 y) ∧ w'.cell? ⟨N, 6, none⟩ = some (.int .i32 z)) ((refine HC.out _ ?_; (repeat (first | with_reducible exact Same.refl _ _ | with_reducible refine Same.drew ?_ | with_reducible refine Same.alloc ?_ _ | with_reducible refine same_set ?_ _ | with_reducible refine same_b ?_ B1.out | with_reducible refine same_b ?_ B2.out | with_reducible refine same_b ?_ B3.out)); done))
            (first | (go_at_call 28; (with_reducible refine (K1.out _ ?_).mono ?_); (repeat (first | with_reducible exact Below.refl _ _ | with_reducible exact HBW.out | with_reducible refine Below.drew ?_ | with_reducible refine bal ?_ _ | with_reducible refine bset ?_ (by exact Nat.le_refl _) _ | with_reducible refine below2 ?_ B1.out | with_reducible refine below2 ?_ B2.out | with_reducible refine below2 ?_ B3.out)); rintro e w1 ⟨rfl, b1⟩; have B1 := Lib.hid b1; have Q1 := BK.out w1 (by (repeat (first | with_reducible exact Below.refl _ _ | with_reducible exact HBW.out | with_reducible refine Below.drew ?_ | with_reducible refine bal ?_ _ | with_reducible refine bset ?_ (by exact Nat.le_refl _) _ | with_reducible refine below2 ?_ B1.out | with_reducible refine below2 ?_ B2.out | with_reducible refine below2 ?_ B3.out))); have qc1 : w1.cell? ⟨w.heap.size, i * 2, none⟩ = some .nilIface := (Q1.cell _).trans LO.out; have qf1 : w1.frozen? ⟨w.heap.size, i * 2, none⟩ = false := Q1.free _; have ql1 := Q1.lt; clear b1 Q1) | (go_at_call 28; (with_reducible refine (K2.out _ ?_).mono ?_); (repeat (first | with_reducible exact Below.refl _ _ | with_reducible exact HBW.out | with_reducible refine Below.drew ?_ | with_reducible refine bal ?_ _ | with_reducible refine bset ?_ (by exact Nat.le_refl _) _ | with_reducible refine below2 ?_ B1.out | with_reducible refine below2 ?_ B2.out | with_reducible refine below2 ?_ B3.out)); rintro e w2 ⟨rfl, b2⟩; have B2 := Lib.hid b2; have Q2 := BK.out w2 (by (repeat (first | with_reducible exact Below.refl _ _ | with_reducible exact HBW.out | with_reducible refine Below.drew ?_ | with_reducible refine bal ?_ _ | with_reducible refine bset ?_ (by exact Nat.le_refl _) _ | with_reducible refine below2 ?_ B1.out | with_reducible refine below2 ?_ B2.out | with_reducible refine below2 ?_ B3.out))); have qc2 : w2.cell? ⟨w.heap.size, i * 2, none⟩ = some .nilIface := (Q2.cell _).trans LO.out; have qf2 : w2.frozen? ⟨w.heap.size, i * 2, none⟩ = false := Q2.free _; have ql2 := Q2.lt; clear b2 Q2))
          all_goals
            go_wp2_with fail
            go_roundw
            case rel =>
              refine ⟨i, by omega, by go_num, ?_⟩
              apply Exists.intro
              apply Er.fin (T := 101) E.out hlt
              · go_light
                (repeat (first | with_reducible refine blkDrew ?_ | with_reducible refine Blk.alloc ?_ _)); refine Blk.set (BK.out _ ?_) _ _; (repeat (first | with_reducible exact Below.refl _ _ | with_reducible exact HBW.out | with_reducible refine Below.drew ?_ | with_reducible refine bal ?_ _ | with_reducible refine bset ?_ (by exact Nat.le_refl _) _ | with_reducible refine below2 ?_ B1.out | with_reducible refine below2 ?_ B2.out | with_reducible refine below2 ?_ B3.out))
              · (repeat (first | with_reducible exact Same.refl _ _ | with_reducible refine Same.drew ?_ | with_reducible refine Same.alloc ?_ _ | with_reducible refine same_set ?_ _ | with_reducible refine same_b ?_ B1.out | with_reducible refine same_b ?_ B2.out | with_reducible refine same_b ?_ B3.out))
              · (repeat (first | with_reducible exact Below.refl _ _ | with_reducible exact HBW.out | with_reducible refine Below.drew ?_ | with_reducible refine bal ?_ _ | with_reducible refine bset ?_ (by exact Nat.le_refl _) _ | with_reducible refine below2 ?_ B1.out | with_reducible refine below2 ?_ B2.out | with_reducible refine below2 ?_ B3.out))
              · first | omega | (simp [size_set] <;> omega)
              · exact .inr (.inr ⟨rfl, f, by simp [go_sem, size_set]⟩)
            case measure => simp [intOf]; try omega
      · as_aux_lemma =>
          go_wp2_with fail
          go_roundw
          case rel =>
            refine ⟨i, by omega, by go_num, ?_⟩
            apply Exists.intro
            apply Er.fin (T := 104) E.out hlt
            · go_light
              (repeat (first | with_reducible refine blkDrew ?_ | with_reducible refine Blk.alloc ?_ _)); refine Blk.set (BK.out _ ?_) _ _; (repeat (first | with_reducible exact Below.refl _ _ | with_reducible exact HBW.out | with_reducible refine Below.drew ?_ | with_reducible refine bal ?_ _ | with_reducible refine bset ?_ (by exact Nat.le_refl _) _ | with_reducible refine below2 ?_ B1.out | with_reducible refine below2 ?_ B2.out | with_reducible refine below2 ?_ B3.out))
            · (repeat (first | with_reducible exact Same.refl _ _ | with_reducible refine Same.drew ?_ | with_reducible refine Same.alloc ?_ _ | with_reducible refine same_set ?_ _ | with_reducible refine same_b ?_ B1.out | with_reducible refine same_b ?_ B2.out | with_reducible refine same_b ?_ B3.out))
            · (repeat (first | with_reducible exact Below.refl _ _ | with_reducible exact HBW.out | with_reducible refine Below.drew ?_ | with_reducible refine bal ?_ _ | with_reducible refine bset ?_ (by exact Nat.le_refl _) _ | with_reducible refine below2 ?_ B1.out | with_reducible refine below2 ?_ B2.out | with_reducible refine below2 ?_ B3.out))
            · first | omega | (simp [size_set] <;> omega)
            · exact .inl ⟨by decide, by decide⟩
          case measure => simp [intOf]; try omega
      · as_aux_lemma =>
          go_wp2_with fail
          go_roundw
          case rel =>
            refine ⟨i, by omega, by go_num, ?_⟩
            apply Exists.intro
            apply Er.fin (T := 119) E.out hlt
            · go_light
              (repeat (first | with_reducible refine blkDrew ?_ | with_reducible refine Blk.alloc ?_ _)); refine Blk.set (BK.out _ ?_) _ _; (repeat (first | with_reducible exact Below.refl _ _ | with_reducible exact HBW.out | with_reducible refine Below.drew ?_ | with_reducible refine bal ?_ _ | with_reducible refine bset ?_ (by exact Nat.le_refl _) _ | with_reducible refine below2 ?_ B1.out | with_reducible refine below2 ?_ B2.out | with_reducible refine below2 ?_ B3.out))
            · (repeat (first | with_reducible exact Same.refl _ _ | with_reducible refine Same.drew ?_ | with_reducible refine Same.alloc ?_ _ | with_reducible refine same_set ?_ _ | with_reducible refine same_b ?_ B1.out | with_reducible refine same_b ?_ B2.out | with_reducible refine same_b ?_ B3.out))
            · (repeat (first | with_reducible exact Below.refl _ _ | with_reducible exact HBW.out | with_reducible refine Below.drew ?_ | with_reducible refine bal ?_ _ | with_reducible refine bset ?_ (by exact Nat.le_refl _) _ | with_reducible refine below2 ?_ B1.out | with_reducible refine below2 ?_ B2.out | with_reducible refine below2 ?_ B3.out))
            · first | omega | (simp [size_set] <;> omega)
            · exact .inl ⟨by decide, by decide⟩
          case measure => simp [intOf]; try omega
      · as_aux_lemma =>
          go_wp2_with fail
          go_roundw
          case rel =>
            refine ⟨i, by omega, by go_num, ?_⟩
            apply Exists.intro
            apply Er.fin (T := 122) E.out hlt
            · go_light
              (repeat (first | with_reducible refine blkDrew ?_ | with_reducible refine Blk.alloc ?_ _)); refine Blk.set (BK.out _ ?_) _ _; (repeat (first | with_reducible exact Below.refl _ _ | with_reducible exact HBW.out | with_reducible refine Below.drew ?_ | with_reducible refine bal ?_ _ | with_reducible refine bset ?_ (by exact Nat.le_refl _) _ | with_reducible refine below2 ?_ B1.out | with_reducible refine below2 ?_ B2.out | with_reducible refine below2 ?_ B3.out))
            · (repeat (first | with_reducible exact Same.refl _ _ | with_reducible refine Same.drew ?_ | with_reducible refine Same.alloc ?_ _ | with_reducible refine same_set ?_ _ | with_reducible refine same_b ?_ B1.out | with_reducible refine same_b ?_ B2.out | with_reducible refine same_b ?_ B3.out))
            · (repeat (first | with_reducible exact Below.refl _ _ | with_reducible exact HBW.out | with_reducible refine Below.drew ?_ | with_reducible refine bal ?_ _ | with_reducible refine bset ?_ (by exact Nat.le_refl _) _ | with_reducible refine below2 ?_ B1.out | with_reducible refine below2 ?_ B2.out | with_reducible refine below2 ?_ B3.out))
            · first | omega | (simp [size_set] <;> omega)
            · exact .inl ⟨by decide, by decide⟩
          case measure => simp [intOf]; try omega
      · as_aux_lemma =>
          obtain ⟨k0, k1, k2, k3, k4, k5, k6, k7, k8, k9, k10, k11, k13, k14, k15, k16, k17⟩ := hk
          have e0 : (kk == 0) = false := by simpa using k0
          have e1 : (kk == 1) = false := by simpa using k1
          have e2 : (kk == 2) = false := by simpa using k2
          have e3 : (kk == 3) = false := by simpa using k3
          have e4 : (kk == 4) = false := by simpa using k4
          have e5 : (kk == 5) = false := by simpa using k5
          have e6 : (kk == 6) = false := by simpa using k6
          have e7 : (kk == 7) = false := by simpa using k7
          have e8 : (kk == 8) = false := by simpa using k8
          have e9 : (kk == 9) = false := by simpa using k9
          have e10 : (kk == 10) = false := by simpa using k10
          have e11 : (kk == 11) = false := by simpa using k11
          have e13 : (kk == 13) = false := by simpa using k13
          have e14 : (kk == 14) = false := by simpa using k14
          have e15 : (kk == 15) = false := by simpa using k15
          have e16 : (kk == 16) = false := by simpa using k16
          have e17 : (kk == 17) = false := by simpa using k17
          clear k0 k1 k2 k3 k4 k5 k6 k7 k8 k9 k10 k11 k13 k14 k15 k16 k17
          go_wp2_with fail
          go_roundw
          case rel =>
            refine ⟨i, by omega, by go_num, ?_⟩
            apply Exists.intro
            apply Er.fin (T := 124) E.out hlt
            · go_light
              (repeat (first | with_reducible refine blkDrew ?_ | with_reducible refine Blk.alloc ?_ _)); refine Blk.set (BK.out _ ?_) _ _; (repeat (first | with_reducible exact Below.refl _ _ | with_reducible exact HBW.out | with_reducible refine Below.drew ?_ | with_reducible refine bal ?_ _ | with_reducible refine bset ?_ (by exact Nat.le_refl _) _ | with_reducible refine below2 ?_ B1.out | with_reducible refine below2 ?_ B2.out | with_reducible refine below2 ?_ B3.out))
            · (repeat (first | with_reducible exact Same.refl _ _ | with_reducible refine Same.drew ?_ | with_reducible refine Same.alloc ?_ _ | with_reducible refine same_set ?_ _ | with_reducible refine same_b ?_ B1.out | with_reducible refine same_b ?_ B2.out | with_reducible refine same_b ?_ B3.out))
            · (repeat (first | with_reducible exact Below.refl _ _ | with_reducible exact HBW.out | with_reducible refine Below.drew ?_ | with_reducible refine bal ?_ _ | with_reducible refine bset ?_ (by exact Nat.le_refl _) _ | with_reducible refine below2 ?_ B1.out | with_reducible refine below2 ?_ B2.out | with_reducible refine below2 ?_ B3.out))
            · first | omega | (simp [size_set] <;> omega)
            · exact .inl ⟨by decide, by decide⟩
          case measure => simp [intOf]; try omega
end Go.Proofs.YtpgkbpgfiblboaaR.sym
