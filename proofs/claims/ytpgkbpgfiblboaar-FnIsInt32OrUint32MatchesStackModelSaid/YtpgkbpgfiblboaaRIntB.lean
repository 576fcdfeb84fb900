/- The contracts of 'zzBuild' and 'isInt32OrUint32' of the package n011_294. No conditions beyond their hypotheses. -/
import Derived.Test.YtpgkbpgfiblboaaRRows
import Derived.Test.YtpgkbpgfiblboaaRLib
import Derived.Test.YtpgkbpgfiblboaaRAsserts
import Derived.Test.YtpgkbpgfiblboaaRIntP
import Derived.Deep.RegionHeld3
import Derived.Deep.RegionWith
import Derived.Outline
namespace Go.Proofs.YtpgkbpgfiblboaaR.i32
open Go.ChangeShapes Go.WideShapes Go.ChangeAt Go.RowKit Go.Mine
set_option linter.unusedVariables false
set_option maxRecDepth 100000

def pt (T p : Nat) : Value := .iface T (.pointer (some ⟨p, 0, none⟩))
def opc (k : Int) : Int := if k = 1 then 25 else if k = 2 then 31 else if k = 3 then 32 else if k = 7 then 30 else 11
/-- A tree in memory: its nodes lie from block B on. -/
def rep (w : World) (B : Nat) : Tr → Nat → Nat → Prop
  | .num, T, p => T = 48
  | .un _, T, p => T = 58
  | .bin k l r, T, p => T = 62 ∧ B ≤ p ∧ w.cell? ⟨p, 4, none⟩ = some (.int .u8 (opc k)) ∧ ∃ Tl pl Tr pr, w.cell? ⟨p, 0, none⟩ = some (pt Tl pl) ∧ w.cell? ⟨p, 2, none⟩ = some (pt Tr pr) ∧ rep w B l Tl pl ∧ rep w B r Tr pr
  | .tern a b c, T, p => T = 55 ∧ B ≤ p ∧ ∃ Tl pl Tr pr, w.cell? ⟨p, 2, none⟩ = some (pt Tl pl) ∧ w.cell? ⟨p, 4, none⟩ = some (pt Tr pr) ∧ rep w B b Tl pl ∧ rep w B c Tr pr
theorem rep.map {w w' : World} {B B' : Nat} (hB : B' ≤ B) (h : ∀ p o v, B ≤ p → w.cell? ⟨p, o, none⟩ = some v → w'.cell? ⟨p, o, none⟩ = some v) : ∀ {t : Tr} {T p : Nat}, rep w B t T p → rep w' B' t T p
  | .num, _, _, k => k
  | .un _, _, _, k => k
  | .bin _ _ _, _, _, ⟨k1, k2, k3, Tl, pl, Tr, pr, k4, k5, k6, k7⟩ => ⟨k1, by omega, h _ _ _ k2 k3, Tl, pl, Tr, pr, h _ _ _ k2 k4, h _ _ _ k2 k5, rep.map hB h k6, rep.map hB h k7⟩
  | .tern _ _ _, _, _, ⟨k1, k2, Tl, pl, Tr, pr, k4, k5, k6, k7⟩ => ⟨k1, by omega, Tl, pl, Tr, pr, h _ _ _ k2 k4, h _ _ _ k2 k5, rep.map hB h k6, rep.map hB h k7⟩
theorem rep.below {w w' : World} {B B' : Nat} {t : Tr} {T p : Nat} (h : rep w B t T p) (hB : B' ≤ B) (hb : Below w.heap.size w w') : rep w' B' t T p := rep.map hB (fun p o v _ hc => bcell hb hc) h
theorem cell_set_other {w : World} {a : Addr} {u : Value} {p o : Nat} {v : Value} (hne : p ≠ a.block) (h : w.cell? ⟨p, o, none⟩ = some v) : (w.setCell a u).cell? ⟨p, o, none⟩ = some v := by
  rw [cell_of_block (Below.heap_setCell _ _ _ _ hne) o]
  exact h
theorem rep.set {w : World} {B : Nat} {t : Tr} {T p : Nat} (h : rep w B t T p) {a : Addr} (ha : a.block < B) (u : Value) : rep (w.setCell a u) B t T p := rep.map (Nat.le_refl _) (fun p o v hp hc => cell_set_other (by omega) hc) h
theorem rep.alloc {w : World} {B : Nat} {t : Tr} {T p : Nat} (h : rep w B t T p) (o : Obj) : rep (w.alloc o) B t T p := h.below (Nat.le_refl _) ((Below.refl _ _).alloc (Nat.le_refl _) o)
theorem rep.lower {w : World} {B B' : Nat} {t : Tr} {T p : Nat} (h : rep w B t T p) (hB : B' ≤ B) : rep w B' t T p := rep.map hB (fun p o v _ hc => hc) h
theorem set2b {w : World} {q : Nat} {D L : Value} (h : Blk w q #[D, L] 30) (u v : Value) : Blk ((w.setCell ⟨q, 0, none⟩ u).setCell ⟨q, 1, none⟩ v) q #[u, v] 30 := by
  have h1 := (h.set 0 u).set 1 v
  rw [set2] at h1
  exact h1
theorem oth2 {w : World} {q r : Nat} {C : Array Value} {t : TypeId} (h : Blk w r C t) (hne : r ≠ q) (u v : Value) : Blk ((w.setCell ⟨q, 0, none⟩ u).setCell ⟨q, 1, none⟩ v) r C t := (h.setOther (a := ⟨q, 0, none⟩) hne u).setOther (a := ⟨q, 1, none⟩) hne v
theorem blkNew {w : World} {q : Nat} (C : Array Value) (t : TypeId) (h : q = w.heap.size) : Blk (w.alloc (.cells C t)) q C t := by subst h; exact Blk.new w C t
theorem bal {a w : World} (h : Below a.heap.size a w) (o : Obj) : Below a.heap.size a (w.alloc o) := h.alloc h.size _
theorem bset2 {a w : World} (h : Below a.heap.size a w) {q : Nat} (hq : a.heap.size ≤ q) (u v : Value) : Below a.heap.size a ((w.setCell ⟨q, 0, none⟩ u).setCell ⟨q, 1, none⟩ v) := (h.setCell hq u).setCell hq v

theorem rep.drew {w : World} {B : Nat} {t : Tr} {T p : Nat} (h : rep w B t T p) : rep w.drew B t T p := rep.map (w := w) (w' := w.drew) (Nat.le_refl _) (fun _ _ _ _ hc => hc) h
/-- The variables of a call: two cells each, from the call's first block on. -/
def Vs (w W : World) (L : List (Value × Value)) : Prop := Below w.heap.size w W ∧ w.heap.size + L.length ≤ W.heap.size ∧ ∀ k D l, L[k]? = some (D, l) → Blk W (w.heap.size + k) #[D, l] 30
theorem Vs.below {w W W' : World} {L : List (Value × Value)} (h : Vs w W L) (hb : Below W.heap.size W W') : Vs w W' L := ⟨below2 h.1 hb, Nat.le_trans h.2.1 hb.size, fun k D l e => (h.2.2 k D l e).below hb⟩
theorem Vs.set {w W : World} {L : List (Value × Value)} (h : Vs w W L) (k : Nat) (hk : k < L.length) (u v : Value) : Vs w ((W.setCell ⟨w.heap.size + k, 0, none⟩ u).setCell ⟨w.heap.size + k, 1, none⟩ v) (L.set k (u, v)) := by
  refine ⟨bset2 h.1 (by omega) u v, by rw [List.length_set, size_set, size_set]; exact h.2.1, fun i D l e => ?_⟩
  by_cases q : k = i
  · subst q
    rw [List.getElem?_set_self hk] at e
    obtain ⟨rfl, rfl⟩ : u = D ∧ v = l := by simpa using e
    exact set2b (h.2.2 k _ _ (List.getElem?_eq_getElem hk)) u v
  · rw [List.getElem?_set_ne q] at e
    exact oth2 (h.2.2 i D l e) (by omega) u v
def zv : Value × Value := (.nilIface, .int .i32 0)
def al (w : World) : World := w.alloc (.cells #[.nilIface, .int .i32 0] 30)
theorem Vs.push {w W : World} {L : List (Value × Value)} (h : Vs w W L) (hs : W.heap.size = w.heap.size + L.length) : Vs w (al W) (L ++ [zv]) ∧ (al W).heap.size = w.heap.size + (L ++ [zv]).length := by
  unfold al
  refine ⟨⟨bal h.1 _, by rw [World.size_alloc, List.length_append]; simp; omega, fun k D l e => ?_⟩, by rw [World.size_alloc, hs]; simp; omega⟩
  by_cases q : k < L.length
  · rw [List.getElem?_append_left q] at e
    exact (h.2.2 k D l e).alloc _
  · rw [List.getElem?_append_right (by omega)] at e
    have : k - L.length = 0 := by
      rcases Nat.eq_zero_or_pos (k - L.length) with h0 | h0
      · exact h0
      · rw [List.getElem?_eq_none (by simp; omega)] at e; cases e
    rw [this] at e
    obtain ⟨rfl, rfl⟩ : Value.nilIface = D ∧ Value.int .i32 0 = l := by simpa [zv] using e
    exact blkNew _ _ (by omega)
theorem vs3 (w : World) : Vs w (al (al (al w))) [zv, zv, zv] := by
  have h0 : Vs w w [] := ⟨Below.refl _ _, Nat.le_refl _, fun k D l e => by simp at e⟩
  have h1 := h0.push rfl
  have h2 := h1.1.push h1.2
  exact (h2.1.push h2.2).1
theorem vs4 (w : World) : Vs w (al (al (al (al w)))) [zv, zv, zv, zv] := by
  have h0 : Vs w w [] := ⟨Below.refl _ _, Nat.le_refl _, fun k D l e => by simp at e⟩
  have h1 := h0.push rfl
  have h2 := h1.1.push h1.2
  have h3 := h2.1.push h2.2
  exact (h3.1.push h3.2).1

theorem op22 (k : Int) (w : World) (hk : k = 1 ∨ k = 2 ∨ k = 3 ∨ k = 5 ∨ k = 7) : Calls Try.prog 22 #[.int .u8 k] w fun e w' => e = .returned (.int .u8 (opc k)) ∧ w' = w := by
  rcases hk with rfl | rfl | rfl | rfl | rfl
  all_goals
    go_enter Try.func22, Try.ntmps22
    go_wp2
    go_ret
    exact ⟨rfl, rfl⟩
theorem ar24 (k : Int) (w : World) (hk : k = 0 ∨ k = 1 ∨ k = 2 ∨ k = 3 ∨ k = 4 ∨ k = 5 ∨ k = 6 ∨ k = 7) : Calls Try.prog 24 #[.int .u8 k] w fun e w' => e = .returned (.int .i64 (ar k : Int)) ∧ w' = w := by
  rcases hk with rfl | rfl | rfl | rfl | rfl | rfl | rfl | rfl
  all_goals
    go_enter Try.func24, Try.ntmps24
    go_wp2
    go_ret
    exact ⟨rfl, rfl⟩

def Built (z : List Int) (n i : Nat) (w : World) (e : Ending) (w' : World) : Prop :=
  ∃ t j T p, e = .returned (.tuple #[.agg #[.iface T (.pointer (some ⟨p, 0, none⟩)), .int .i32 0], .int .i64 ((j : Nat) : Int)]) ∧ Parse z i t j ∧ j ≤ n ∧ (i ≤ j ∧ rep w' w.heap.size t T p) ∧ Below w.heap.size w w'
set_option maxHeartbeats 4000000 in
theorem build8 (a : Option Addr) (n c : Nat) (z : List Int) (hn : n ≤ 65536) : ∀ (f i : Nat) (w : World), n - i < f → i ≤ n → IntRow .u8 w a n c z →
    Calls Try.prog 8 #[.slice a n c, .int .i64 ((i : Nat) : Int), .bool false] w (Built z n i w) := by
  intro f
  induction f with
  | zero => intro i w hf; omega
  | succ f ih =>
    intro i w hf hi hr
    have R := Lib.hid hr
    by_cases hlt : i < n
    rotate_left
    · have hs : Hid (Parse z i .num i) := .stop (by rw [hr.1]; omega)
      clear hr
      go_enter Try.func8, Try.ntmps8
      go_wp2_with fail
      refine bodyPost_ret (v := .tuple #[.agg #[.iface 48 (.pointer (some ⟨_, 0, none⟩)), .int .i32 0], .int .i64 (i : Int)]) (by simp [results, Try.results8, go_sem]; try (first | exact ⟨rfl, rfl⟩ | rfl)) rfl ⟨_, i, _, _, rfl, hs.out, hi, ⟨Nat.le_refl _, rfl⟩, ?_⟩
      go_light
      repeat (first | with_reducible exact Below.refl _ _ | with_reducible refine Below.drew ?_ | with_reducible refine Below.alloc ?_ (by simp <;> omega) _ | with_reducible refine Below.setCell ?_ (by simp <;> omega) _)
    · obtain ⟨b, off, ha, hb, hc⟩ := hr.at hlt
      subst ha
      obtain ⟨x, hx⟩ : ∃ x, x = z.getD i 0 := ⟨_, rfl⟩
      rw [← hx] at hc
      obtain ⟨q, ex⟩ := elt_of hr hlt hx
      have hx0 := (bounds_u8 (hr.2.2.2.1 _ (List.getElem_mem q)))
      rw [← ex] at hx0
      obtain ⟨hx0, hx1⟩ := hx0
      have EX := Lib.hid ex
      have Q := Lib.hid q
      have IH := Lib.hid fun i' w' (h1 : i < i') (h2 : i' ≤ n) (hb : Below w.heap.size w w') => ih i' w' (by omega) h2 (hr.below hb)
      clear hx ex hr ih
      have hb1 := Nat.lt_succ_of_lt hb
      have hk : x % 8 = 0 ∨ x % 8 = 6 ∨ x % 8 = 4 ∨ (x % 8 = 1 ∨ x % 8 = 2 ∨ x % 8 = 3 ∨ x % 8 = 5 ∨ x % 8 = 7) := by omega
      rcases hk with h | h | h | h
      · have hs : Hid (Parse z i .num (i + 1)) := .leaf Q.out (by rw [← EX.out]; exact h)
        go_enter Try.func8, Try.ntmps8
        go_wp2_with fail
        refine bodyPost_ret (v := .tuple #[.agg #[.iface 48 (.pointer (some ⟨_, 0, none⟩)), .int .i32 0], .int .i64 ((i + 1 : Nat) : Int)]) (by simp [results, Try.results8, go_sem]; try (first | exact ⟨rfl, rfl⟩ | rfl)) rfl ⟨_, i + 1, _, _, rfl, hs.out, by omega, ⟨by omega, rfl⟩, ?_⟩
        go_light
        repeat (first | with_reducible exact Below.refl _ _ | with_reducible refine Below.drew ?_ | with_reducible refine Below.alloc ?_ (by simp <;> omega) _ | with_reducible refine Below.setCell ?_ (by simp <;> omega) _)
      --REC
      · -- ~
        have C1 : Hid (∀ w', Below w.heap.size w w' → Calls Try.prog 8 #[.slice (some ⟨b, off, none⟩) n c, .int .i64 ((i : Int) + 1), .bool false] w' (Built z n (i + 1) w')) := fun w' hb => IH.out (i + 1) w' (by omega) (by omega) hb
        have H6 : Hid (z[i]'Q.out % 8 = 6) := by show _ % 8 = 6; rw [← EX.out]; exact h
        go_enter Try.func8, Try.ntmps8
        go_wp2_with fail
        refine (C1.out _ (bal (bal (Below.refl _ _) _) _)).mono ?_
        rintro e w1 ⟨t, j, T, p, rfl, hp, hj, ⟨hij, hrep⟩, hb1⟩
        have k6 := (((Blk.new w #[.nilIface, .int .i32 0] 30).alloc _)).below hb1
        have k12 := (blkNew (w := w.alloc (.cells #[.nilIface, .int .i32 0] 30)) (q := w.heap.size + 1) #[.nilIface, .int .i32 0] 30 (by simp)).below hb1
        have hB := below2 (bal (bal (Below.refl w.heap.size w) (.cells #[.nilIface, .int .i32 0] 30)) (.cells #[.nilIface, .int .i32 0] 30)) hb1
        have c0 := k6.cell 0
        have c1 := k6.cell 1
        have c2 := k6.free 0
        have c3 := k6.free 1
        have c4 := k6.lt
        have d0 := k12.cell 0
        have d1 := k12.cell 1
        have d2 := k12.free 0
        have d3 := k12.free 1
        have d4 := k12.lt
        have HP := Lib.hid (Parse.un Q.out H6.out hp)
        have HB := Lib.hid hB
        clear hrep hb1 hp k6 k12 hB
        go_wp2_with fail
        refine bodyPost_ret (v := .tuple #[.agg #[.iface 58 (.pointer (some ⟨_, 0, none⟩)), .int .i32 0], .int .i64 (j : Int)]) (by simp [results, Try.results8, go_sem, c0, c1, c2, c3, c4, d4]; try (first | exact ⟨rfl, rfl⟩ | rfl)) rfl ⟨_, j, _, _, rfl, HP.out, hj, ⟨by omega, rfl⟩, ?_⟩
        go_light
        have hB := HB.out
        have hsz := hB.size
        repeat (first | with_reducible exact Below.refl _ _ | with_reducible exact hB | with_reducible refine Below.drew ?_ | with_reducible refine Below.alloc ?_ (by simp [size_set] <;> omega) _ | with_reducible refine Below.setCell ?_ (by simp <;> omega) _)
      · -- ?:
        have C1 : Hid (∀ w', Below w.heap.size w w' → Calls Try.prog 8 #[.slice (some ⟨b, off, none⟩) n c, .int .i64 ((i : Int) + 1), .bool false] w' (Built z n (i + 1) w')) := fun w' hb => IH.out (i + 1) w' (by omega) (by omega) hb
        have H4 : Hid (z[i]'Q.out % 8 = 4) := by show _ % 8 = 4; rw [← EX.out]; exact h
        have V0 := Lib.hid (vs4 w)
        unfold al zv at V0
        go_enter Try.func8, Try.ntmps8
        go_wp2_with fail
        refine (C1.out _ V0.out.1).mono ?_
        rintro e w1 ⟨t1, j1, T1, p1, rfl, hp1, hj1, ⟨hi1, hr1⟩, hb1⟩
        have V1 := Lib.hid (V0.out.below hb1)
        have P1 := Lib.hid hp1
        have R1 := Lib.hid hr1
        have V1x := Lib.hid (V1.out.set 1 (by simp) (.iface T1 (.pointer (some ⟨p1, 0, none⟩))) (.int .i32 0))
        have hl1 : w.heap.size + 4 ≤ w1.heap.size := V1.out.2.1
        have S1 := Lib.hid fun (t : Tr) (T p B : Nat) (hB : w.heap.size + 4 ≤ B) (h : rep w1 B t T p) => (h.set (a := ⟨w.heap.size + 1, 0, none⟩) (by show w.heap.size + 1 < B; omega) (.iface T1 (.pointer (some ⟨p1, 0, none⟩)))).set (a := ⟨w.heap.size + 1, 1, none⟩) (by show w.heap.size + 1 < B; omega) (.int .i32 0)
        have R1 := Lib.hid (S1.out _ _ _ _ (by have := V0.out.2.1; exact this) R1.out)
        clear hb1 hp1 hr1
        have b0 := V1.out.2.2 0 _ _ rfl
        have c00 : w1.cell? ⟨w.heap.size, 0, none⟩ = _ := b0.cell 0
        have c01 : w1.cell? ⟨w.heap.size, 1, none⟩ = _ := b0.cell 1
        have f00 : w1.frozen? ⟨w.heap.size, 0, none⟩ = false := b0.free 0
        have f01 : w1.frozen? ⟨w.heap.size, 1, none⟩ = false := b0.free 1
        have l0 : w.heap.size < w1.heap.size := b0.lt
        clear b0
        have b1 := V1.out.2.2 1 _ _ rfl
        have c10 : w1.cell? ⟨w.heap.size + 1, 0, none⟩ = _ := b1.cell 0
        have c11 : w1.cell? ⟨w.heap.size + 1, 1, none⟩ = _ := b1.cell 1
        have f10 : w1.frozen? ⟨w.heap.size + 1, 0, none⟩ = false := b1.free 0
        have f11 : w1.frozen? ⟨w.heap.size + 1, 1, none⟩ = false := b1.free 1
        have l1 : w.heap.size + 1 < w1.heap.size := b1.lt
        clear b1
        have b2 := V1.out.2.2 2 _ _ rfl
        have c20 : w1.cell? ⟨w.heap.size + 2, 0, none⟩ = _ := b2.cell 0
        have c21 : w1.cell? ⟨w.heap.size + 2, 1, none⟩ = _ := b2.cell 1
        have f20 : w1.frozen? ⟨w.heap.size + 2, 0, none⟩ = false := b2.free 0
        have f21 : w1.frozen? ⟨w.heap.size + 2, 1, none⟩ = false := b2.free 1
        have l2 : w.heap.size + 2 < w1.heap.size := b2.lt
        clear b2
        have b3 := V1.out.2.2 3 _ _ rfl
        have c30 : w1.cell? ⟨w.heap.size + 3, 0, none⟩ = _ := b3.cell 0
        have c31 : w1.cell? ⟨w.heap.size + 3, 1, none⟩ = _ := b3.cell 1
        have f30 : w1.frozen? ⟨w.heap.size + 3, 0, none⟩ = false := b3.free 0
        have f31 : w1.frozen? ⟨w.heap.size + 3, 1, none⟩ = false := b3.free 1
        have l3 : w.heap.size + 3 < w1.heap.size := b3.lt
        clear b3
        go_wp2_with fail
        clear c00 c01 f00 f01 l0 c10 c11 f10 f11 l1 c20 c21 f20 f21 l2 c30 c31 f30 f31 l3
        refine (IH.out j1 _ (by omega) hj1 V1x.out.1).mono ?_
        rintro e w2 ⟨t2, j2, T2, p2, rfl, hp2, hj2, ⟨hi2, hr2⟩, hb2⟩
        have V2 := Lib.hid (V1x.out.below hb2)
        have P2 := Lib.hid hp2
        have R2 := Lib.hid hr2
        have R1 := Lib.hid (R1.out.below (Nat.le_refl _) hb2)
        have V2x := Lib.hid (V2.out.set 2 (by simp) (.iface T2 (.pointer (some ⟨p2, 0, none⟩))) (.int .i32 0))
        have hl2 : w.heap.size + 4 ≤ w2.heap.size := V2.out.2.1
        have S2 := Lib.hid fun (t : Tr) (T p B : Nat) (hB : w.heap.size + 4 ≤ B) (h : rep w2 B t T p) => (h.set (a := ⟨w.heap.size + 2, 0, none⟩) (by show w.heap.size + 2 < B; omega) (.iface T2 (.pointer (some ⟨p2, 0, none⟩)))).set (a := ⟨w.heap.size + 2, 1, none⟩) (by show w.heap.size + 2 < B; omega) (.int .i32 0)
        have R1 := Lib.hid (S2.out _ _ _ _ (by have := V0.out.2.1; exact this) R1.out)
        have R2 := Lib.hid (S2.out _ _ _ _ (by rw [size_set, size_set]; exact hl1) R2.out)
        clear hb2 hp2 hr2
        have b0 := V2.out.2.2 0 _ _ rfl
        have c00 : w2.cell? ⟨w.heap.size, 0, none⟩ = _ := b0.cell 0
        have c01 : w2.cell? ⟨w.heap.size, 1, none⟩ = _ := b0.cell 1
        have f00 : w2.frozen? ⟨w.heap.size, 0, none⟩ = false := b0.free 0
        have f01 : w2.frozen? ⟨w.heap.size, 1, none⟩ = false := b0.free 1
        have l0 : w.heap.size < w2.heap.size := b0.lt
        clear b0
        have b1 := V2.out.2.2 1 _ _ rfl
        have c10 : w2.cell? ⟨w.heap.size + 1, 0, none⟩ = _ := b1.cell 0
        have c11 : w2.cell? ⟨w.heap.size + 1, 1, none⟩ = _ := b1.cell 1
        have f10 : w2.frozen? ⟨w.heap.size + 1, 0, none⟩ = false := b1.free 0
        have f11 : w2.frozen? ⟨w.heap.size + 1, 1, none⟩ = false := b1.free 1
        have l1 : w.heap.size + 1 < w2.heap.size := b1.lt
        clear b1
        have b2 := V2.out.2.2 2 _ _ rfl
        have c20 : w2.cell? ⟨w.heap.size + 2, 0, none⟩ = _ := b2.cell 0
        have c21 : w2.cell? ⟨w.heap.size + 2, 1, none⟩ = _ := b2.cell 1
        have f20 : w2.frozen? ⟨w.heap.size + 2, 0, none⟩ = false := b2.free 0
        have f21 : w2.frozen? ⟨w.heap.size + 2, 1, none⟩ = false := b2.free 1
        have l2 : w.heap.size + 2 < w2.heap.size := b2.lt
        clear b2
        have b3 := V2.out.2.2 3 _ _ rfl
        have c30 : w2.cell? ⟨w.heap.size + 3, 0, none⟩ = _ := b3.cell 0
        have c31 : w2.cell? ⟨w.heap.size + 3, 1, none⟩ = _ := b3.cell 1
        have f30 : w2.frozen? ⟨w.heap.size + 3, 0, none⟩ = false := b3.free 0
        have f31 : w2.frozen? ⟨w.heap.size + 3, 1, none⟩ = false := b3.free 1
        have l3 : w.heap.size + 3 < w2.heap.size := b3.lt
        clear b3
        go_wp2_with fail
        clear c00 c01 f00 f01 l0 c10 c11 f10 f11 l1 c20 c21 f20 f21 l2 c30 c31 f30 f31 l3
        refine (IH.out j2 _ (by omega) hj2 V2x.out.1).mono ?_
        rintro e w3 ⟨t3, j3, T3, p3, rfl, hp3, hj3, ⟨hi3, hr3⟩, hb3⟩
        have V3 := Lib.hid (V2x.out.below hb3)
        have P3 := Lib.hid hp3
        have R3 := Lib.hid hr3
        have R1 := Lib.hid (R1.out.below (Nat.le_refl _) hb3)
        have R2 := Lib.hid (R2.out.below (Nat.le_refl _) hb3)
        have V3x := Lib.hid (V3.out.set 3 (by simp) (.iface T3 (.pointer (some ⟨p3, 0, none⟩))) (.int .i32 0))
        have hl3 : w.heap.size + 4 ≤ w3.heap.size := V3.out.2.1
        have S3 := Lib.hid fun (t : Tr) (T p B : Nat) (hB : w.heap.size + 4 ≤ B) (h : rep w3 B t T p) => (h.set (a := ⟨w.heap.size + 3, 0, none⟩) (by show w.heap.size + 3 < B; omega) (.iface T3 (.pointer (some ⟨p3, 0, none⟩)))).set (a := ⟨w.heap.size + 3, 1, none⟩) (by show w.heap.size + 3 < B; omega) (.int .i32 0)
        have R1 := Lib.hid (S3.out _ _ _ _ (by have := V0.out.2.1; exact this) R1.out)
        have R2 := Lib.hid (S3.out _ _ _ _ (by rw [size_set, size_set]; exact hl1) R2.out)
        have R3 := Lib.hid (S3.out _ _ _ _ (by rw [size_set, size_set]; exact hl2) R3.out)
        clear hb3 hp3 hr3
        have b0 := V3.out.2.2 0 _ _ rfl
        have c00 : w3.cell? ⟨w.heap.size, 0, none⟩ = _ := b0.cell 0
        have c01 : w3.cell? ⟨w.heap.size, 1, none⟩ = _ := b0.cell 1
        have f00 : w3.frozen? ⟨w.heap.size, 0, none⟩ = false := b0.free 0
        have f01 : w3.frozen? ⟨w.heap.size, 1, none⟩ = false := b0.free 1
        have l0 : w.heap.size < w3.heap.size := b0.lt
        clear b0
        have b1 := V3.out.2.2 1 _ _ rfl
        have c10 : w3.cell? ⟨w.heap.size + 1, 0, none⟩ = _ := b1.cell 0
        have c11 : w3.cell? ⟨w.heap.size + 1, 1, none⟩ = _ := b1.cell 1
        have f10 : w3.frozen? ⟨w.heap.size + 1, 0, none⟩ = false := b1.free 0
        have f11 : w3.frozen? ⟨w.heap.size + 1, 1, none⟩ = false := b1.free 1
        have l1 : w.heap.size + 1 < w3.heap.size := b1.lt
        clear b1
        have b2 := V3.out.2.2 2 _ _ rfl
        have c20 : w3.cell? ⟨w.heap.size + 2, 0, none⟩ = _ := b2.cell 0
        have c21 : w3.cell? ⟨w.heap.size + 2, 1, none⟩ = _ := b2.cell 1
        have f20 : w3.frozen? ⟨w.heap.size + 2, 0, none⟩ = false := b2.free 0
        have f21 : w3.frozen? ⟨w.heap.size + 2, 1, none⟩ = false := b2.free 1
        have l2 : w.heap.size + 2 < w3.heap.size := b2.lt
        clear b2
        have b3 := V3.out.2.2 3 _ _ rfl
        have c30 : w3.cell? ⟨w.heap.size + 3, 0, none⟩ = _ := b3.cell 0
        have c31 : w3.cell? ⟨w.heap.size + 3, 1, none⟩ = _ := b3.cell 1
        have f30 : w3.frozen? ⟨w.heap.size + 3, 0, none⟩ = false := b3.free 0
        have f31 : w3.frozen? ⟨w.heap.size + 3, 1, none⟩ = false := b3.free 1
        have l3 : w.heap.size + 3 < w3.heap.size := b3.lt
        clear b3
        have HP := Lib.hid (Parse.tern Q.out H4.out P1.out P2.out P3.out)
        have hs3 := V3.out.2.1
        go_wp2_with fail
        refine bodyPost_ret (v := .tuple #[.agg #[.iface 55 (.pointer (some ⟨_, 0, none⟩)), .int .i32 0], .int .i64 (j3 : Int)]) (by simp [results, Try.results8, go_sem, c00, c01, f00, f01, l0, l1, l2, l3]; try (first | exact ⟨rfl, rfl⟩ | rfl)) rfl ⟨_, j3, _, _, rfl, HP.out, hj3, ⟨by omega, rfl, ?_, T2, p2, T3, p3, ?_, ?_, ?_, ?_⟩, ?_⟩
        all_goals go_light
        · first | omega | (simp [size_set] <;> omega)
        · simp [go_sem, size_set, pt]
        · simp [go_sem, size_set, pt]
        · exact (((R2.out.set (a := ⟨w.heap.size, 0, none⟩) (by show w.heap.size < _; rw [size_set, size_set]; omega) _).set (a := ⟨w.heap.size, 1, none⟩) (by show w.heap.size < _; rw [size_set, size_set]; omega) _).alloc _).lower (by rw [size_set, size_set]; omega)
        · exact (((R3.out.set (a := ⟨w.heap.size, 0, none⟩) (by show w.heap.size < _; rw [size_set, size_set]; omega) _).set (a := ⟨w.heap.size, 1, none⟩) (by show w.heap.size < _; rw [size_set, size_set]; omega) _).alloc _).lower (by rw [size_set, size_set]; omega)
        · exact bal (bset2 V3x.out.1 (Nat.le_refl _) _ _) _
      · -- binary
        have C1 : Hid (∀ w', Below w.heap.size w w' → Calls Try.prog 8 #[.slice (some ⟨b, off, none⟩) n c, .int .i64 ((i : Int) + 1), .bool false] w' (Built z n (i + 1) w')) := fun w' hb => IH.out (i + 1) w' (by omega) (by omega) hb
        have H4 : Hid (z[i]'Q.out % 8 = 1 ∨ z[i]'Q.out % 8 = 2 ∨ z[i]'Q.out % 8 = 3 ∨ z[i]'Q.out % 8 = 5 ∨ z[i]'Q.out % 8 = 7) := by rw [← EX.out]; exact h
        have V0 := Lib.hid (vs3 w)
        unfold al zv at V0
        go_enter Try.func8, Try.ntmps8
        go_wp2_with fail
        refine (C1.out _ V0.out.1).mono ?_
        rintro e w1 ⟨t1, j1, T1, p1, rfl, hp1, hj1, ⟨hi1, hr1⟩, hb1⟩
        have V1 := Lib.hid (V0.out.below hb1)
        have P1 := Lib.hid hp1
        have R1 := Lib.hid hr1
        have V1x := Lib.hid (V1.out.set 1 (by simp) (.iface T1 (.pointer (some ⟨p1, 0, none⟩))) (.int .i32 0))
        have hl1 : w.heap.size + 3 ≤ w1.heap.size := V1.out.2.1
        have S1 := Lib.hid fun (t : Tr) (T p B : Nat) (hB : w.heap.size + 3 ≤ B) (h : rep w1 B t T p) => (h.set (a := ⟨w.heap.size + 1, 0, none⟩) (by show w.heap.size + 1 < B; omega) (.iface T1 (.pointer (some ⟨p1, 0, none⟩)))).set (a := ⟨w.heap.size + 1, 1, none⟩) (by show w.heap.size + 1 < B; omega) (.int .i32 0)
        have R1 := Lib.hid (S1.out _ _ _ _ (by have := V0.out.2.1; exact this) R1.out)
        clear hb1 hp1 hr1
        have b0 := V1.out.2.2 0 _ _ rfl
        have c00 : w1.cell? ⟨w.heap.size, 0, none⟩ = _ := b0.cell 0
        have c01 : w1.cell? ⟨w.heap.size, 1, none⟩ = _ := b0.cell 1
        have f00 : w1.frozen? ⟨w.heap.size, 0, none⟩ = false := b0.free 0
        have f01 : w1.frozen? ⟨w.heap.size, 1, none⟩ = false := b0.free 1
        have l0 : w.heap.size < w1.heap.size := b0.lt
        clear b0
        have b1 := V1.out.2.2 1 _ _ rfl
        have c10 : w1.cell? ⟨w.heap.size + 1, 0, none⟩ = _ := b1.cell 0
        have c11 : w1.cell? ⟨w.heap.size + 1, 1, none⟩ = _ := b1.cell 1
        have f10 : w1.frozen? ⟨w.heap.size + 1, 0, none⟩ = false := b1.free 0
        have f11 : w1.frozen? ⟨w.heap.size + 1, 1, none⟩ = false := b1.free 1
        have l1 : w.heap.size + 1 < w1.heap.size := b1.lt
        clear b1
        have b2 := V1.out.2.2 2 _ _ rfl
        have c20 : w1.cell? ⟨w.heap.size + 2, 0, none⟩ = _ := b2.cell 0
        have c21 : w1.cell? ⟨w.heap.size + 2, 1, none⟩ = _ := b2.cell 1
        have f20 : w1.frozen? ⟨w.heap.size + 2, 0, none⟩ = false := b2.free 0
        have f21 : w1.frozen? ⟨w.heap.size + 2, 1, none⟩ = false := b2.free 1
        have l2 : w.heap.size + 2 < w1.heap.size := b2.lt
        clear b2
        go_wp2_with fail
        clear c00 c01 f00 f01 l0 c10 c11 f10 f11 l1 c20 c21 f20 f21 l2
        refine (IH.out j1 _ (by omega) hj1 V1x.out.1).mono ?_
        rintro e w2 ⟨t2, j2, T2, p2, rfl, hp2, hj2, ⟨hi2, hr2⟩, hb2⟩
        have V2 := Lib.hid (V1x.out.below hb2)
        have P2 := Lib.hid hp2
        have R2 := Lib.hid hr2
        have R1 := Lib.hid (R1.out.below (Nat.le_refl _) hb2)
        have V2x := Lib.hid (V2.out.set 2 (by simp) (.iface T2 (.pointer (some ⟨p2, 0, none⟩))) (.int .i32 0))
        have hl2 : w.heap.size + 3 ≤ w2.heap.size := V2.out.2.1
        have S2 := Lib.hid fun (t : Tr) (T p B : Nat) (hB : w.heap.size + 3 ≤ B) (h : rep w2 B t T p) => (h.set (a := ⟨w.heap.size + 2, 0, none⟩) (by show w.heap.size + 2 < B; omega) (.iface T2 (.pointer (some ⟨p2, 0, none⟩)))).set (a := ⟨w.heap.size + 2, 1, none⟩) (by show w.heap.size + 2 < B; omega) (.int .i32 0)
        have R1 := Lib.hid (S2.out _ _ _ _ (by have := V0.out.2.1; exact this) R1.out)
        have R2 := Lib.hid (S2.out _ _ _ _ (by rw [size_set, size_set]; exact hl1) R2.out)
        clear hb2 hp2 hr2
        have b0 := V2.out.2.2 0 _ _ rfl
        have c00 : w2.cell? ⟨w.heap.size, 0, none⟩ = _ := b0.cell 0
        have c01 : w2.cell? ⟨w.heap.size, 1, none⟩ = _ := b0.cell 1
        have f00 : w2.frozen? ⟨w.heap.size, 0, none⟩ = false := b0.free 0
        have f01 : w2.frozen? ⟨w.heap.size, 1, none⟩ = false := b0.free 1
        have l0 : w.heap.size < w2.heap.size := b0.lt
        clear b0
        have b1 := V2.out.2.2 1 _ _ rfl
        have c10 : w2.cell? ⟨w.heap.size + 1, 0, none⟩ = _ := b1.cell 0
        have c11 : w2.cell? ⟨w.heap.size + 1, 1, none⟩ = _ := b1.cell 1
        have f10 : w2.frozen? ⟨w.heap.size + 1, 0, none⟩ = false := b1.free 0
        have f11 : w2.frozen? ⟨w.heap.size + 1, 1, none⟩ = false := b1.free 1
        have l1 : w.heap.size + 1 < w2.heap.size := b1.lt
        clear b1
        have b2 := V2.out.2.2 2 _ _ rfl
        have c20 : w2.cell? ⟨w.heap.size + 2, 0, none⟩ = _ := b2.cell 0
        have c21 : w2.cell? ⟨w.heap.size + 2, 1, none⟩ = _ := b2.cell 1
        have f20 : w2.frozen? ⟨w.heap.size + 2, 0, none⟩ = false := b2.free 0
        have f21 : w2.frozen? ⟨w.heap.size + 2, 1, none⟩ = false := b2.free 1
        have l2 : w.heap.size + 2 < w2.heap.size := b2.lt
        clear b2
        have hs2 := V2.out.2.1
        have CO := Lib.hid fun w => op22 (x % 8) w h
        have HP : Hid (Parse z i (.bin (x % 8) t1 t2) j2) := by
          have h := Parse.bin Q.out H4.out P1.out P2.out
          rw [← EX.out] at h
          exact h
        go_upto_region 11 with fail
        clear c00 c01 f00 f01 l0 c10 c11 f10 f11 l1 c20 c21 f20 f21 l2
        have BX1 := Lib.hid (show w.heap.size + 3 ≤ (((w.alloc (.cells #[.nilIface, .int .i32 0] 30)).alloc (.cells #[.nilIface, .int .i32 0] 30)).alloc (.cells #[.nilIface, .int .i32 0] 30)).heap.size from V0.out.2.1)
        have BX2 := Lib.hid (show w.heap.size + 3 ≤ ((w1.setCell ⟨w.heap.size + 1, 0, none⟩ (.iface T1 (.pointer (some ⟨p1, 0, none⟩)))).setCell ⟨w.heap.size + 1, 1, none⟩ (.int .i32 0)).heap.size by rw [size_set, size_set]; exact hl1)
        generalize hW : (w2.setCell ⟨w.heap.size + 2, 0, none⟩ (.iface T2 (.pointer (some ⟨p2, 0, none⟩)))).setCell ⟨w.heap.size + 2, 1, none⟩ (.int .i32 0) = W at *
        have hsW : w.heap.size + 3 ≤ W.heap.size := by rw [← hW, size_set, size_set]; exact hl2
        clear hW
        have b0 := V2x.out.2.2 0 _ _ rfl
        have c00 : W.cell? ⟨w.heap.size, 0, none⟩ = _ := b0.cell 0
        have c01 : W.cell? ⟨w.heap.size, 1, none⟩ = _ := b0.cell 1
        have f00 : W.frozen? ⟨w.heap.size, 0, none⟩ = false := b0.free 0
        have f01 : W.frozen? ⟨w.heap.size, 1, none⟩ = false := b0.free 1
        have l0 : w.heap.size < W.heap.size := b0.lt
        clear b0
        have b1 := V2x.out.2.2 1 _ _ rfl
        have c10 : W.cell? ⟨w.heap.size + 1, 0, none⟩ = _ := b1.cell 0
        have c11 : W.cell? ⟨w.heap.size + 1, 1, none⟩ = _ := b1.cell 1
        have f10 : W.frozen? ⟨w.heap.size + 1, 0, none⟩ = false := b1.free 0
        have f11 : W.frozen? ⟨w.heap.size + 1, 1, none⟩ = false := b1.free 1
        have l1 : w.heap.size + 1 < W.heap.size := b1.lt
        clear b1
        have b2 := V2x.out.2.2 2 _ _ rfl
        have c20 : W.cell? ⟨w.heap.size + 2, 0, none⟩ = _ := b2.cell 0
        have c21 : W.cell? ⟨w.heap.size + 2, 1, none⟩ = _ := b2.cell 1
        have f20 : W.frozen? ⟨w.heap.size + 2, 0, none⟩ = false := b2.free 0
        have f21 : W.frozen? ⟨w.heap.size + 2, 1, none⟩ = false := b2.free 1
        have l2 : w.heap.size + 2 < W.heap.size := b2.lt
        clear b2
        go_region_held3 (fun w' => w'.cell? ⟨w.heap.size + 1, 0, none⟩ = some (.iface T1 (.pointer (some ⟨p1, 0, none⟩))) ∧ w'.cell? ⟨w.heap.size + 1, 1, none⟩ = some (.int .i32 0) ∧ w'.cell? ⟨w.heap.size + 2, 0, none⟩ = some (.iface T2 (.pointer (some ⟨p2, 0, none⟩))) ∧ w'.cell? ⟨w.heap.size + 2, 1, none⟩ = some (.int .i32 0)) ((first | (simp [go_sem, c10, c11, c20, c21, l1, l2]; done) | (go_keep; done)))
          (first | (go_at_call 22; (with_reducible refine (CO.out _).mono ?_); rintro e w' ⟨rfl, rfl⟩))
        all_goals
          go_wp2_with fail
          refine bodyPost_ret (v := .tuple #[.agg #[.iface 62 (.pointer (some ⟨_, 0, none⟩)), .int .i32 0], .int .i64 (j2 : Int)]) (by simp [results, Try.results8, go_sem, c00, c01, f00, f01, l0, l1, l2]; try (first | exact ⟨rfl, rfl⟩ | rfl)) rfl ⟨_, j2, _, _, rfl, HP.out, hj2, ⟨by omega, rfl, ?_, ?_, T1, p1, T2, p2, ?_, ?_, ?_, ?_⟩, ?_⟩
          all_goals go_light
          · first | omega | (simp [size_set] <;> omega)
          · simp [go_sem, size_set, pt]
          · simp [go_sem, size_set, pt]
          · simp [go_sem, size_set, pt]
          · have h1 : w.heap.size + 3 ≤ _ := BX1.out
            exact ((((R1.out.set (a := ⟨w.heap.size, 0, none⟩) (by show w.heap.size < _; omega) _).set (a := ⟨w.heap.size, 1, none⟩) (by show w.heap.size < _; omega) _).alloc _).lower (by omega)).drew
          · have h1 : w.heap.size + 3 ≤ _ := BX2.out
            exact ((((R2.out.set (a := ⟨w.heap.size, 0, none⟩) (by show w.heap.size < _; omega) _).set (a := ⟨w.heap.size, 1, none⟩) (by show w.heap.size < _; omega) _).alloc _).lower (by omega)).drew
          · exact (bal (bset2 V2x.out.1 (Nat.le_refl _) _ _) _).drew
end Go.Proofs.YtpgkbpgfiblboaaR.i32
