/- The callbacks of the law: each appends the location and the node. No conditions beyond the hypotheses. -/
import Derived.Test.YtiejadamfgbidabFeD
namespace Go.Proofs.Ytiejadamfgbidab.fore
open Go.ChangeShapes Go.WideShapes Go.ChangeAt Go.RowKit Go.Mine
open find (Kp ptr lv own_ne own_set own_below own_form1 cells_new info21 own_form)
set_option linter.unusedVariables false
set_option linter.unusedSimpArgs false
set_option maxRecDepth 100000

theorem info50 : (Try.prog.info? 50).map (fun i => (i.zero, i.size, i.bytes)) = some (some (.pointer none), 1, 8) := by kernel_rfl
def nd (x : Nat × Int) : Value := ptr x.1
/-- The two captured variables and what they hold. -/
structure Cb (B P1 P2 n : Nat) (xs : List (Nat × Int)) (a1 : Option Addr) (c1 : Nat) (a2 : Option Addr) (c2 : Nat) (w : World) : Prop where
  b1 : Blk w P1 #[.slice a1 n c1] 47
  b2 : Blk w P2 #[.slice a2 n c2] 83
  o1 : w.ownsRow B 21 1 (.slice a1 n c1) n (xs.map lv)
  o2 : w.ownsRow B 50 1 (.slice a2 n c2) n (xs.map nd)
  h1 : B ≤ P1
  h2 : B ≤ P2
theorem Cb.below {B P1 P2 n : Nat} {xs : List (Nat × Int)} {a1 : Option Addr} {c1 : Nat} {a2 : Option Addr} {c2 : Nat} {w w' : World} (h : Cb B P1 P2 n xs a1 c1 a2 c2 w) (hb : Below w.heap.size w w') : Cb B P1 P2 n xs a1 c1 a2 c2 w' :=
  ⟨h.b1.below hb, h.b2.below hb, own_below h.o1 hb, own_below h.o2 hb, h.h1, h.h2⟩
theorem blk_t {w : World} {p : Nat} {C D : Array Value} {t u : TypeId} (h : Blk w p C t) (k : Blk w p D u) : t = u := by
  unfold Blk at h k
  rw [h] at k
  injection k with e
  injection e
theorem own_2 {w : World} {B B' e e' s s' n n' : Nat} {v v' : Value} {xs xs' : List Value} (h : w.ownsRow B e s v n xs) (k : w.ownsRow B' e' s' v' n' xs') (he : e ≠ e') : v.ownBlock = none ∨ v.ownBlock ≠ v'.ownBlock := by
  rcases h.2 with ⟨rfl, _⟩ | ⟨g, cap, cur, rfl, hb, hg, rest⟩
  · exact .inl rfl
  · refine .inr (fun e1 => own_ne k (show Blk w g cur e from hg) he e1.symm)
theorem own_store {w : World} {B n : Nat} {e s : Nat} {v : Value} {xs : List Value} {p : Nat} {C : Array Value} {t : TypeId} (h : w.ownsRow B e s v n xs) (hp : Blk w p C t) (ht : t ≠ e) (u : Value) : (w.setCell ⟨p, 0, none⟩ u).ownsRow B e s v n xs := own_set h hp ht u
/-- Behind the first append and its store. -/
structure Mid (B P1 P2 n : Nat) (xs : List (Nat × Int)) (l : Int) (a1 : Option Addr) (c1 : Nat) (a2 : Option Addr) (c2 : Nat) (w w' : World) : Prop where
  b1 : Blk w' P1 #[.slice a1 (n + 1) c1] 47
  b2 : Blk w' P2 #[.slice a2 n c2] 83
  o1 : w'.ownsRow B 21 1 (.slice a1 (n + 1) c1) (n + 1) (xs.map lv ++ [.int .i32 l])
  o2 : w'.ownsRow B 50 1 (.slice a2 n c2) n (xs.map nd)
  bel : Below B w w'
section
variable {B P1 P2 n : Nat} {xs : List (Nat × Int)} {a1 : Option Addr} {c1 : Nat} {a2 : Option Addr} {c2 : Nat} {w w3 : World}
theorem cb_one (h : Cb B P1 P2 n xs a1 c1 a2 c2 w) (hB : B ≤ w.heap.size) {o1 o2 : Obj} (hg : ((w.alloc o1).alloc o2).grownBy w3 (Value.slice a1 n c1).ownBlock) : Blk w3 P1 #[.slice a1 n c1] 47 ∧ Blk w3 P2 #[.slice a2 n c2] 83 ∧ w3.ownsRow B 50 1 (.slice a2 n c2) n (xs.map nd) ∧ Below B w w3 := by
  have k1 := (h.b1.alloc o1).alloc o2
  have k2 := (h.b2.alloc o1).alloc o2
  have q1 := (h.o1.alloc o1).alloc o2
  have q2 := (h.o2.alloc o1).alloc o2
  refine ⟨(hg.block P1 k1.lt (fun e => own_ne q1 k1 (by decide) e.symm)).trans k1, (hg.block P2 k2.lt (fun e => own_ne q1 k2 (by decide) e.symm)).trans k2, q2.kept hg (own_2 q2 q1 (by decide)), ?_⟩
  exact Below.grown (((Below.refl B w).alloc hB _).alloc (by simp; omega) _) hg (by simp; omega) (fun k hk => (h.o1.lt k hk).1)
theorem cb_mid (h : Cb B P1 P2 n xs a1 c1 a2 c2 w) (hB : B ≤ w.heap.size) {o1 o2 : Obj} (hg : ((w.alloc o1).alloc o2).grownBy w3 (Value.slice a1 n c1).ownBlock) {l : Int} {a1' : Option Addr} {c1' : Nat}
    (hown : w3.ownsRow B 21 1 (.slice a1' (n + 1) c1') (n + 1) (xs.map lv ++ [.int .i32 l])) : Mid B P1 P2 n xs l a1' c1' a2 c2 w (w3.setCell ⟨P1, 0, none⟩ (.slice a1' (n + 1) c1')) := by
  obtain ⟨k1, k2, q2, hb⟩ := cb_one h hB hg
  refine ⟨by simpa using k1.set 0 (.slice a1' (n + 1) c1'), k2.setOther (a := ⟨P1, 0, none⟩) (fun e => ?_) _, own_store hown k1 (by decide) _, own_store q2 k1 (by decide) _, hb.setCell (p := ⟨P1, 0, none⟩) h.h1 _⟩
  have e : P2 = P1 := e
  subst e
  exact absurd (blk_t k1 k2) (by decide)
theorem mid_one {l : Int} {W : World} (h : Mid B P1 P2 n xs l a1 c1 a2 c2 w W) (hB : B ≤ W.heap.size) {o : Obj} (hg : (W.alloc o).grownBy w3 (Value.slice a2 n c2).ownBlock) : Blk w3 P1 #[.slice a1 (n + 1) c1] 47 ∧ Blk w3 P2 #[.slice a2 n c2] 83 ∧ w3.ownsRow B 21 1 (.slice a1 (n + 1) c1) (n + 1) (xs.map lv ++ [.int .i32 l]) ∧ Below B w w3 := by
  have k1 := h.b1.alloc o
  have k2 := h.b2.alloc o
  have q1 := h.o1.alloc o
  have q2 := h.o2.alloc o
  refine ⟨(hg.block P1 k1.lt (fun e => own_ne q2 k1 (by decide) e.symm)).trans k1, (hg.block P2 k2.lt (fun e => own_ne q2 k2 (by decide) e.symm)).trans k2, q1.kept hg (own_2 q1 q2 (by decide)), ?_⟩
  exact Below.grown (h.bel.alloc hB _) hg (by simp; omega) (fun k hk => (h.o2.lt k hk).1)
theorem cb_two {l : Int} {W : World} (h : Mid B P1 P2 n xs l a1 c1 a2 c2 w W) (h1 : B ≤ P1) (h2 : B ≤ P2) (hB : B ≤ W.heap.size) {o : Obj} (hg : (W.alloc o).grownBy w3 (Value.slice a2 n c2).ownBlock) {p : Nat} {a2' : Option Addr} {c2' : Nat}
    (hown : w3.ownsRow B 50 1 (.slice a2' (n + 1) c2') (n + 1) (xs.map nd ++ [ptr p])) : Cb B P1 P2 (n + 1) (xs ++ [(p, l)]) a1 c1 a2' c2' (w3.setCell ⟨P2, 0, none⟩ (.slice a2' (n + 1) c2')) ∧ Below B w (w3.setCell ⟨P2, 0, none⟩ (.slice a2' (n + 1) c2')) := by
  obtain ⟨k1, k2, q1, hb⟩ := mid_one h hB hg
  refine ⟨⟨k1.setOther (a := ⟨P2, 0, none⟩) (fun e => ?_) _, by simpa using k2.set 0 (.slice a2' (n + 1) c2'), ?_, ?_, h1, h2⟩, hb.setCell (p := ⟨P2, 0, none⟩) h2 _⟩
  · have e : P1 = P2 := e
    subst e
    exact absurd (blk_t k1 k2) (by decide)
  · rw [List.map_append]; exact own_store q1 k2 (by decide) _
  · rw [List.map_append]; exact own_store hown k2 (by decide) _
end
def CbR (B P1 P2 n : Nat) (xs : List (Nat × Int)) (w : World) (e : Ending) (w' : World) : Prop := e = .returned (.tuple #[]) ∧ ∃ a1 c1 a2 c2, Cb B P1 P2 n xs a1 c1 a2 c2 w' ∧ Below B w w'
set_option maxHeartbeats 4000000 in
theorem cb27 (B P1 P2 n : Nat) (xs : List (Nat × Int)) (a1 : Option Addr) (c1 : Nat) (a2 : Option Addr) (c2 : Nat) (w : World) (p : Nat) (l : Int) (h : Cb B P1 P2 n xs a1 c1 a2 c2 w) (hB : B ≤ w.heap.size) (hn : n ≤ 200000) :
    Calls Try.prog 27 #[.agg #[.int .i32 l], .pointer (some ⟨p, 0, none⟩), .pointer (some ⟨P1, 0, none⟩), .pointer (some ⟨P2, 0, none⟩)] w (CbR B P1 P2 (n + 1) (xs ++ [(p, l)]) w) := by
  obtain ⟨i0, hi, hz0, hz1, hz2⟩ := info_parts info21
  obtain ⟨j0, hj, hy0, hy1, hy2⟩ := info_parts info50
  have H := Lib.hid h
  have d0 : w.cell? ⟨P1, 0, none⟩ = some (.slice a1 n c1) := h.b1.cell 0
  have d1 : w.cell? ⟨P2, 0, none⟩ = some (.slice a2 n c2) := h.b2.cell 0
  have d2 := h.b1.lt
  have d3 := h.b2.lt
  have d4 := Nat.lt_succ_of_lt d2
  have d5 := Nat.lt_succ_of_lt d3
  have hnew := cells_new (w.alloc (.cells #[.int .i32 l] 30)) [.int .i32 l] 21
  rw [show (w.alloc (.cells #[.int .i32 l] 30)).heap.size = w.heap.size + 1 by simp] at hnew
  clear h
  go_enter Try.func27, Try.ntmps27
  go_upto_region 2 with (first | (at_builtin; (refine wpList_append_own _ rfl _ _ 47 rfl B 21 i0 (.int .i32 0) 1 4 Try.underlying47 hi hz0 hz1 hz2 rfl (by decide) _ _ _ rfl ((H.out.o1.alloc _).alloc _) ⟨w.heap.size + 1, 0, none⟩ 1 1 [.int .i32 l] rfl rfl hnew (fun x hx => by simp at hx; subst hx; rfl) (by unfold maxLen; omega) (by omega) (by simp; omega) ?_); intro v3 w3 hown3 hgrow3 hnil3; obtain ⟨a1', c1', rfl⟩ := own_form hown3; have k1 := cb_one H.out hB hgrow3; have k2 : w3.cell? ⟨P1, 0, none⟩ = some (.slice a1 n c1) := k1.1.cell 0; have k3 := k1.1.free 0; have k4 := k1.1.lt; have M := Lib.hid (cb_mid H.out hB hgrow3 hown3); clear hown3 hgrow3 hnil3 k1))
  have e0 : (w3.setCell ⟨P1, 0, none⟩ (.slice a1' (n + 1) c1')).cell? ⟨P2, 0, none⟩ = some (.slice a2 n c2) := M.out.b2.cell 0
  have e1 := M.out.b2.lt
  have e2 := Nat.lt_succ_of_lt e1
  have hBW : B ≤ (w3.setCell ⟨P1, 0, none⟩ (.slice a1' (n + 1) c1')).heap.size := by have := M.out.bel.size; omega
  clear d0 d1 d2 d3 d4 d5 k2 k3 k4 hnew
  generalize w3.setCell ⟨P1, 0, none⟩ (.slice a1' (n + 1) c1') = W at *
  have hnew := cells_new W [.pointer (some ⟨p, 0, none⟩)] 50
  go_wp2_with (first | (at_builtin; (refine wpList_append_own _ rfl _ _ 83 rfl B 50 j0 (.pointer none) 1 8 Try.underlying83 hj hy0 hy1 hy2 rfl (by decide) _ _ _ rfl (M.out.o2.alloc _) ⟨W.heap.size, 0, none⟩ 1 1 [.pointer (some ⟨p, 0, none⟩)] rfl rfl hnew (fun x hx => by simp at hx; subst hx; rfl) (by unfold maxLen; omega) (by omega) (by simp; omega) ?_); intro v5 w5 hown5 hgrow5 hnil5; obtain ⟨a2', c2', rfl⟩ := own_form hown5; have k1 := mid_one M.out hBW hgrow5; have k2 : w5.cell? ⟨P2, 0, none⟩ = some (.slice a2 n c2) := k1.2.1.cell 0; have k3 := k1.2.1.free 0; have k4 := k1.2.1.lt; have R := Lib.hid (cb_two M.out H.out.h1 H.out.h2 hBW hgrow5 hown5); clear hown5 hgrow5 hnil5 k1))
  go_wp2_with fail
  go_end0
  exact ⟨rfl, _, _, _, _, R.out.1, R.out.2⟩
set_option maxHeartbeats 4000000 in
theorem cb28 (B P1 P2 n : Nat) (xs : List (Nat × Int)) (a1 : Option Addr) (c1 : Nat) (a2 : Option Addr) (c2 : Nat) (w : World) (p : Nat) (l : Int) (h : Cb B P1 P2 n xs a1 c1 a2 c2 w) (hB : B ≤ w.heap.size) (hn : n ≤ 200000) :
    Calls Try.prog 28 #[.agg #[.int .i32 l], .pointer (some ⟨p, 0, none⟩), .pointer (some ⟨P1, 0, none⟩), .pointer (some ⟨P2, 0, none⟩)] w (CbR B P1 P2 (n + 1) (xs ++ [(p, l)]) w) := by
  obtain ⟨i0, hi, hz0, hz1, hz2⟩ := info_parts info21
  obtain ⟨j0, hj, hy0, hy1, hy2⟩ := info_parts info50
  have H := Lib.hid h
  have d0 : w.cell? ⟨P1, 0, none⟩ = some (.slice a1 n c1) := h.b1.cell 0
  have d1 : w.cell? ⟨P2, 0, none⟩ = some (.slice a2 n c2) := h.b2.cell 0
  have d2 := h.b1.lt
  have d3 := h.b2.lt
  have d4 := Nat.lt_succ_of_lt d2
  have d5 := Nat.lt_succ_of_lt d3
  have hnew := cells_new (w.alloc (.cells #[.int .i32 l] 30)) [.int .i32 l] 21
  rw [show (w.alloc (.cells #[.int .i32 l] 30)).heap.size = w.heap.size + 1 by simp] at hnew
  clear h
  go_enter Try.func28, Try.ntmps28
  go_upto_region 2 with (first | (at_builtin; (refine wpList_append_own _ rfl _ _ 47 rfl B 21 i0 (.int .i32 0) 1 4 Try.underlying47 hi hz0 hz1 hz2 rfl (by decide) _ _ _ rfl ((H.out.o1.alloc _).alloc _) ⟨w.heap.size + 1, 0, none⟩ 1 1 [.int .i32 l] rfl rfl hnew (fun x hx => by simp at hx; subst hx; rfl) (by unfold maxLen; omega) (by omega) (by simp; omega) ?_); intro v3 w3 hown3 hgrow3 hnil3; obtain ⟨a1', c1', rfl⟩ := own_form hown3; have k1 := cb_one H.out hB hgrow3; have k2 : w3.cell? ⟨P1, 0, none⟩ = some (.slice a1 n c1) := k1.1.cell 0; have k3 := k1.1.free 0; have k4 := k1.1.lt; have M := Lib.hid (cb_mid H.out hB hgrow3 hown3); clear hown3 hgrow3 hnil3 k1))
  have e0 : (w3.setCell ⟨P1, 0, none⟩ (.slice a1' (n + 1) c1')).cell? ⟨P2, 0, none⟩ = some (.slice a2 n c2) := M.out.b2.cell 0
  have e1 := M.out.b2.lt
  have e2 := Nat.lt_succ_of_lt e1
  have hBW : B ≤ (w3.setCell ⟨P1, 0, none⟩ (.slice a1' (n + 1) c1')).heap.size := by have := M.out.bel.size; omega
  clear d0 d1 d2 d3 d4 d5 k2 k3 k4 hnew
  generalize w3.setCell ⟨P1, 0, none⟩ (.slice a1' (n + 1) c1') = W at *
  have hnew := cells_new W [.pointer (some ⟨p, 0, none⟩)] 50
  go_wp2_with (first | (at_builtin; (refine wpList_append_own _ rfl _ _ 83 rfl B 50 j0 (.pointer none) 1 8 Try.underlying83 hj hy0 hy1 hy2 rfl (by decide) _ _ _ rfl (M.out.o2.alloc _) ⟨W.heap.size, 0, none⟩ 1 1 [.pointer (some ⟨p, 0, none⟩)] rfl rfl hnew (fun x hx => by simp at hx; subst hx; rfl) (by unfold maxLen; omega) (by omega) (by simp; omega) ?_); intro v5 w5 hown5 hgrow5 hnil5; obtain ⟨a2', c2', rfl⟩ := own_form hown5; have k1 := mid_one M.out hBW hgrow5; have k2 : w5.cell? ⟨P2, 0, none⟩ = some (.slice a2 n c2) := k1.2.1.cell 0; have k3 := k1.2.1.free 0; have k4 := k1.2.1.lt; have R := Lib.hid (cb_two M.out H.out.h1 H.out.h2 hBW hgrow5 hown5); clear hown5 hgrow5 hnil5 k1))
  go_wp2_with fail
  go_end0
  exact ⟨rfl, _, _, _, _, R.out.1, R.out.2⟩
end Go.Proofs.Ytiejadamfgbidab.fore
