/- The push's wrapper; the law's six rows. No conditions beyond the hypotheses. -/
import Derived.Test.YtocljdbihcikhaaFmtPshE
namespace Go.Proofs.YtocljdbihcikhaaFmt.psh
open Go.ChangeShapes Go.WideShapes Go.ChangeAt Go.RowKit Go.Mine
set_option linter.unusedVariables false
set_option linter.unusedSimpArgs false
set_option maxRecDepth 100000

theorem bytes4 (a : Option Addr) (len cap : Nat) (b : Int) (w : World) (h : len ≤ 9223372036854775807) :
    Calls Tryf.prog 4 #[.slice a len cap, .int .i32 b] w fun e w' => e = .returned (.bool (decide (len ≤ 1048576))) ∧ w = w' := by
  by_cases h1 : len ≤ 1048576
  · rw [decide_eq_true h1]
    go_enter Tryf.func4, Tryf.ntmps4
    go_wp2
    go_ret
    exact ⟨rfl, rfl⟩
  · rw [decide_eq_false h1]
    go_enter Tryf.func4, Tryf.ntmps4
    go_wp2
    go_ret
    exact ⟨rfl, rfl⟩
section
variable {p n m : Nat} {cu : Option Nat} {par : Nat → Option Nat} {kd lc : Nat → Int} {nc : Nat → Nat} {chs : Nat → Nat → Nat} {sa mb : Nat → Nat} {lo : Nat} {L : Nat → Nat} {F : Nat → Rw} {H : Nat → Option Obj} {w : World} {k l : Int}
set_option maxHeartbeats 1000000 in
theorem push10 (f : Fo p n n cu par kd lc nc chs sa mb F H) (h : ST lo L F H w) (hI : IRef w) (hk : k = 8 → ∃ q, cu = some q ∧ kd q = 7) (hl : ∀ j, n = j + 1 → lc j < l) (hn : n ≤ 65536) :
    Calls Tryf.prog 10 #[.pointer (some ⟨p, 0, none⟩), .int .u8 k, .int .i32 l] w (Pushed lo p n cu par kd lc nc chs F k l w) := by
  have HP : Hid (Calls Tryf.prog 14 #[.pointer (some ⟨p, 0, none⟩), .int .u8 k, .agg #[.int .i32 l]] w (Pushed lo p n cu par kd lc nc chs F k l w)) := by
    refine Lib.hid ?_
    cases cu with
    | none => exact push14n f h hI (fun e => by obtain ⟨q, hq, _⟩ := hk e; cases hq) hl hn
    | some q => exact push14s f h hI (fun e => by obtain ⟨q', hq, h7⟩ := hk e; cases hq; exact h7) hl hn
  clear f h hI hk hl
  go_enter Tryf.func10, Tryf.ntmps10
  go_wp2_with (first | (go_at_call 14; (with_reducible refine HP.out.mono ?_); rintro e w1 ⟨rfl, hP⟩; have HQ := Lib.hid hP; clear hP))
  go_ret
  exact ⟨rfl, HQ.out⟩
/-- A row's elements, one cell each. -/
structure Rs (r : Rw) (e n : Nat) (f : Nat → Value) : Prop where
  he : r.e = e
  hz : r.z = 1
  hn : r.n = n
  hx : ∀ j, j < n → r.xs[j]? = some (f j)
theorem Fo.other (f : Fo p n m cu par kd lc nc chs sa mb F H) {l : Nat} (hl : l < 7) (r : Rw) : Fo p n m cu par kd lc nc chs sa mb (up F l r) H := by
  have e7 : up F l r 7 = F 7 := up_ne _ _ (by omega)
  have e8 : ∀ q, up F l r (8 + q) = F (8 + q) := fun q => up_ne _ _ (by omega)
  obtain ⟨a0, a1, a2, a3, a4, a5, a6, a7, a8, a9, b0, b1, b2, b3, b4, b5, b6⟩ := f
  refine ⟨by rw [e7]; exact a0, by rw [e7]; exact a1, by rw [e7]; exact a2, by rw [e7]; exact a3, by rw [e7]; exact a4, fun q => by rw [e8]; exact a5 q, fun q => by rw [e8]; exact a6 q, fun q => by rw [e8]; exact a7 q, fun q => by rw [e8]; exact a8 q, fun q => by rw [e8]; exact a9 q, fun q => by rw [e8]; exact b0 q, b1, b2, b3, b4, b5, b6⟩
theorem Rs.len {r : Rw} {e n : Nat} {f : Nat → Value} (hr : Rs r e n f) {lo' : Nat} (ho : w.ownsRow lo' r.e r.z r.v r.n r.xs) : r.xs.length = n := by
  have := ho.1
  rw [hr.hz, hr.hn] at this
  omega
theorem Rs.form {l e : Nat} {f : Nat → Value} (hr : Rs (F l) e n f) (h : ST lo L F H w) (hl : l ≠ 0) : ∃ a c, (F l).v = .slice a n c ∧ w.ownsRow lo e 1 (.slice a n c) n (F l).xs := by
  obtain ⟨a, c, hv, _⟩ := h.form hl
  have ho := h.row l hl
  rw [hr.hn] at hv
  rw [hr.he, hr.hz, hr.hn, hv] at ho
  exact ⟨a, c, hv, ho⟩
theorem Rs.at {l e : Nat} {f : Nat → Value} (hr : Rs (F l) e n f) (h : ST lo L F H w) (hl : l ≠ 0) {j : Nat} (hj : j < n) {a : Option Addr} {c : Nat} (hv : (F l).v = .slice a n c) :
    ∃ g, a = some ⟨g, 0, none⟩ ∧ w.cell? ⟨g, j, none⟩ = some (f j) ∧ w.frozen? ⟨g, j, none⟩ = false ∧ g < w.heap.size ∧ lo ≤ g := by
  obtain ⟨g, ha, hg, hc, hf, _⟩ := h.at hl hv (hr.hx j hj)
  refine ⟨g, ha, hc, hf, hg, ?_⟩
  have := own_ge (h.row l hl) (g := g) (by rw [hv, ha]; rfl)
  exact this.1
theorem Rs.push {r : Rw} {e : Nat} {f : Nat → Value} (hr : Rs r e n f) (hlen : r.xs.length = n) (v' x : Value) (hx : f n = x) : Rs ⟨r.e, r.z, v', n + 1, r.xs ++ [x]⟩ e (n + 1) f := by
  refine ⟨hr.he, hr.hz, rfl, fun j hj => ?_⟩
  show (r.xs ++ [x])[j]? = _
  by_cases ej : j = n
  · subst ej
    rw [List.getElem?_append_right (by omega), hlen, hx]
    simp
  · rw [List.getElem?_append_left (by omega)]
    exact hr.hx j (by omega)
theorem Rs.congr {r : Rw} {e : Nat} {f f' : Nat → Value} (hr : Rs r e n f) (hf : ∀ j, j < n → f j = f' j) : Rs r e n f' := ⟨hr.he, hr.hz, hr.hn, fun j hj => by rw [← hf j hj]; exact hr.hx j hj⟩
theorem Rs.set {r : Rw} {e : Nat} {f : Nat → Value} (hr : Rs r e n f) (i : Nat) (x : Value) (hi : i < n) : Rs ⟨r.e, r.z, r.v, r.n, r.xs.set i x⟩ e n (up f i x) := by
  refine ⟨hr.he, hr.hz, hr.hn, fun j hj => ?_⟩
  show (r.xs.set i x)[j]? = _
  have hl := (List.getElem?_eq_some_iff.1 (hr.hx j hj)).1
  by_cases ej : j = i
  · subst ej
    rw [up_at, List.getElem?_set_self hl]
  · rw [List.getElem?_set_ne (Ne.symm ej), up_ne _ _ ej]
    exact hr.hx j hj
theorem Rs.cut {r : Rw} {e : Nat} {f : Nat → Value} (hr : Rs r e (n + 1) f) (hz : r.xs.length = n + 1) (v' : Value) : Rs ⟨r.e, r.z, v', n, r.xs.take (n * r.z)⟩ e n f := by
  refine ⟨hr.he, hr.hz, rfl, fun j hj => ?_⟩
  show (r.xs.take (n * r.z))[j]? = _
  rw [hr.hz, Nat.mul_one, List.getElem?_take, if_pos hj]
  exact hr.hx j (by omega)
end
end Go.Proofs.YtocljdbihcikhaaFmt.psh
