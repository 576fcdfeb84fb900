/- The forest of scopes in memory, and the contracts of its readers and of 'popScope'. No conditions beyond the hypotheses. -/
import Derived.Test.YtocljdbihcikhaaFmtPshP
import Derived.Test.YtocljdbihcikhaaFmtRows
import Derived.Outline
import Derived.BigQuiet
import Derived.Deep.RegionLaw
import Derived.Deep.RegionWith
import Derived.Deep.AppendLies
import Derived.Deep.DeepCutAuto
import Derived.Deep.LoopGhost
namespace Go.Proofs.YtocljdbihcikhaaFmt.psh
open Go.ChangeShapes Go.WideShapes Go.ChangeAt Go.RowKit Go.Mine
set_option linter.unusedVariables false
set_option linter.unusedSimpArgs false
set_option maxRecDepth 100000

/-- A pointer to a whole block, or nil. -/
@[reducible] def pt : Option Nat → Value
  | none => .pointer none
  | some b => .pointer (some ⟨b, 0, none⟩)
/-- The cells of a scope. -/
abbrev scC (kd : Int) (par ch : Value) (mb : Nat) : Array Value :=
  #[.pointer none, par, ch, .map (some mb), .slice none 0 0, .slice none 0 0, .int .i32 0, .int .i32 0, .int .u32 4294967295, .int .u32 4294967295, .bool false, .bool false, .bool false, .bool false, .int .u8 0, .int .u8 kd]
/-- What the variable 'InvalidRef' holds. -/
structure IRef (w : World) : Prop where
  c0 : w.cell? ⟨0, 0, none⟩ = some (.int .u32 4294967295)
  c1 : w.cell? ⟨0, 1, none⟩ = some (.int .u32 4294967295)
theorem IRef.below {w w' : World} (h : IRef w) (hb : Below w.heap.size w w') : IRef w' := ⟨bcell hb h.c0, bcell hb h.c1⟩
theorem IRef.far {lo : Nat} {w w' : World} (h : IRef w) (hb : Below lo w w') (hl : 0 < lo) : IRef w' :=
  ⟨(hb.cell (p := ⟨0, 0, none⟩) hl).trans h.c0, (hb.cell (p := ⟨0, 1, none⟩) hl).trans h.c1⟩
/-- The forest: n scopes, m of them in the parser's row, the current one, each one's parent, kind, place and children; where they lie. -/
structure Fo (p n m : Nat) (cu : Option Nat) (par : Nat → Option Nat) (kd lc : Nat → Int) (nc : Nat → Nat) (chs : Nat → Nat → Nat) (sa mb : Nat → Nat) (F : Nat → Rw) (H : Nat → Option Obj) : Prop where
  pars : ∃ C, H p = some (.cells C 174 (0, 0)) ∧ C[104]? = some (pt (cu.map sa)) ∧ C[177]? = some (F 7).v
  e7 : (F 7).e = 176
  z7 : (F 7).z = 2
  n7 : (F 7).n = m
  x7 : ∀ j, j < m → (F 7).xs[j * 2]? = some (pt (some (sa j))) ∧ (F 7).xs[j * 2 + 1]? = some (.int .i32 (lc j))
  ec : ∀ q, (F (8 + q)).e = 31
  zc : ∀ q, (F (8 + q)).z = 1
  nn : ∀ q, (F (8 + q)).n = nc q
  xc : ∀ q c, c < nc q → (F (8 + q)).xs[c]? = some (pt (some (sa (chs q c))))
  vn : ∀ q, n ≤ q → nc q = 0 ∧ (F (8 + q)).v = .slice none 0 0
  scp : ∀ j, j < n → H (sa j) = some (.cells (scC (kd j) (pt ((par j).map sa)) (F (8 + j)).v (mb j)) 50 (0, 0)) ∧ H (mb j) = some (.map #[] 0)
  inj : ∀ i j, i < n → j < n → sa i = sa j → i = j
  cul : ∀ q, cu = some q → q < n
  parl : ∀ j q, j < n → par j = some q → q < n
  chl : ∀ q c, c < nc q → chs q c < n
  ncs : ∀ q, nc q ≤ n
  ml : m ≤ n
section
variable {p n m : Nat} {cu : Option Nat} {par : Nat → Option Nat} {kd lc : Nat → Int} {nc : Nat → Nat} {chs : Nat → Nat → Nat} {sa mb : Nat → Nat} {lo : Nat} {L : Nat → Nat} {F : Nat → Rw} {H : Nat → Option Obj} {w : World}
theorem ST.form (h : ST lo L F H w) {l : Nat} (hl : l ≠ 0) : ∃ a c, (F l).v = .slice a (F l).n c ∧ (F l).n ≤ c ∧ c ≤ maxLen := by
  rcases (h.row l hl).2 with ⟨h1, h2⟩ | ⟨g, c, cur, h1, _, _, h3, h4, _⟩
  · exact ⟨none, 0, by rw [h1, h2], by omega, Nat.zero_le _⟩
  · exact ⟨_, c, h1, h3, h4⟩
theorem ST.blk (h : ST lo L F H w) {b : Nat} {C : Array Value} {t : TypeId} (hb : H b = some (.cells C t (0, 0))) : Blk w b C t := (h.box b _ hb).1
theorem ST.lob (h : ST lo L F H w) {b : Nat} {o : Obj} (hb : H b = some o) : lo ≤ b ∧ b < w.heap.size := ⟨(h.box b _ hb).2.2, heap_lt (h.box b _ hb).1⟩
theorem Fo.cur (f : Fo p n m cu par kd lc nc chs sa mb F H) (h : ST lo L F H w) : w.cell? ⟨p, 104, none⟩ = some (pt (cu.map sa)) := by
  obtain ⟨C, h1, h2, _⟩ := f.pars
  rw [(h.blk h1).cell, h2]
theorem Fo.sio (f : Fo p n m cu par kd lc nc chs sa mb F H) (h : ST lo L F H w) : ∃ a c, w.cell? ⟨p, 177, none⟩ = some (.slice a m c) ∧ (F 7).v = .slice a m c := by
  obtain ⟨C, h1, _, h2⟩ := f.pars
  obtain ⟨a, c, hv, _⟩ := h.form (l := 7) (by decide)
  rw [f.n7] at hv
  exact ⟨a, c, by rw [(h.blk h1).cell, h2, hv], hv⟩
theorem Fo.at7 (f : Fo p n m cu par kd lc nc chs sa mb F H) (h : ST lo L F H w) {j : Nat} (hj : j < m) :
    ∃ g c, w.cell? ⟨p, 177, none⟩ = some (.slice (some ⟨g, 0, none⟩) m c) ∧ w.cell? ⟨g, j * 2, none⟩ = some (pt (some (sa j))) ∧ w.cell? ⟨g, j * 2 + 1, none⟩ = some (.int .i32 (lc j)) ∧ g < w.heap.size := by
  obtain ⟨a, c, h1, hv⟩ := f.sio h
  obtain ⟨x0, x1⟩ := f.x7 j hj
  obtain ⟨g, ha, hg, c0, _⟩ := h.at (l := 7) (by decide) hv x0
  obtain ⟨g', ha', _, c1, _⟩ := h.at (l := 7) (by decide) hv x1
  subst ha
  injection ha' with ha'
  injection ha' with ha'
  subst ha'
  exact ⟨g, c, h1, c0, c1, hg⟩
theorem Fo.sc (f : Fo p n m cu par kd lc nc chs sa mb F H) (h : ST lo L F H w) {j : Nat} (hj : j < n) : Blk w (sa j) (scC (kd j) (pt ((par j).map sa)) (F (8 + j)).v (mb j)) 50 := h.blk (f.scp j hj).1
theorem Fo.chv (f : Fo p n m cu par kd lc nc chs sa mb F H) (h : ST lo L F H w) (j : Nat) : ∃ a c, (F (8 + j)).v = .slice a (nc j) c := by
  obtain ⟨a, c, hv, _⟩ := h.form (l := 8 + j) (by omega)
  rw [f.nn] at hv
  exact ⟨a, c, hv⟩
theorem Fo.nep (f : Fo p n m cu par kd lc nc chs sa mb F H) {j : Nat} (hj : j < n) : sa j ≠ p ∧ mb j ≠ p ∧ ∀ i, i < n → mb j ≠ sa i := by
  obtain ⟨C, h1, _⟩ := f.pars
  obtain ⟨h2, h3⟩ := f.scp j hj
  refine ⟨fun e => ?_, fun e => ?_, fun i hi e => ?_⟩
  · rw [e, h1] at h2
    cases h2
  · rw [e, h1] at h3
    cases h3
  · rw [e, (f.scp i hi).1] at h3
    cases h3
end
theorem cur8 (p : Nat) (v : Value) (w : World) (h0 : w.cell? ⟨p, 104, none⟩ = some v) : Calls Tryf.prog 8 #[.pointer (some ⟨p, 0, none⟩)] w fun e w' => e = .returned v ∧ w = w' := by
  go_enter Tryf.func8, Tryf.ntmps8
  go_wp2
  go_ret
  exact ⟨rfl, rfl⟩
theorem len11 (p n c : Nat) (a : Option Addr) (w : World) (h0 : w.cell? ⟨p, 177, none⟩ = some (.slice a n c)) : Calls Tryf.prog 11 #[.pointer (some ⟨p, 0, none⟩)] w fun e w' => e = .returned (.int .i64 n) ∧ w = w' := by
  go_enter Tryf.func11, Tryf.ntmps11
  go_wp2
  go_ret
  exact ⟨rfl, rfl⟩
theorem at9 (p g n c j : Nat) (v : Value) (w : World) (h0 : w.cell? ⟨p, 177, none⟩ = some (.slice (some ⟨g, 0, none⟩) n c)) (hj : j < n) (hn : n ≤ 1048576) (hc : w.cell? ⟨g, j * 2, none⟩ = some v) :
    Calls Tryf.prog 9 #[.pointer (some ⟨p, 0, none⟩), .int .i64 j] w fun e w' => e = .returned v ∧ w = w' := by
  have hi' : (j : Int) < (n : Int) := by omega
  go_enter Tryf.func9, Tryf.ntmps9
  go_wp2
  go_ret
  exact ⟨rfl, rfl⟩
theorem loc12 (p g n c j : Nat) (v : Value) (w : World) (h0 : w.cell? ⟨p, 177, none⟩ = some (.slice (some ⟨g, 0, none⟩) n c)) (hj : j < n) (hn : n ≤ 1048576) (hc : w.cell? ⟨g, j * 2 + 1, none⟩ = some v) :
    Calls Tryf.prog 12 #[.pointer (some ⟨p, 0, none⟩), .int .i64 j] w fun e w' => e = .returned v ∧ w = w' := by
  have hi' : (j : Int) < (n : Int) := by omega
  go_enter Tryf.func12, Tryf.ntmps12
  go_wp2
  go_ret
  exact ⟨rfl, rfl⟩
section
variable {p n m : Nat} {cu : Option Nat} {par : Nat → Option Nat} {kd lc : Nat → Int} {nc : Nat → Nat} {chs : Nat → Nat → Nat} {sa mb : Nat → Nat} {lo : Nat} {L : Nat → Nat} {F : Nat → Rw} {H : Nat → Option Obj} {w : World}
/-- The current scope is turned. -/
theorem Fo.turn (f : Fo p n m cu par kd lc nc chs sa mb F H) (h : ST lo L F H w) {cu' : Option Nat} (hc : ∀ q, cu' = some q → q < n) :
    ∃ H', ST lo L F H' (w.setCell ⟨p, 104, none⟩ (pt (cu'.map sa))) ∧ Fo p n m cu' par kd lc nc chs sa mb F H' := by
  have f0 := f
  obtain ⟨C, h1, h2, h3⟩ := f.pars
  have hs : 104 < C.size := (Array.getElem?_eq_some_iff.1 h2).1
  refine ⟨_, h.setBox h1 _, ⟨⟨_, up_at _ _ _, ?_, ?_⟩, f.e7, f.z7, f.n7, f.x7, f.ec, f.zc, f.nn, f.xc, f.vn, fun j hj => ?_, f.inj, hc, f.parl, f.chl, f.ncs, f.ml⟩⟩
  · rw [Array.getElem?_setIfInBounds_self_of_lt hs]
  · rw [Array.getElem?_setIfInBounds_ne (by decide)]
    exact h3
  · obtain ⟨n1, n2, _⟩ := f0.nep hj
    rw [up_ne _ _ n1, up_ne _ _ n2]
    exact f.scp j hj
set_option maxHeartbeats 1000000 in
theorem pop13 {q : Nat} (f : Fo p n m (some q) par kd lc nc chs sa mb F H) (h : ST lo L F H w) :
    Calls Tryf.prog 13 #[.pointer (some ⟨p, 0, none⟩)] w fun e w' => e = .returned (.tuple #[]) ∧ w' = w.setCell ⟨p, 104, none⟩ (pt ((par q).map sa)) := by
  have h0 : w.cell? ⟨p, 104, none⟩ = some (.pointer (some ⟨sa q, 0, none⟩)) := f.cur h
  have hb := f.sc h (f.cul q rfl)
  have h1 := hb.cell 11
  have h2 := hb.cell 1
  simp at h1 h2
  obtain ⟨C, k1, _⟩ := f.pars
  have f0 := (h.blk k1).free 104
  have hl := (h.blk k1).lt
  have hl2 := hb.lt
  clear hb k1 f h
  generalize par q = o at *
  cases o <;> simp only [Option.map, pt] at *
  all_goals
    go_enter Tryf.func13, Tryf.ntmps13
    go_wp2
    go_end0
    exact ⟨rfl, rfl⟩
theorem pop7 {q : Nat} (f : Fo p n m (some q) par kd lc nc chs sa mb F H) (h : ST lo L F H w) :
    Calls Tryf.prog 7 #[.pointer (some ⟨p, 0, none⟩)] w fun e w' => e = .returned (.tuple #[]) ∧ w' = w.setCell ⟨p, 104, none⟩ (pt ((par q).map sa)) := by
  have HP := Lib.hid (pop13 f h)
  clear f h
  go_enter Tryf.func7, Tryf.ntmps7
  go_wp2_with (first | (go_at_call 13; (with_reducible refine HP.out.mono ?_); rintro e w1 ⟨rfl, rfl⟩))
  go_end0
  exact ⟨rfl, rfl⟩
end
end Go.Proofs.YtocljdbihcikhaaFmt.psh
