/- The forest and the law's six rows, taken together. No conditions beyond the hypotheses. -/
import Derived.Test.YtocljdbihcikhaaFmtPshF
namespace Go.Proofs.YtocljdbihcikhaaFmt.psh
open Go.ChangeShapes Go.WideShapes Go.ChangeAt Go.RowKit Go.Mine
set_option linter.unusedVariables false
set_option linter.unusedSimpArgs false
set_option maxRecDepth 100000

/-- The six rows' elements' types. -/
@[reducible] def ety : Nat → Nat
  | 4 => 34
  | 5 => 21
  | _ => 3
/-- The forest; the six rows: their lengths, elements and slices; nothing older has turned. -/
def Six (lo p n : Nat) (cu : Option Nat) (par : Nat → Option Nat) (kd lc : Nat → Int) (nc : Nat → Nat) (chs : Nat → Nat → Nat) (N : Nat → Nat) (f : Nat → Nat → Value) (v : Nat → Value) (w0 w : World) : Prop :=
  ∃ sa mb L F H, ST lo L F H w ∧ Fo p n n cu par kd lc nc chs sa mb F H ∧ (∀ l, 1 ≤ l → l ≤ 6 → Rs (F l) (ety l) (N l) (f l) ∧ (F l).v = v l) ∧ Below lo w0 w
section
variable {lo p n m : Nat} {cu : Option Nat} {par : Nat → Option Nat} {kd lc : Nat → Int} {nc : Nat → Nat} {chs : Nat → Nat → Nat} {N N' : Nat → Nat} {f f' : Nat → Nat → Value} {v v' : Nat → Value} {w0 w w' : World}
theorem Fo.others {sa mb : Nat → Nat} {F F' : Nat → Rw} {H : Nat → Option Obj} (f : Fo p n m cu par kd lc nc chs sa mb F H) (hF : ∀ j, 7 ≤ j → F' j = F j) : Fo p n m cu par kd lc nc chs sa mb F' H := by
  have e7 := hF 7 (Nat.le_refl _)
  have e8 : ∀ q, F' (8 + q) = F (8 + q) := fun q => hF _ (by omega)
  obtain ⟨a0, a1, a2, a3, a4, a5, a6, a7, a8, a9, b0, b1, b2, b3, b4, b5, b6⟩ := f
  refine ⟨by rw [e7]; exact a0, by rw [e7]; exact a1, by rw [e7]; exact a2, by rw [e7]; exact a3, by rw [e7]; exact a4, fun q => by rw [e8]; exact a5 q, fun q => by rw [e8]; exact a6 q, fun q => by rw [e8]; exact a7 q, fun q => by rw [e8]; exact a8 q, fun q => by rw [e8]; exact a9 q, fun q => by rw [e8]; exact b0 q, b1, b2, b3, b4, b5, b6⟩
theorem Six.congr (h : Six lo p n cu par kd lc nc chs N f v w0 w) (hN : ∀ l, 1 ≤ l → l ≤ 6 → N l = N' l) (hf : ∀ l j, 1 ≤ l → l ≤ 6 → j < N l → f l j = f' l j) (hv : ∀ l, 1 ≤ l → l ≤ 6 → v l = v' l) : Six lo p n cu par kd lc nc chs N' f' v' w0 w := by
  obtain ⟨sa, mb, L, F, H, s, fo, hr, hb⟩ := h
  refine ⟨sa, mb, L, F, H, s, fo, fun l h1 h2 => ?_, hb⟩
  obtain ⟨r1, r2⟩ := hr l h1 h2
  rw [← hN l h1 h2, ← hv l h1 h2]
  exact ⟨r1.congr fun j hj => hf l j h1 h2 hj, r2⟩
theorem Six.below (h : Six lo p n cu par kd lc nc chs N f v w0 w) (hb : Below w.heap.size w w') : Six lo p n cu par kd lc nc chs N f v w0 w' := by
  obtain ⟨sa, mb, L, F, H, s, fo, hr, hb0⟩ := h
  have := fo.lop s
  exact ⟨sa, mb, L, F, H, s.kept hb, fo, hr, hb0.trans (hb.mono (by omega))⟩
theorem Six.bel (h : Six lo p n cu par kd lc nc chs N f v w0 w) : Below lo w0 w ∧ lo ≤ w.heap.size := by
  obtain ⟨sa, mb, L, F, H, s, fo, hr, hb0⟩ := h
  have := fo.lop s
  exact ⟨hb0, by omega⟩
theorem Six.form (h : Six lo p n cu par kd lc nc chs N f v w0 w) (l : Nat) (h1 : 1 ≤ l) (h2 : l ≤ 6) : ∃ a c, v l = .slice a (N l) c := by
  obtain ⟨sa, mb, L, F, H, s, fo, hr, hb0⟩ := h
  obtain ⟨r1, r2⟩ := hr l h1 h2
  obtain ⟨a, c, hv, _⟩ := r1.form s (by omega)
  exact ⟨a, c, by rw [← r2, hv]⟩
/-- What an append onto a row wants and leaves. -/
theorem Six.own (h : Six lo p n cu par kd lc nc chs N f v w0 w) (l : Nat) (h1 : 1 ≤ l) (h2 : l ≤ 6) {a : Option Addr} {k c : Nat} (hv : v l = .slice a k c) (hk : N l = k) :
    ∃ xs, w.ownsRow lo (ety l) 1 (.slice a k c) k xs ∧ ∀ (WA w' : World) (v' x : Value), Below w.heap.size w WA → WA.grownBy w' (Value.slice a k c).ownBlock → w'.ownsRow lo (ety l) 1 v' (k + 1) (xs ++ [x]) → (v'.ownBlock = (Value.slice a k c).ownBlock ∨ v'.ownBlock = some WA.heap.size) → f l k = x →
      Six lo p n cu par kd lc nc chs (up N l (k + 1)) f (up v l v') w0 w' := by
  obtain ⟨sa, mb, L, F, H, s, fo, hr, hb0⟩ := h
  obtain ⟨r1, r2⟩ := hr l h1 h2
  obtain ⟨a', c', hv', ho'⟩ := r1.form s (by omega)
  subst hk
  have e : Value.slice a' (N l) c' = .slice a (N l) c := by rw [← hv', r2, hv]
  injection e with e1 _ e3
  subst e1 e3
  refine ⟨_, ho', fun WA w' v' x hW hg ho hat hx => ?_⟩
  have hlo := fo.lop s
  have hsz := hW.size
  rw [← hv'] at hg hat
  obtain ⟨L', s2⟩ := (s.kept hW).grow (l := l) (by omega) (n' := N l + 1) hg (by rw [r1.he, r1.hz]; exact ho) hat
  refine ⟨sa, mb, L', _, H, s2, fo.others (fun j hj => up_ne _ _ (by omega)), fun l' g1 g2 => ?_, ?_⟩
  · by_cases e : l' = l
    · subst e
      rw [up_at, up_at, up_at]
      have hl : (F l').xs.length = N l' := by have := ho'.1; omega
      exact ⟨r1.push hl _ _ hx, rfl⟩
    · rw [up_ne _ _ e, up_ne _ _ e, up_ne _ _ e]
      exact hr l' g1 g2
  · exact Below.grown (hb0.trans (hW.mono (by omega))) hg (by omega) (fun g hg => (own_ge (s.row l (by omega)) hg).1)
theorem Six.rd (h : Six lo p n cu par kd lc nc chs N f v w0 w) (l : Nat) (h1 : 1 ≤ l) (h2 : l ≤ 6) {a : Option Addr} {k c : Nat} (hv : v l = .slice a k c) {j : Nat} (hj : j < N l) :
    ∃ g, a = some ⟨g, 0, none⟩ ∧ w.cell? ⟨g, j, none⟩ = some (f l j) ∧ w.frozen? ⟨g, j, none⟩ = false ∧ g < w.heap.size := by
  obtain ⟨sa, mb, L, F, H, s, fo, hr, hb0⟩ := h
  obtain ⟨r1, r2⟩ := hr l h1 h2
  obtain ⟨a', c', hv', _⟩ := r1.form s (by omega)
  have e : Value.slice a' (N l) c' = .slice a k c := by rw [← hv', r2, hv]
  injection e with e1 e2 e3
  subst e1
  obtain ⟨g, ha, hc, hf, hg, _⟩ := r1.at s (by omega) hj hv'
  exact ⟨g, ha, hc, hf, hg⟩
theorem Six.setAt (h : Six lo p n cu par kd lc nc chs N f v w0 w) (l : Nat) (h1 : 1 ≤ l) (h2 : l ≤ 6) {g k c : Nat} (hv : v l = .slice (some ⟨g, 0, none⟩) k c) {j : Nat} (hj : j < N l) (x : Value) :
    Six lo p n cu par kd lc nc chs N (up f l (up (f l) j x)) v w0 (w.setCell ⟨g, j, none⟩ x) := by
  obtain ⟨sa, mb, L, F, H, s, fo, hr, hb0⟩ := h
  obtain ⟨r1, r2⟩ := hr l h1 h2
  have hv' : (F l).v = .slice (some ⟨g, 0, none⟩) k c := r2.trans hv
  have hg := (own_ge (s.row l (by omega)) (g := g) (by rw [hv']; rfl)).1
  refine ⟨sa, mb, L, _, H, s.setRow (l := l) (by omega) hv' (i := j) x, fo.others (fun j hj => up_ne _ _ (by omega)), fun l' g1 g2 => ?_, hb0.setCell (p := ⟨g, j, none⟩) hg _⟩
  by_cases e : l' = l
  · subst e
    rw [up_at, up_at]
    exact ⟨r1.set j x hj, r2⟩
  · rw [up_ne _ _ e, up_ne _ _ e]
    exact hr l' g1 g2
theorem Six.cut (h : Six lo p n cu par kd lc nc chs N f v w0 w) (l : Nat) (h1 : 1 ≤ l) (h2 : l ≤ 6) {a : Option Addr} {k c : Nat} (hv : v l = .slice a (k + 1) c) (hk : N l = k + 1) :
    Six lo p n cu par kd lc nc chs (up N l k) f (up v l (.slice a k c)) w0 w := by
  obtain ⟨sa, mb, L, F, H, s, fo, hr, hb0⟩ := h
  obtain ⟨r1, r2⟩ := hr l h1 h2
  have hv' : (F l).v = .slice a (k + 1) c := r2.trans hv
  rw [hk] at r1
  have s2 := s.cut (l := l) (m := k) (by omega) hv' r1.hn (by omega) (by omega)
  have hl := r1.len (s.row l (by omega))
  refine ⟨sa, mb, L, _, H, s2, fo.others (fun j hj => up_ne _ _ (by omega)), fun l' g1 g2 => ?_, hb0⟩
  by_cases e : l' = l
  · subst e
    rw [up_at, up_at, up_at]
    exact ⟨r1.cut hl _, rfl⟩
  · rw [up_ne _ _ e, up_ne _ _ e, up_ne _ _ e]
    exact hr l' g1 g2
/-- A push. -/
theorem Six.push (h : Six lo p n cu par kd lc nc chs N f v w0 w) (hI : IRef w) {k l : Int} (hk : k = 8 → ∃ q, cu = some q ∧ kd q = 7) (hl : ∀ j, n = j + 1 → lc j < l) (hn : n ≤ 65536) :
    Calls Tryf.prog 10 #[.pointer (some ⟨p, 0, none⟩), .int .u8 k, .int .i32 l] w fun e w' => e = .returned (.int .i64 n) ∧ ∃ nc' chs', Six lo p (n + 1) (some n) (up par n cu) (up kd n k) (up lc n l) nc' chs' N f v w0 w' ∧
      (cu = none → nc' = nc ∧ chs' = chs) ∧ (∀ q, cu = some q → nc' = up nc q (nc q + 1) ∧ chs' = up chs q (up (chs q) (nc q) n)) := by
  obtain ⟨sa, mb, L, F, H, s, fo, hr, hb0⟩ := h
  refine (push10 fo s hI hk hl hn).mono ?_
  rintro e w' ⟨he, nc', chs', sa', mb', L', F', H', s', fo', hF, hN, hS, hB⟩
  refine ⟨he, nc', chs', ⟨sa', mb', L', F', H', s', fo', fun l' g1 g2 => ?_, hb0.trans hB⟩, hN, hS⟩
  rw [hF l' (by omega)]
  exact hr l' g1 g2
/-- A pop. -/
theorem Six.pop {q : Nat} (h : Six lo p n (some q) par kd lc nc chs N f v w0 w) :
    Calls Tryf.prog 7 #[.pointer (some ⟨p, 0, none⟩)] w fun e w' => e = .returned (.tuple #[]) ∧ Six lo p n (par q) par kd lc nc chs N f v w0 w' := by
  obtain ⟨sa, mb, L, F, H, s, fo, hr, hb0⟩ := h
  refine (pop7 fo s).mono ?_
  rintro e w' ⟨he, rfl⟩
  obtain ⟨H', s', fo'⟩ := fo.turn s (cu' := par q) (fun q' hq' => fo.parl q q' (fo.cul q rfl) hq')
  exact ⟨he, sa, mb, L, F, H', s', fo', hr, hb0.setCell (p := ⟨p, 104, none⟩) (fo.lop s).1 _⟩
/-- What can be read. -/
structure Rd (p n : Nat) (cu : Option Nat) (par : Nat → Option Nat) (kd lc : Nat → Int) (nc : Nat → Nat) (chs : Nat → Nat → Nat) (sa mb : Nat → Nat) (vc : Nat → Value) (w : World) : Prop where
  cur : w.cell? ⟨p, 104, none⟩ = some (pt (cu.map sa))
  sio : ∃ a c, w.cell? ⟨p, 177, none⟩ = some (.slice a n c)
  at7 : ∀ j, j < n → ∃ g c, w.cell? ⟨p, 177, none⟩ = some (.slice (some ⟨g, 0, none⟩) n c) ∧ w.cell? ⟨g, j * 2, none⟩ = some (pt (some (sa j))) ∧ w.cell? ⟨g, j * 2 + 1, none⟩ = some (.int .i32 (lc j)) ∧ g < w.heap.size
  sc : ∀ j, j < n → Blk w (sa j) (scC (kd j) (pt ((par j).map sa)) (vc j) (mb j)) 50
  mbs : ∀ j, j < n → w.heap[mb j]? = some (.map #[] 0)
  vcf : ∀ j, ∃ a c, vc j = .slice a (nc j) c
  ch : ∀ q i, i < nc q → ∃ g c, vc q = .slice (some ⟨g, 0, none⟩) (nc q) c ∧ w.cell? ⟨g, i, none⟩ = some (pt (some (sa (chs q i)))) ∧ g < w.heap.size
  inj : ∀ i j, i < n → j < n → sa i = sa j → i = j
theorem Six.read (h : Six lo p n cu par kd lc nc chs N f v w0 w) : ∃ sa mb vc, Rd p n cu par kd lc nc chs sa mb vc w := by
  obtain ⟨sa, mb, L, F, H, s, fo, hr, hb0⟩ := h
  refine ⟨sa, mb, fun j => (F (8 + j)).v, ⟨fo.cur s, ?_, fun j hj => fo.at7 s hj, fun j hj => fo.sc s hj, fun j hj => (s.box _ _ (fo.scp j hj).2).1, fun j => fo.chv s j, fun q i hi => ?_, fo.inj⟩⟩
  · obtain ⟨a, c, h1, _⟩ := fo.sio s
    exact ⟨a, c, h1⟩
  · obtain ⟨a, c, hv⟩ := fo.chv s q
    obtain ⟨g, ha, hg, hc, _⟩ := s.at (l := 8 + q) (by omega) hv (fo.xc q i hi)
    subst ha
    exact ⟨g, c, hv, hc, hg⟩
theorem Rd.below {sa mb : Nat → Nat} {vc : Nat → Value} (h : Rd p n cu par kd lc nc chs sa mb vc w) (hb : Below w.heap.size w w') : Rd p n cu par kd lc nc chs sa mb vc w' := by
  obtain ⟨a1, ⟨a, c, a2⟩, a3, a4, a5, a6, a7, a8⟩ := h
  refine ⟨bcell hb a1, ⟨a, c, bcell hb a2⟩, fun j hj => ?_, fun j hj => (a4 j hj).below hb, fun j hj => (hb.block _ (heap_lt (a5 j hj))).trans (a5 j hj), a6, fun q i hi => ?_, a8⟩
  · obtain ⟨g, c, h1, h2, h3, h4⟩ := a3 j hj
    exact ⟨g, c, bcell hb h1, bcell hb h2, bcell hb h3, Nat.lt_of_lt_of_le h4 hb.size⟩
  · obtain ⟨g, c, h1, h2, h3⟩ := a7 q i hi
    exact ⟨g, c, h1, bcell hb h2, Nat.lt_of_lt_of_le h3 hb.size⟩
end
end Go.Proofs.YtocljdbihcikhaaFmt.psh
