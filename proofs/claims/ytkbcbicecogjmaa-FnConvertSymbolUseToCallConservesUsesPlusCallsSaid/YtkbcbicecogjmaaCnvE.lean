/- The plain law of the script, and the rows of four counts. No program's code is walked. -/
import Derived.Test.YtkbcbicecogjmaaCnvD
namespace Go.Proofs.Ytkbcbicecogjmaa.cnv
open Go.ChangeShapes Go.WideShapes Go.ChangeAt Go.RowKit Go.Mine Go.Maps
set_option linter.unusedVariables false
set_option linter.unusedSimpArgs false
set_option maxRecDepth 100000

/-- The calls, the single ones and the uses that are left behind i conversions. -/
def cs (K : Nat → Nat) : Nat → Nat → Nat
  | 0 => fun _ => 0
  | i + 1 => put (cs K i) (K i) (cs K i (K i) + 1)
def gs (K : Nat → Nat) (b : Nat → Bool) : Nat → Nat → Nat
  | 0 => fun _ => 0
  | i + 1 => put (gs K b i) (K i) (gs K b i (K i) + (b i).toNat)
def us (K I : Nat → Nat) : Nat → Nat → Nat
  | 0 => I
  | i + 1 => put (us K I i) (K i) (us K I i (K i) - 1)
theorem cs_le (K : Nat → Nat) : ∀ i k, cs K i k ≤ i
  | 0, k => Nat.le_refl _
  | i + 1, k => by
    have h1 := cs_le K i k
    have h2 := cs_le K i (K i)
    unfold cs put
    split <;> omega
theorem gs_le (K : Nat → Nat) (b : Nat → Bool) : ∀ i k, gs K b i k ≤ i
  | 0, k => Nat.le_refl _
  | i + 1, k => by
    have h1 := gs_le K b i k
    have h2 := gs_le K b i (K i)
    have h3 : (b i).toNat ≤ 1 := by cases b i <;> simp
    unfold gs put
    split <;> omega
theorem cs_step (K : Nat → Nat) (i k : Nat) : cs K i k ≤ cs K (i + 1) k := by
  show _ ≤ put (cs K i) (K i) (cs K i (K i) + 1) k
  unfold put
  split
  · rename_i h; subst h; omega
  · omega
theorem cs_mono (K : Nat → Nat) {i n : Nat} (h : i ≤ n) (k : Nat) : cs K i k ≤ cs K n k := by
  induction h with
  | refl => exact Nat.le_refl _
  | step _ ih => exact Nat.le_trans ih (cs_step _ _ _)
theorem cs_pos (K : Nat → Nat) (i : Nat) : cs K (i + 1) (K i) = cs K i (K i) + 1 := put_same _ _ _
theorem us_cs (K I : Nat → Nat) {n : Nat} (h : ∀ k, k < 4 → cs K n k ≤ I k) : ∀ i, i ≤ n → ∀ k, k < 4 → us K I i k + cs K i k = I k
  | 0, _, k, _ => rfl
  | i + 1, hi, k, hk => by
    have h1 := us_cs K I h i (by omega) k hk
    have h2 := Nat.le_trans (cs_mono K hi k) (h k hk)
    show put (us K I i) (K i) (us K I i (K i) - 1) k + put (cs K i) (K i) (cs K i (K i) + 1) k = I k
    have h3 := cs_pos K i
    unfold put
    by_cases e : k = K i
    · rw [if_pos e, if_pos e]
      subst e
      omega
    · rw [if_neg e, if_neg e]
      exact h1
theorem us_pos (K I : Nat → Nat) {n i : Nat} (h : ∀ k, k < 4 → cs K n k ≤ I k) (hi : i < n) (hk : K i < 4) : 0 < us K I i (K i) := by
  have h1 := us_cs K I h i (by omega) (K i) hk
  have h2 := Nat.le_trans (cs_mono K (show i + 1 ≤ n from hi) (K i)) (h _ hk)
  rw [cs_pos] at h2
  omega
theorem us_le (K I : Nat → Nat) {n i : Nat} (h : ∀ k, k < 4 → cs K n k ≤ I k) (hi : i ≤ n) {k : Nat} (hk : k < 4) : us K I i k ≤ I k := by
  have h1 := us_cs K I h i hi k hk
  omega

/-- A row of four counts. -/
def row4 (f : Nat → Nat) : Array Value := #[.int .u32 (f 0), .int .u32 (f 1), .int .u32 (f 2), .int .u32 (f 3)]
theorem four {k : Nat} (hk : k < 4) : k = 0 ∨ k = 1 ∨ k = 2 ∨ k = 3 := by omega
theorem row4_at (f : Nat → Nat) {k : Nat} (hk : k < 4) : (row4 f)[k]? = some (.int .u32 (f k)) := by
  rcases four hk with rfl | rfl | rfl | rfl <;> rfl
theorem row4_put (f : Nat → Nat) {k v : Nat} (hk : k < 4) {y : Int} (hy : y = (v : Int)) : (row4 f).setIfInBounds k (.int .u32 y) = row4 (put f k v) := by
  subst hy
  rcases four hk with rfl | rfl | rfl | rfl <;> simp [row4, put]
/-- Of the first k places, how many hold p. -/
def upTo (p : Nat → Bool) : Nat → Nat
  | 0 => 0
  | k + 1 => upTo p k + (p k).toNat
theorem upTo_le (p : Nat → Bool) : ∀ k, upTo p k ≤ k
  | 0 => Nat.le_refl _
  | k + 1 => by
    have := upTo_le p k
    unfold upTo
    cases p k <;> simp <;> omega
theorem upTo_four (p : Nat → Bool) : upTo p 4 = cnt p := by simp [upTo, cnt]
/-- The key of the i-th letter. -/
def keyAt (z : List Int) (i : Nat) : Nat := ((z.getD i 0) % 4).toNat
theorem keyAt_lt (z : List Int) (i : Nat) : keyAt z i < 4 := by
  unfold keyAt
  omega
theorem and3 : ∀ n : Fin 256, bits .and .u8 (n.val : Int) 3 = ((n.val % 4 : Nat) : Int) := by decide +kernel
theorem and3_of {z : Int} (h : (Lit.int .u8 z).wf = true) : bits .and .u8 z 3 = (((z % 4).toNat : Nat) : Int) := by
  have hz : 0 ≤ z ∧ z ≤ 255 := by simpa [Lit.wf, IntKind.min, IntKind.max, IntKind.signed, IntKind.bits] using h
  obtain ⟨n, rfl⟩ : ∃ n : Nat, z = n := ⟨z.toNat, by omega⟩
  have := and3 ⟨n, by omega⟩
  rw [this]
  show ((n % 4 : Nat) : Int) = _
  omega
theorem row_wf {w : World} {a : Option Addr} {l k : Nat} {z : List Int} (h : IntRow .u8 w a l k z) {j : Nat} (hj : j < l) : (Lit.int .u8 (z.getD j 0)).wf = true := by
  have hl : j < z.length := by rw [h.1]; exact hj
  exact h.2.2.2.1 (z.getD j 0) (by simp [hl])
/-- 'v, ok := m[k]' in the map of calls, nil or not. -/
theorem look_cls {o : Option Nat} {mu n : Nat} {c g : Nat → Nat} {w : World} (h : Cls o mu n c g w) {k : Nat} (hk : k < 4) :
    (Instr.lookup 40 (.map o) (ref k) true).run Try.prog w = .ok (.tuple #[cal (c k) (g k), .bool (decide (0 < c k))]) w := by
  rcases h with ⟨rfl, h⟩ | ⟨mc, D, rfl, _, h1, h2⟩
  · have := Maps.look_nil true lawK Try.underlying40 (run_zero_of w zeroC) (kl_is hk)
    rw [this, (h k hk).1, (h k hk).2]
    rfl
  · exact look_cals h1 h2 hk
theorem len_cls {o : Option Nat} {mu n : Nat} {c g : Nat → Nat} {w : World} (h : Cls o mu n c g w) (ty : TypeId) :
    (Builtin.len_ #[40] ty #[.map o]).run Try.prog w = .ok (.int .i64 (cnt fun k => decide (0 < c k))) w := by
  rcases h with ⟨rfl, h⟩ | ⟨mc, D, rfl, _, h1, h2⟩
  · rw [Maps.len_nil Try.underlying40 ty]
    simp [cnt, (h 0 (by decide)).1, (h 1 (by decide)).1, (h 2 (by decide)).1, (h 3 (by decide)).1]
  · exact len_cals h1 h2 ty
theorem Uses.congr {D : DataW Value} {u u' : Nat → Nat} (h : Uses D u) (he : ∀ k, k < 4 → u k = u' k) : Uses D u' :=
  Fits.congr h (fun k hk => by rw [he k hk]) (fun k hk => by rw [he k hk])
theorem Uses.empty : Uses (.map []) (fun _ => 0) := (Fits.empty (use 0)).congr (fun k hk => by simp) (fun k hk => by simp)
def fill (I : Nat → Nat) (k : Nat) : Nat → Nat := fun j => if j < k then I j else 0
theorem Uses.fillPut {D : DataW Value} {I : Nat → Nat} {k : Nat} (h : Uses D (fill I k)) (hk : k < 4) (hI : 0 < I k) : Uses (D.put (kl k) (.held (use (I k)))) (fill I (k + 1)) :=
  Uses.congr (Uses.put h hk hI) fun j hj => by
    unfold cnv.put fill
    by_cases e : j = k
    · subst e; simp
    · have : j < k ↔ j < k + 1 := by omega
      simp [e, this]
theorem Uses.fillSkip {D : DataW Value} {I : Nat → Nat} {k : Nat} (h : Uses D (fill I k)) (hI : I k = 0) : Uses D (fill I (k + 1)) :=
  Uses.congr h fun j hj => by
    unfold fill
    by_cases e : j = k
    · subst e; simp [hI]
    · have : j < k ↔ j < k + 1 := by omega
      simp [this]
theorem Uses.fillAll {D : DataW Value} {I : Nat → Nat} (h : Uses D (fill I 4)) : Uses D I := Uses.congr h fun j hj => by unfold fill; simp [hj]
theorem mapNeq (w : World) (r : Option Nat) : (binOp .neq 40 (.map r) (.map none)).run Try.prog w = .ok (.bool (!r.isNone)) w := run_neq_map_nil w _ _ _ r Try.underlying40
/-- The three rows of counts. -/
structure Box (w : World) (Ob Sb : Nat) (I c g : Nat → Nat) (wr : World) : Prop where
  below : Below w.heap.size w wr
  ini : Blk wr w.heap.size (row4 I) 25
  occ : Blk wr Ob (row4 c) 25
  sng : Blk wr Sb (row4 g) 25
  ho : w.heap.size < Ob
  hs : Ob < Sb
theorem Box.later {w wr wr' : World} {Ob Sb : Nat} {I c g : Nat → Nat} (h : Box w Ob Sb I c g wr) (hb : Below wr.heap.size wr wr') : Box w Ob Sb I c g wr' :=
  ⟨below2 h.below hb, h.ini.below hb, h.occ.below hb, h.sng.below hb, h.ho, h.hs⟩
theorem Box.up {w wr wr' : World} {Ob Sb m : Nat} {I c g : Nat → Nat} (h : Box w Ob Sb I c g wr) (hb : Below m wr wr') (hm : Sb < m) (hm2 : m ≤ wr.heap.size) : Box w Ob Sb I c g wr' := by
  have ho := h.ho
  have hs := h.hs
  have hB : ∀ {p : Nat} {C : Array Value}, p < m → Blk wr p C 25 → Blk wr' p C 25 := fun hp hq => (hb.block _ hp).trans hq
  exact ⟨h.below.trans (hb.mono (by omega)), hB (by omega) h.ini, hB (by omega) h.occ, hB (by omega) h.sng, h.ho, h.hs⟩
theorem Box.start (w : World) (I : Nat → Nat) {W : World} (hb : Below w.heap.size w W) (hi : Blk W w.heap.size (row4 I) 25) :
    Box w W.heap.size (W.heap.size + 1) I (fun _ => 0) (fun _ => 0) ((W.alloc (.cells #[.int .u32 0, .int .u32 0, .int .u32 0, .int .u32 0] 25)).alloc (.cells #[.int .u32 0, .int .u32 0, .int .u32 0, .int .u32 0] 25)) := by
  have e : (W.alloc (.cells #[.int .u32 0, .int .u32 0, .int .u32 0, .int .u32 0] 25)).heap.size = W.heap.size + 1 := by simp
  refine ⟨(hb.alloc hb.size _).alloc (by rw [e]; exact Nat.le_succ_of_le hb.size) _, (hi.alloc _).alloc _, (Blk.new W _ _).alloc _, ?_, hi.lt, Nat.lt_succ_self _⟩
  have := Blk.new (W.alloc (.cells #[.int .u32 0, .int .u32 0, .int .u32 0, .int .u32 0] 25)) #[.int .u32 0, .int .u32 0, .int .u32 0, .int .u32 0] 25
  rw [e] at this
  exact this
theorem Box.addOcc {w wr : World} {Ob Sb : Nat} {I c g : Nat → Nat} (h : Box w Ob Sb I c g wr) {k : Nat} (hk : k < 4) : Box w Ob Sb I (cnv.put c k (c k + 1)) g (wr.setCell ⟨Ob, k, none⟩ (.int .u32 ((c k : Int) + 1))) := by
  have ho := h.ho
  have hs := h.hs
  have := h.occ.set k (.int .u32 ((c k : Int) + 1))
  rw [row4_put c hk (v := c k + 1) (by omega)] at this
  exact ⟨h.below.setCell (p := ⟨Ob, k, none⟩) (by show _ ≤ Ob; omega) _, h.ini.setOther (by show w.heap.size ≠ Ob; omega) _, this, h.sng.setOther (by show Sb ≠ Ob; omega) _, h.ho, h.hs⟩
theorem Box.addSng {w wr : World} {Ob Sb : Nat} {I c g : Nat → Nat} (h : Box w Ob Sb I c g wr) {k : Nat} (hk : k < 4) : Box w Ob Sb I c (cnv.put g k (g k + 1)) (wr.setCell ⟨Sb, k, none⟩ (.int .u32 ((g k : Int) + 1))) := by
  have ho := h.ho
  have hs := h.hs
  have := h.sng.set k (.int .u32 ((g k : Int) + 1))
  rw [row4_put g hk (v := g k + 1) (by omega)] at this
  exact ⟨h.below.setCell (p := ⟨Sb, k, none⟩) (by show _ ≤ Sb; omega) _, h.ini.setOther (by show w.heap.size ≠ Sb; omega) _, h.occ.setOther (by show Ob ≠ Sb; omega) _, this, h.ho, h.hs⟩
end Go.Proofs.Ytkbcbicecogjmaa.cnv
