/- The contracts of the parser's making and of 'addImportRecord'. No conditions beyond the hypotheses. -/
import Derived.Test.YtbjebcbdednijaaRows
import Derived.Test.YtbjebcbdednijaaLib
import Derived.Outline
import Derived.Deep.RegionLaw
import Derived.Deep.RegionWith
import Derived.Deep.AppendLies
namespace Go.Proofs.Ytbjebcbdednijaa.add
open Go.ChangeShapes Go.WideShapes Go.ChangeAt Go.RowKit Go.Mine
set_option linter.unusedVariables false
set_option linter.unusedSimpArgs false
set_option maxRecDepth 100000

theorem wp_buildTo {P : Program} {o : Oper} {a : Act} {w : World} {K : Act → World → Prop} {Q : Exit → Act → World → Prop} (t : TypeId) (parts : Array (Nat × Operand)) (ho : o.op = .build t parts) (cells : Array Value)
    (hf : P.built t (parts.map fun (i, x) => (i, a.eval x)).toList = some cells) (h : K (a.put o.dst (.agg cells)) w) : o.wp P a w K Q :=
  wp_build t parts ho (by rw [hf]; rfl) (by rw [hf]; exact h)
noncomputable def parC : Array Value := (Try.prog.built 175 []).getD #[]
theorem parB : Try.prog.built 175 [] = some parC := by
  have h : (Try.prog.built 175 []).isSome = true := by kernel_rfl
  obtain ⟨c, hc⟩ := Option.isSome_iff_exists.1 h
  unfold parC
  rw [hc]
  rfl
set_option maxHeartbeats 2000000 in
theorem par11 (w : World) : Calls Try.prog 11 #[] w fun e w' => e = .returned (.pointer (some ⟨w.heap.size, 0, none⟩)) ∧ w' = w.alloc (.cells parC 175) := by
  go_enter Try.func11, Try.ntmps11
  go_wp2
  refine wp_buildTo 175 _ rfl parC (by kernel_rfl) ?_
  go_wp2_with fail
  go_ret
  exact ⟨rfl, rfl⟩
theorem new12 (w : World) : Calls Try.prog 12 #[] w fun e w' => e = .returned (.pointer (some ⟨w.heap.size, 0, none⟩)) ∧ ∃ o, w' = w.alloc o := by
  go_enter Try.func12, Try.ntmps12
  go_wp2
  go_ret
  exact ⟨rfl, _, rfl⟩
theorem own_ne {w : World} {B e size n : Nat} {v : Value} {xs : List Value} (h : w.ownsRow B e size v n xs) {q : Nat} {C : Array Value} {t : TypeId} (hq : Blk w q C t) (ht : t ≠ e) : v.ownBlock ≠ some q := by
  rcases h.2 with ⟨rfl, _⟩ | ⟨g, cap, cur, rfl, hb, hg, rest⟩
  · simp [Value.ownBlock]
  · intro e1
    simp only [Value.ownBlock, Option.some.injEq] at e1
    subst e1
    unfold Blk at hq
    rw [hq] at hg
    injection hg with e1
    injection e1 with _ e1
    exact ht e1
theorem own_ge {w : World} {B e size n : Nat} {v : Value} {xs : List Value} (h : w.ownsRow B e size v n xs) {g : Nat} (hg : v.ownBlock = some g) : B ≤ g ∧ g < w.heap.size := by
  rcases h.2 with ⟨rfl, _⟩ | ⟨g', cap, cur, rfl, hb, hg', rest⟩
  · simp [Value.ownBlock] at hg
  · have e : g' = g := by simpa [Value.ownBlock] using hg
    subst e
    exact ⟨hb, lt_of_block hg'⟩
theorem own_kept {w w' : World} {B e size n : Nat} {v : Value} {xs : List Value} (h : w.ownsRow B e size v n xs) (hk : ∀ g, v.ownBlock = some g → w'.heap[g]? = w.heap[g]?) : w'.ownsRow B e size v n xs := by
  refine ⟨h.1, ?_⟩
  rcases h.2 with h2 | ⟨g, cap, cur, hv, hb, hg, rest⟩
  · exact .inl h2
  · refine .inr ⟨g, cap, cur, hv, hb, ?_, rest⟩
    rw [hk g (by subst hv; rfl)]
    exact hg
theorem grown_keep {wr wA w3 : World} {P : Nat} {C : Array Value} {t : TypeId} {row : Option Nat} (hB : Blk wr P C t) (hA : Below wr.heap.size wr wA) (hg : wA.grownBy w3 row) (hne : row ≠ some P) : Blk w3 P C t :=
  (hg.block P (Nat.lt_of_lt_of_le hB.lt hA.size) (Ne.symm hne)).trans ((hA.block P hB.lt).trans hB)
theorem blk_new' (W : World) {B : Nat} {C : Array Value} {t : TypeId} (h : W.heap.size = B) : Blk (W.alloc (.cells C t)) B C t := h ▸ Blk.new W C t
/-- The cells of one import record. -/
abbrev recC (kd ph st ln fl : Int) (s : ByteArray) (q : Option Addr) : Array Value :=
  #[.pointer q, .pointer none, .string s, .string ⟨#[]⟩, .string ⟨#[]⟩, .string ⟨#[]⟩, .int .u8 0, .int .i32 st, .int .i32 ln, .int .i32 0, .int .u32 0, .int .u32 0, .int .u16 fl, .int .u8 ph, .int .u8 kd]
theorem infoR : (Try.prog.info? 187).map (fun i => (i.zero.map (fun z => z.cells.size), i.size, i.bytes)) = some (some 15, 15, 112) := by kernel_rfl
theorem par169 : parC[169]? = some (.slice none 0 0) := by kernel_rfl
/-- The parser's state: its field 'importRecords' holds a row of its own, with the cells xs. -/
structure AS (lo p : Nat) (a : Option Addr) (n c : Nat) (xs : List Value) (w : World) : Prop where
  own : w.ownsRow lo 187 15 (.slice a n c) n xs
  blk : ∃ C, Blk w p C 175 ∧ C[169]? = some (.slice a n c)
  ge : lo ≤ p
abbrev Ch (p : Nat) (a : Option Addr) (n c : Nat) (k : Nat) : Prop := k = p ∨ (Value.slice a n c).ownBlock = some k
theorem AS.kept {lo p n c : Nat} {a : Option Addr} {xs : List Value} {w w' : World} (h : AS lo p a n c xs w) (hb : Below w.heap.size w w') : AS lo p a n c xs w' := by
  obtain ⟨ho, ⟨C, hb1, h169⟩, hg⟩ := h
  exact ⟨own_kept ho fun g hg => hb.block g (own_ge ho hg).2, ⟨C, hb1.below hb, h169⟩, hg⟩
theorem AS.same {lo p n c : Nat} {a : Option Addr} {xs : List Value} {w w' : World} {X : Nat → Prop} (h : AS lo p a n c xs w) (hs : Same X w w') (hp : ¬ X p) (hg : ∀ g, (Value.slice a n c).ownBlock = some g → ¬ X g) : AS lo p a n c xs w' := by
  obtain ⟨ho, ⟨C, hb1, h169⟩, hge⟩ := h
  exact ⟨own_kept ho fun g hg' => hs.2 g (own_ge ho hg').2 (hg g hg'), ⟨C, hb1.same hs hp, h169⟩, hge⟩
theorem AS.lt {lo p n c : Nat} {a : Option Addr} {xs : List Value} {w : World} (h : AS lo p a n c xs w) : p < w.heap.size ∧ ∀ g, (Value.slice a n c).ownBlock = some g → lo ≤ g ∧ g < w.heap.size := by
  obtain ⟨ho, ⟨C, hb1, h169⟩, hge⟩ := h
  exact ⟨hb1.lt, fun g hg => own_ge ho hg⟩
/-- Another block than those that the call may change. -/
theorem AS.other {lo p n c Q : Nat} {a : Option Addr} {xs : List Value} {w : World} {D : Array Value} {t : TypeId} (h : AS lo p a n c xs w) (hQ : Blk w Q D t) (h1 : t ≠ 187) (h2 : t ≠ 175) : ¬ Ch p a n c Q := by
  obtain ⟨ho, ⟨C, hb1, h169⟩, hge⟩ := h
  intro e
  rcases e with e | e
  · subst e
    unfold Blk at hQ hb1
    rw [hQ] at hb1
    injection hb1 with e1
    injection e1 with _ e1
    exact h2 e1
  · exact own_ne ho hQ h1 e
theorem as_start (w : World) (lo : Nat) (h : lo ≤ w.heap.size) : AS lo w.heap.size none 0 0 [] (w.alloc (.cells parC 175)) :=
  ⟨World.ownsRow_nil _ _ _ _, ⟨parC, Blk.new _ _ _, par169⟩, h⟩
def Added (lo p : Nat) (a : Option Addr) (n c : Nat) (xs ys : List Value) (w : World) (e : Ending) (w' : World) : Prop :=
  e = .returned (.int .u32 n) ∧ (∃ g c', AS lo p (some ⟨g, 0, none⟩) (n + 1) c' (xs ++ ys) w') ∧ Same (Ch p a n c) w w' ∧ (∀ w0, Below lo w0 w → Below lo w0 w')
theorem add_fin {lo p n c gg cap : Nat} {a : Option Addr} {w W' w3 : World} {xs ys : List Value} {C : Array Value} (ko : w.ownsRow lo 187 15 (.slice a n c) n xs) (kb : Blk w p C 175) (h169 : C[169]? = some (.slice a n c)) (hge : lo ≤ p) (hb : Below w.heap.size w W')
    (hg : W'.grownBy w3 (Value.slice a n c).ownBlock) (hown3 : w3.ownsRow lo 187 15 (.slice (some ⟨gg, 0, none⟩) (n + 1) cap) (n + 1) (xs ++ ys)) (hat : (Value.slice a n c).ownBlock = some gg ∨ W'.heap.size ≤ gg) :
    (∃ g c', AS lo p (some ⟨g, 0, none⟩) (n + 1) c' (xs ++ ys) (w3.setCell ⟨p, 169, none⟩ (.slice (some ⟨gg, 0, none⟩) (n + 1) cap))) ∧ Same (Ch p a n c) w (w3.setCell ⟨p, 169, none⟩ (.slice (some ⟨gg, 0, none⟩) (n + 1) cap)) ∧
      (∀ w0, Below lo w0 w → Below lo w0 (w3.setCell ⟨p, 169, none⟩ (.slice (some ⟨gg, 0, none⟩) (n + 1) cap))) := by
  have hne := own_ne ko kb (by decide)
  have K3 : Blk w3 p C 175 := grown_keep kb hb hg hne
  have hp := kb.lt
  have hgp : gg ≠ p := fun e => by
    have := own_ne hown3 K3 (by decide)
    subst e
    exact this rfl
  have hsz : 169 < C.size := by
    rcases Nat.lt_or_ge 169 C.size with h | h
    · exact h
    · rw [Array.getElem?_eq_none h] at h169; cases h169
  refine ⟨⟨gg, cap, own_kept hown3 fun g hg' => ?_, ⟨C.setIfInBounds 169 (.slice (some ⟨gg, 0, none⟩) (n + 1) cap), ?_, ?_⟩, hge⟩, ⟨?_, fun k hk hx => ?_⟩, fun w0 h0 => ?_⟩
  · have e : gg = g := by simpa [Value.ownBlock] using hg'
    subst e
    rw [Below.heap_setCell _ _ _ _ hgp]
  · exact K3.set 169 _
  · simp [hsz]
  · rw [size_set]
    have := hg.size
    have := hb.size
    omega
  · have k2 : k ≠ p := fun e => hx (.inl e)
    have k3 : some k ≠ (Value.slice a n c).ownBlock := fun e => hx (.inr e.symm)
    have := hb.size
    rw [Below.heap_setCell _ _ _ _ k2, hg.block k (by omega) k3, hb.block k hk]
  · have hl : lo ≤ w.heap.size := by omega
    have := hb.size
    exact (Below.grown (h0.trans (hb.mono hl)) hg (by omega) (fun k hk => (own_ge ko hk).1)).setCell (p := ⟨p, 169, none⟩) hge _
set_option maxHeartbeats 16000000 in
theorem add26 (lo p n c : Nat) (kd ph st ln fl : Int) (q : Option Addr) (s : ByteArray) (a : Option Addr) (xs : List Value) (w : World) (h : AS lo p a n c xs w) (hn : n ≤ 1048576) :
    Calls Try.prog 26 #[.pointer (some ⟨p, 0, none⟩), .int .u8 kd, .int .u8 ph, .agg #[.int .i32 st, .int .i32 ln], .string s, .pointer q, .int .u16 fl] w (Added lo p a n c xs (recC kd ph st ln fl s q).toList w) := by
  obtain ⟨ho, ⟨C, hb, h169⟩, hge⟩ := h
  obtain ⟨i0, hi, hz⟩ := Option.map_eq_some_iff.1 infoR
  have hz1 : i0.size = 15 := by injection hz with _ hz; injection hz
  have hz2 : i0.bytes = 112 := by injection hz with _ hz; injection hz
  obtain ⟨z0, hz0, hzs⟩ : ∃ z, i0.zero = some z ∧ z.cells.size = 15 := by
    injection hz with hz _
    exact Option.map_eq_some_iff.1 hz
  clear hz
  have hne := own_ne ho hb (by decide)
  have n0 := (hb.cell 169).trans h169
  have f0 := hb.free 169
  have lp := hb.lt
  have lp1 : p < w.heap.size + 1 := by omega
  have lp2 : p < w.heap.size + 1 + 1 := by omega
  have hbb : Below w.heap.size w (w.alloc (.cells #[.int .i32 st, .int .i32 ln] 66)) := (Below.refl _ _).alloc (Nat.le_refl _) _
  have b0 : Blk (w.alloc (.cells #[.int .i32 st, .int .i32 ln] 66)) w.heap.size #[.int .i32 st, .int .i32 ln] 66 := Blk.new _ _ _
  have KO := Lib.hid ho
  have KB := Lib.hid hb
  have HNE := Lib.hid hne
  have H169 := Lib.hid h169
  have HBB := Lib.hid hbb
  have HB0 := Lib.hid b0
  have KP : Hid (Blk (w.alloc (.cells #[.int .i32 st, .int .i32 ln] 66)) p C 175) := Lib.hid (hb.below hbb)
  have KO1 := Lib.hid (own_kept ho (fun g hg => hbb.block g (own_ge ho hg).2))
  have SZ : Hid ((w.alloc (.cells #[.int .i32 st, .int .i32 ln] 66)).heap.size = w.heap.size + 1) := Lib.hid (by simp)
  have hl : lo ≤ w.heap.size + 1 := by omega
  clear ho hb hne h169 hbb b0
  go_enter Try.func26, Try.ntmps26
  go_upto_region 2 with fail
  clear n0 f0
  generalize w.alloc (.cells #[.int .i32 st, .int .i32 ln] 66) = W1 at *
  have m0 : W1.cell? ⟨p, 169, none⟩ = some (.slice a n c) := (KP.out.cell 169).trans H169.out
  have m1 : W1.frozen? ⟨p, 169, none⟩ = false := KP.out.free 169
  have m2 := KP.out.lt
  have m3 : W1.cell? ⟨w.heap.size, 0, none⟩ = some (.int .i32 st) := HB0.out.cell 0
  have m4 : W1.cell? ⟨w.heap.size, 1, none⟩ = some (.int .i32 ln) := HB0.out.cell 1
  have m5 := HB0.out.lt
  have hl1 : lo ≤ W1.heap.size := by have := SZ.out; omega
  go_region_law ((refine step_append_lies _ (by rfl) _ _ _ (by rfl) lo 187 i0 z0 15 112 Try.underlying142 hi hz0 hz1 hz2 hzs (by decide) (.slice a n c) n _ (by rfl) (KO1.out.alloc _) ⟨W1.heap.size, 0, none⟩ 1 1 (recC kd ph st ln fl s q).toList (by rfl) (by rfl) (World.news_of_block (cs := recC kd ph st ln fl s q) (blk_new' _ (by simp))) (by simp [Value.oneCell']) (by decide) (by unfold maxLen; omega) (by omega) (by simp; omega) (W1.heap.size + 1) (by simp) ?_; intro gg cap w3 hown3 hgrow3 hat3 hlt3; have KK := grown_keep KP.out (by repeat (first | with_reducible exact Below.refl _ _ | with_reducible refine Below.drew ?_ | with_reducible refine Below.alloc ?_ (by simp <;> omega) _)) hgrow3 HNE.out; have k1 := KK.free 169; have k2 := KK.lt; have k3 : w3.cell? ⟨p, 169, none⟩ = some (.slice a n c) := (KK.cell 169).trans H169.out))
  all_goals
    have HG := Lib.hid hgrow3
    have HO := Lib.hid hown3
    have HT := Lib.hid hat3
    have l2 : gg < w3.heap.size := hlt3
    clear hgrow3 hown3 hat3 k1 k2 k3 KK m0 m1 m2 m3 m4 m5
    go_wp2_with fail
    go_ret
    exact ⟨rfl, add_fin KO.out KB.out H169.out hge (below2 HBB.out (by repeat (first | with_reducible exact Below.refl _ _ | with_reducible refine Below.drew ?_ | with_reducible refine Below.alloc ?_ (by simp <;> omega) _))) HG.out HO.out (by rcases HT.out with h | h; exact .inl h; exact .inr (by simp; omega))⟩
end Go.Proofs.Ytbjebcbdednijaa.add
