/- The contract of 'storeNameInRef'. No conditions beyond the hypotheses. -/
import Derived.Test.YtoalhglknldpnaaDefA
namespace Go.Proofs.Ytoalhglknldpnaa.df
open Go.ChangeShapes Go.WideShapes Go.ChangeAt Go.RowKit Go.Mine
set_option linter.unusedVariables false
set_option linter.unusedSimpArgs false
set_option maxRecDepth 100000

theorem own_ne {w : World} {B e size n : Nat} {v : Value} {xs : List Value} (h : w.ownsRow B e size v n xs) {q : Nat} {C : Array Value} {t : TypeId} (hq : Blk w q C t) (ht : t ≠ e) : v.ownBlock ≠ some q := by
  rcases h.2 with ⟨rfl, _⟩ | ⟨g, cap, cur, rfl, hb, hg, rest⟩
  · simp [Value.ownBlock]
  · intro e1
    simp only [Value.ownBlock, Option.some.injEq] at e1
    subst e1
    unfold Blk at hq
    rw [hq] at hg
    injection hg with e1
    injection e1 with _ e1
    exact ht e1
theorem own_ge {w : World} {B e size n : Nat} {v : Value} {xs : List Value} (h : w.ownsRow B e size v n xs) {g : Nat} (hg : v.ownBlock = some g) : B ≤ g ∧ g < w.heap.size := by
  rcases h.2 with ⟨rfl, _⟩ | ⟨g', cap, cur, rfl, hb, hg', rest⟩
  · simp [Value.ownBlock] at hg
  · have e : g' = g := by simpa [Value.ownBlock] using hg
    subst e
    exact ⟨hb, lt_of_block hg'⟩
theorem own_kept {w w' : World} {B e size n : Nat} {v : Value} {xs : List Value} (h : w.ownsRow B e size v n xs) (hk : ∀ g, v.ownBlock = some g → w'.heap[g]? = w.heap[g]?) : w'.ownsRow B e size v n xs := by
  refine ⟨h.1, ?_⟩
  rcases h.2 with h2 | ⟨g, cap, cur, hv, hb, hg, rest⟩
  · exact .inl h2
  · refine .inr ⟨g, cap, cur, hv, hb, ?_, rest⟩
    rw [hk g (by subst hv; rfl)]
    exact hg
theorem grown_keep {wr wA w3 : World} {P : Nat} {C : Array Value} {t : TypeId} {row : Option Nat} (hB : Blk wr P C t) (hA : Below wr.heap.size wr wA) (hg : wA.grownBy w3 row) (hne : row ≠ some P) : Blk w3 P C t :=
  (hg.block P (Nat.lt_of_lt_of_le hB.lt hA.size) (Ne.symm hne)).trans ((hA.block P hB.lt).trans hB)
theorem blk_new' (W : World) {B : Nat} {C : Array Value} {t : TypeId} (h : W.heap.size = B) : Blk (W.alloc (.cells C t)) B C t := h ▸ Blk.new W C t
theorem infoS : (Try.prog.info? 9).map (fun i => (i.zero, i.size, i.bytes)) = some (some (.string ByteArray.empty), 1, 16) := by kernel_rfl
/-- The blocks that a call may have changed. -/
abbrev Ch (p : Nat) (a : Option Addr) (n c : Nat) (k : Nat) : Prop := k = p ∨ (Value.slice a n c).ownBlock = some k
theorem PS.kept {lo p n c : Nat} {a : Option Addr} {w w' : World} (h : PS lo p a n c w) (hb : Below w.heap.size w w') : PS lo p a n c w' := by
  obtain ⟨⟨xs, ho⟩, ⟨C, hb1, h103⟩, hg⟩ := h
  exact ⟨⟨xs, own_kept ho fun g hg => hb.block g (own_ge ho hg).2⟩, ⟨C, hb1.below hb, h103⟩, hg⟩
def Stored (lo p : Nat) (a : Option Addr) (n c : Nat) (w : World) (e : Ending) (w' : World) : Prop :=
  (∃ x y : Int, e = .returned (.agg #[.int .u32 x, .int .u32 y])) ∧ (∃ a' c', PS lo p a' (n + 1) c' w') ∧ Same (Ch p a n c) w w' ∧ (∀ w0, Below lo w0 w → Below lo w0 w')
theorem st_fin {lo p n c gg cap : Nat} {a : Option Addr} {w W' w3 : World} {xs ys : List Value} {C : Array Value} (ko : w.ownsRow lo 9 1 (.slice a n c) n xs) (kb : Blk w p C 160) (h103 : C[103]? = some (.slice a n c)) (hge : lo ≤ p) (hb : Below w.heap.size w W')
    (hs : w.heap.size + 2 ≤ W'.heap.size) (hg : W'.grownBy w3 (Value.slice a n c).ownBlock) (hown3 : w3.ownsRow lo 9 1 (.slice (some ⟨gg, 0, none⟩) (n + 1) cap) (n + 1) ys) (hat : (Value.slice a n c).ownBlock = some gg ∨ W'.heap.size ≤ gg) (x y : Value) :
    PS lo p (some ⟨gg, 0, none⟩) (n + 1) cap (((w3.setCell ⟨p, 103, none⟩ (.slice (some ⟨gg, 0, none⟩) (n + 1) cap)).setCell ⟨w.heap.size + 1, 0, none⟩ x).setCell ⟨w.heap.size + 1, 1, none⟩ y) ∧
      Same (Ch p a n c) w (((w3.setCell ⟨p, 103, none⟩ (.slice (some ⟨gg, 0, none⟩) (n + 1) cap)).setCell ⟨w.heap.size + 1, 0, none⟩ x).setCell ⟨w.heap.size + 1, 1, none⟩ y) ∧
      (∀ w0, Below lo w0 w → Below lo w0 (((w3.setCell ⟨p, 103, none⟩ (.slice (some ⟨gg, 0, none⟩) (n + 1) cap)).setCell ⟨w.heap.size + 1, 0, none⟩ x).setCell ⟨w.heap.size + 1, 1, none⟩ y)) := by
  have hne := own_ne ko kb (by decide)
  have K3 : Blk w3 p C 160 := grown_keep kb hb hg hne
  have hp := kb.lt
  have hgp : gg ≠ p := fun e => by
    have := own_ne hown3 K3 (by decide)
    subst e
    exact this rfl
  have hgR : gg ≠ w.heap.size + 1 := fun e => by
    rcases hat with h | h
    · have := (own_ge ko h).2; omega
    · omega
  have hpR : p ≠ w.heap.size + 1 := by omega
  have hsz : 103 < C.size := by
    rcases Nat.lt_or_ge 103 C.size with h | h
    · exact h
    · rw [Array.getElem?_eq_none h] at h103; cases h103
  refine ⟨⟨⟨ys, own_kept hown3 fun g hg' => ?_⟩, ⟨C.setIfInBounds 103 (.slice (some ⟨gg, 0, none⟩) (n + 1) cap), ?_, ?_⟩, hge⟩, ⟨?_, fun k hk hx => ?_⟩, fun w0 h0 => ?_⟩
  · have e : gg = g := by simpa [Value.ownBlock] using hg'
    subst e
    rw [Below.heap_setCell _ _ _ _ hgR, Below.heap_setCell _ _ _ _ hgR, Below.heap_setCell _ _ _ _ hgp]
  · exact ((K3.set 103 _).setOther (a := ⟨w.heap.size + 1, 0, none⟩) hpR x).setOther (a := ⟨w.heap.size + 1, 1, none⟩) hpR y
  · simp [hsz]
  · rw [size_set, size_set, size_set]
    have := hg.size
    omega
  · have k1 : k ≠ w.heap.size + 1 := by omega
    have k2 : k ≠ p := fun e => hx (.inl e)
    have k3 : some k ≠ (Value.slice a n c).ownBlock := fun e => hx (.inr e.symm)
    rw [Below.heap_setCell _ _ _ _ k1, Below.heap_setCell _ _ _ _ k1, Below.heap_setCell _ _ _ _ k2, hg.block k (by omega) k3, hb.block k hk]
  · have hl : lo ≤ w.heap.size := by omega
    exact (((Below.grown (h0.trans (hb.mono hl)) hg (by omega) (fun k hk => (own_ge ko hk).1)).setCell (p := ⟨p, 103, none⟩) hge _).setCell (p := ⟨w.heap.size + 1, 0, none⟩) (show lo ≤ w.heap.size + 1 by omega) _).setCell (p := ⟨w.heap.size + 1, 1, none⟩) (show lo ≤ w.heap.size + 1 by omega) _
set_option maxHeartbeats 8000000 in
theorem store13 (lo p : Nat) (s : ByteArray) (a : Option Addr) (n c : Nat) (w : World) (h : PS lo p a n c w) (hn : n ≤ 65536) :
    Calls Try.prog 13 #[.pointer (some ⟨p, 0, none⟩), .agg #[.string s, .int .u32 0]] w (Stored lo p a n c w) := by
  obtain ⟨⟨xs, ho⟩, ⟨C, hb, h103⟩, hge⟩ := h
  obtain ⟨i0, hi, hz0, hz1, hz2⟩ := info_parts infoS
  have hne := own_ne ho hb (by decide)
  have n0 := (hb.cell 103).trans h103
  have f0 := hb.free 103
  have fl := hb.lt
  have fl1 : p < w.heap.size + 1 := by omega
  have fl2 : p < w.heap.size + 1 + 1 := by omega
  have fl3 : p < w.heap.size + 1 + 1 + 1 := by omega
  have KO := Lib.hid ho
  have KB := Lib.hid hb
  have HNE := Lib.hid hne
  have H103 := Lib.hid h103
  clear ho hb hne h103
  go_enter Try.func13, Try.ntmps13
  go_upto_region 4 with (first | (go_at_call 23; refine (c23 _).mono ?_; rintro e w1 ⟨rfl, rfl⟩))
  have hB3 : ∀ x y z u : Obj, Blk ((((w.alloc x).alloc y).alloc z).alloc (.cells #[.int .u32 2147483648, .int .u32 n] 156)) (w.heap.size + 1 + 1 + 1) #[.int .u32 2147483648, .int .u32 n] 156 := fun x y z _ => blk_new' _ (by simp)
  have hB1 : ∀ x z u : Obj, Blk ((((w.alloc x).alloc (.cells #[.int .u32 0, .int .u32 0] 156)).alloc z).alloc u) (w.heap.size + 1) #[.int .u32 0, .int .u32 0] 156 := fun x z u => ((blk_new' _ (by simp) : Blk ((w.alloc x).alloc (.cells #[.int .u32 0, .int .u32 0] 156)) (w.heap.size + 1) _ _).alloc z).alloc u
  have hB0 : ∀ y z u : Obj, Blk ((((w.alloc (.cells #[.string s, .int .u32 0] 53)).alloc y).alloc z).alloc u) w.heap.size #[.string s, .int .u32 0] 53 := fun y z u => (((Blk.new w _ _).alloc y).alloc z).alloc u
  have hBB : ∀ x y z u : Obj, Below w.heap.size w ((((w.alloc x).alloc y).alloc z).alloc u) := fun x y z u => ((((Below.refl _ _).alloc (Nat.le_refl _) x).alloc (by simp) y).alloc (by simp; omega) z).alloc (by simp; omega) u
  generalize hW : ((((w.alloc (Obj.cells #[Value.string s, Value.int IntKind.u32 0] 53)).alloc (Obj.cells #[Value.int IntKind.u32 0, Value.int IntKind.u32 0] 156)).alloc (Obj.cells #[Value.int IntKind.u32 0] 51)).alloc (Obj.cells #[Value.int IntKind.u32 2147483648, Value.int IntKind.u32 ↑n] 156)) = W1
  have b3 := hB3 (Obj.cells #[Value.string s, Value.int IntKind.u32 0] 53) (Obj.cells #[Value.int IntKind.u32 0, Value.int IntKind.u32 0] 156) (Obj.cells #[Value.int IntKind.u32 0] 51) (Obj.cells #[Value.int IntKind.u32 2147483648, Value.int IntKind.u32 ↑n] 156)
  have b1 := hB1 (Obj.cells #[Value.string s, Value.int IntKind.u32 0] 53) (Obj.cells #[Value.int IntKind.u32 0] 51) (Obj.cells #[Value.int IntKind.u32 2147483648, Value.int IntKind.u32 ↑n] 156)
  have b0 := hB0 (Obj.cells #[Value.int IntKind.u32 0, Value.int IntKind.u32 0] 156) (Obj.cells #[Value.int IntKind.u32 0] 51) (Obj.cells #[Value.int IntKind.u32 2147483648, Value.int IntKind.u32 ↑n] 156)
  have bb := hBB (Obj.cells #[Value.string s, Value.int IntKind.u32 0] 53) (Obj.cells #[Value.int IntKind.u32 0, Value.int IntKind.u32 0] 156) (Obj.cells #[Value.int IntKind.u32 0] 51) (Obj.cells #[Value.int IntKind.u32 2147483648, Value.int IntKind.u32 ↑n] 156)
  have sz : W1.heap.size = w.heap.size + 1 + 1 + 1 + 1 := by rw [← hW]; simp
  rw [hW] at b3 b1 b0 bb
  clear hW hB3 hB1 hB0 hBB n0 f0
  have m0 : W1.cell? ⟨p, 103, none⟩ = some (.slice a n c) := ((KB.out.below bb).cell 103).trans H103.out
  have m1 : W1.frozen? ⟨p, 103, none⟩ = false := (KB.out.below bb).free 103
  have m2 := (KB.out.below bb).lt
  have m3 : W1.cell? ⟨w.heap.size, 0, none⟩ = some (.string s) := b0.cell 0
  have m4 := b0.lt
  have KO1 := Lib.hid (own_kept KO.out (fun g hg => bb.block g (own_ge KO.out hg).2))
  have hl : lo ≤ W1.heap.size := by omega
  have K3 := Lib.hid b3
  have K1 := Lib.hid b1
  have BB := Lib.hid bb
  have SZ := Lib.hid sz
  have HW1 : Hid (∀ g, (Value.slice a n c).ownBlock = some g → g < w.heap.size) := Lib.hid fun g hg => (own_ge KO.out hg).2
  have HN1 : Hid ((Value.slice a n c).ownBlock ≠ some (w.heap.size + 1)) := Lib.hid fun e => by have := HW1.out _ e; omega
  have HN3 : Hid ((Value.slice a n c).ownBlock ≠ some (w.heap.size + 1 + 1 + 1)) := Lib.hid fun e => by have := HW1.out _ e; omega
  have KP : Hid (Blk W1 p C 160) := Lib.hid (KB.out.below bb)
  clear b3 b1 b0 bb sz
  go_region_law ((refine step_append_lies _ (by rfl) _ _ _ (by rfl) lo 9 i0 _ 1 16 Try.underlying82 hi hz0 hz1 hz2 rfl (by decide) (.slice a n c) n _ (by rfl) (KO1.out.alloc _) ⟨W1.heap.size, 0, none⟩ 1 1 [.string s] (by rfl) (by rfl) (cell_one_new _ _ _) (by simp [Value.oneCell']) (by decide) (by unfold maxLen; omega) (by omega) (by simp; omega) (W1.heap.size + 1) (by simp) ?_; intro gg cap w3 hown3 hgrow3 hat3 hlt3; have KK := grown_keep KP.out (by repeat (first | with_reducible exact Below.refl _ _ | with_reducible refine Below.drew ?_ | with_reducible refine Below.alloc ?_ (by simp <;> omega) _)) hgrow3 HNE.out; have k1 := KK.free 103; have k2 := KK.lt; have k3 : w3.cell? ⟨p, 103, none⟩ = some (.slice a n c) := (KK.cell 103).trans H103.out))
  all_goals
    have q3 := grown_keep K3.out (by repeat (first | with_reducible exact Below.refl _ _ | with_reducible refine Below.drew ?_ | with_reducible refine Below.alloc ?_ (by simp <;> omega) _)) hgrow3 HN3.out
    have q1 := grown_keep K1.out (by repeat (first | with_reducible exact Below.refl _ _ | with_reducible refine Below.drew ?_ | with_reducible refine Below.alloc ?_ (by simp <;> omega) _)) hgrow3 HN1.out
    have c30 := q3.cell 0
    have c31 := q3.cell 1
    have c10 := q1.cell 0
    have c11 := q1.cell 1
    have f10 := q1.free 0
    have f11 := q1.free 1
    have l3 := q3.lt
    have l1 := q1.lt
    have l2 : gg < w3.heap.size := hlt3
    have HG := Lib.hid hgrow3
    have HO := Lib.hid hown3
    have HT := Lib.hid hat3
    simp at c30 c31 c10 c11
    clear q3 q1 hgrow3 hown3 hat3 k1 k2 k3 KK m0 m1 m2 m3 m4
    go_wp2
    have e1 : ¬ p = w.heap.size + 1 := by omega
    have e2 : ¬ w.heap.size + 1 = p := by omega
    refine bodyPost_ret (v := .agg #[.int .u32 2147483648, .int .u32 n]) (by simp [results, Try.results13, go_sem, e1, e2, c10, c11, l1]; try (first | exact ⟨rfl, rfl⟩ | rfl)) rfl ?_
    have F := st_fin KO.out KB.out H103.out hge (below2 BB.out (by repeat (first | with_reducible exact Below.refl _ _ | with_reducible refine Below.drew ?_ | with_reducible refine Below.alloc ?_ (by simp <;> omega) _))) (by have := SZ.out; simp; omega) HG.out HO.out (by rcases HT.out with h | h; exact .inl h; exact .inr (by simp; omega)) (.int .u32 2147483648) (.int .u32 n)
    exact ⟨⟨_, _, rfl⟩, ⟨_, _, F.1⟩, F.2.1, F.2.2⟩
end Go.Proofs.Ytoalhglknldpnaa.df
