/- The copy of the law's own bytes by the builtin 'copy'. No conditions beyond the hypotheses. -/
import Derived.Test.YtiejadamfgbidabFeF
import Derived.Laws.CopyOwn
namespace Go.Proofs.Ytiejadamfgbidab.fore
open Go.ChangeShapes Go.WideShapes Go.ChangeAt Go.RowKit Go.Mine
set_option linter.unusedVariables false
set_option linter.unusedSimpArgs false
set_option maxRecDepth 100000

theorem splice_all (L cs : List Value) (h : cs.length = L.length) : splice L 0 cs = cs := by
  simp [splice, h]
theorem blk_row {w : World} {g : Nat} {zs : List Int} {k : IntKind} {E : TypeId} (h : Blk w g (zs.map (.int k)).toArray E) (hl : zs.length ≤ maxLen) (hok : ∀ z ∈ zs, (Lit.int k z).wf = true) : IntRow k w (some ⟨g, 0, none⟩) zs.length zs.length zs := by
  refine ⟨rfl, Nat.le_refl _, hl, hok, .inr ⟨g, 0, none, rfl, fun _ => ⟨rfl, h.lt⟩, fun i hi => ?_⟩⟩
  rw [h.cell, Nat.zero_add]
  simp [hi]
set_option maxHeartbeats 1000000 in
theorem clone24 (a : Option Addr) (len cap : Nat) (zs : List Int) (w : World) (h : IntRow .u8 w a len cap zs) (hl : len ≤ 1099511627776) :
    Calls Try.prog 24 #[.slice a len cap] w (Cloned (.int .u8) 0 (fun n : Int => (Lit.int .u8 n).wf = true) w a len zs) := by
  have h0 := h
  obtain ⟨h1, h2, h3, h4, h5⟩ := h
  rcases h5 with ⟨rfl, rfl, rfl⟩ | ⟨b, off, s, rfl, h6, h7⟩
  · have hnil := fun w => Lib.run_eql_slice_nil (P := Try.prog) w 22 5 none 0 0 0 0 Try.underlying22
    have H0 := Lib.hid h0
    clear h0 h1 h4
    go_enter Try.func24, Try.ntmps24
    go_wp2
    go_ret
    exact ⟨none, rfl, H0.out, Iff.rfl, (fun x hx => by cases hx), Below.refl _ _⟩
  · subst h1
    have hmk := run_make_row' 22 5 (.int .u8 0) 1 Try.underlying22 (by kernel_rfl) rfl .i64 .i64 zs.length (by omega) (by omega)
    have hnil := fun w => Lib.run_eql_slice_nil (P := Try.prog) w 22 5 (some ⟨b, off, s⟩) zs.length cap 0 0 Try.underlying22
    have fs := fill_start (zs.map (.int .u8)) (.int .u8 0)
    rw [List.length_map] at fs
    rw [fs] at hmk
    obtain ⟨cur, hcur⟩ : ∃ cur : List Value, cur = List.take 0 (zs.map (.int .u8)) ++ List.replicate ((zs.map (Value.int .u8)).length - 0) (.int .u8 0) := ⟨_, rfl⟩
    have hlen : cur.length = zs.length := by rw [hcur]; simp
    have efill : fillTo (zs.map (.int .u8)) (.int .u8 0) 0 = cur.toArray := by rw [hcur]; rfl
    rw [efill] at hmk
    obtain ⟨X1, hX1⟩ : ∃ X1 : List Value, X1 = zs.map (.int .u8) := ⟨_, rfl⟩
    have hXl : X1.length = zs.length := by rw [hX1]; simp
    have HG : (w.alloc (.cells cur.toArray 5)).heap[w.heap.size]? = some (.cells cur.toArray 5 (0, 0)) := Blk.new _ _ _
    have HP : 0 < X1.length → some (⟨w.heap.size, 0, none⟩ : Addr) = some ⟨w.heap.size, 0, none⟩ ∧ ∃ ad, some (⟨b, off, s⟩ : Addr) = some ad ∧ ∀ j v, X1[j]? = some v → (w.alloc (.cells cur.toArray 5)).cell? (ad.add j) = some v := fun hp => by
      obtain ⟨rfl, hb⟩ := h6 (by omega)
      refine ⟨rfl, _, rfl, fun j v hv => ?_⟩
      have hj : j < zs.length := by
        by_cases hj : j < zs.length
        · exact hj
        · rw [List.getElem?_eq_none (by omega)] at hv; cases hv
      have e : (⟨b, off, none⟩ : Addr).add j = ⟨b, off + j, none⟩ := by
        by_cases h0 : j = 0
        · subst h0; simp [Addr.add]
        · simp [Addr.add, h0]
      rw [e, World.cell?_alloc_past _ _ _ hb, h7 j hj, ← hv, hX1]
      simp [hj]
    have H1 : ∀ v ∈ X1, v.oneCell' = true := by rw [hX1]; intro v hv; simp at hv; obtain ⟨x, _, rfl⟩ := hv; rfl
    have HN : X1.length = Nat.min zs.length zs.length := by rw [hXl]; simp
    have HF : 0 + X1.length ≤ cur.length := by omega
    have HB : Below w.heap.size w (w.alloc (.cells cur.toArray 5)) := (Below.refl _ _).alloc (Nat.le_refl _) _
    have HI := Lib.hid (show ∀ w2, Hid (w2.heap[w.heap.size]? = some (.cells (splice cur 0 X1).toArray 5 (0, 0))) → IntRow .u8 w2 (some ⟨w.heap.size, 0, none⟩) zs.length zs.length zs ∧ w.heap.size < w2.heap.size from fun w2 hg => by
      have hb : Blk w2 w.heap.size (zs.map (.int .u8)).toArray 5 := by
        have := hg.out
        rw [splice_all _ _ (by omega), hX1] at this
        exact this
      exact ⟨blk_row hb (by unfold maxLen; omega) h4, hb.lt⟩)
    have HGH := Lib.hid HG
    have HPH := Lib.hid HP
    have H1H := Lib.hid H1
    have HNH := Lib.hid HN
    have HFH := Lib.hid HF
    have HBH := Lib.hid HB
    clear hcur efill hX1 hlen hXl HG HP H1 HN HF HB fs h0 h4 h6 h7 h2 h3
    go_enter Try.func24, Try.ntmps24
    go_wp2_with (with_reducible refine wpList_copy_splice rfl (.tmp 9) (.tmp 10) 22 22 rfl 5 Try.underlying22 (by kernel_rfl) (some ⟨w.heap.size, 0, none⟩) (some ⟨b, off, s⟩) zs.length zs.length zs.length cap rfl rfl w.heap.size 0 cur 5 HGH.out X1 HNH.out HPH.out HFH.out H1H.out w.heap.size w HBH.out (Nat.le_refl _) ?_; intro w2 hg2 hb2; have HR := Lib.hid (HI.out w2 hg2); have HB2 := Lib.hid hb2; clear hg2 hb2)
    go_ret
    exact ⟨_, rfl, HR.out.1, ⟨(fun h => by cases h), (fun h => by cases h)⟩, (fun x hx => by cases hx; exact ⟨Nat.le_refl _, rfl, rfl, HR.out.2⟩), HB2.out⟩
end Go.Proofs.Ytiejadamfgbidab.fore
