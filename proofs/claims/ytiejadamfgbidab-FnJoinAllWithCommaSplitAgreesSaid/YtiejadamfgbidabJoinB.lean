/- The leaves of a comma tree: the contract of zzNumLeaves. No conditions beyond their hypotheses. -/
import Derived.Test.YtiejadamfgbidabJoinA
namespace Go.Proofs.Ytiejadamfgbidab.join
open Go.ChangeShapes Go.WideShapes Go.ChangeAt Go.RowKit Go.Mine
set_option linter.unusedVariables false
set_option maxRecDepth 100000

theorem info46 : (Try.prog.info? 46).map (fun i => (i.zero, i.size, i.bytes)) = some (some (.pointer none), 1, 8) := by kernel_rfl
def ptr (p : Nat) : Value := .pointer (some ⟨p, 0, none⟩)
def Lv (w0 : World) (n : Nat) (xs : List Value) (ps : List Nat) (e : Ending) (w' : World) : Prop :=
  ∃ v', e = .returned (.tuple #[v', .bool true]) ∧ w'.ownsRow w0.heap.size 46 1 v' (n + ps.length) (xs ++ ps.map ptr) ∧ Below w0.heap.size w0 w'

theorem new1 (w : World) (o : Obj) (x : Value) (t : TypeId) : ∀ j u, [x][j]? = some u → ((w.alloc o).alloc (.cells #[x] t)).cell? ((⟨w.heap.size + 1, 0, none⟩ : Addr).add j) = some u := by
  have h := cell_one_new (w.alloc o) x t
  rw [show (w.alloc o).heap.size = w.heap.size + 1 by simp] at h
  exact h
set_option maxHeartbeats 1000000 in
theorem leaf19 (w0 w : World) (p : Nat) (v : Value) (n : Nat) (xs : List Value) (l : Int) (hb : Below w0.heap.size w0 w) (hown : w.ownsRow w0.heap.size 46 1 v n xs) (hn : n + 1 ≤ 20000) :
    Calls Try.prog 19 #[.agg #[.iface 46 (.pointer (some ⟨p, 0, none⟩)), .int .i32 l], v] w (Lv w0 n xs [p]) := by
  obtain ⟨i0, hi, hz0, hz1, hz2⟩ := info_parts info46
  have hsz := hb.size
  have HO := Lib.hid hown
  have HB := Lib.hid hb
  clear hown hb
  go_enter Try.func19, Try.ntmps19
  go_wp2_with (first | (at_builtin; (refine wpList_append_own _ rfl _ _ 43 rfl w0.heap.size 46 i0 (.pointer none) 1 8 Try.underlying43 hi hz0 hz1 hz2 rfl (by decide) _ _ _ rfl ((HO.out.alloc _).alloc _) ⟨w.heap.size + 1, 0, none⟩ 1 1 [ptr p] rfl rfl (new1 _ _ _ _) (fun x hx => by simp at hx; subst hx; rfl) (by unfold maxLen; omega) (by omega) (by simp; omega) ?_); intro v' w3 hown' hgrow3 hnil3))
  go_wp2_with fail
  go_ret2
  refine ⟨_, rfl, hown', ?_⟩
  go_light
  exact Below.grown ((HB.out.alloc hsz _).alloc (by simp; omega) _) hgrow3 (by simp; omega) (fun k hk => (HO.out.lt k hk).1)

set_option maxHeartbeats 2000000 in
theorem leaves19 (w0 : World) : ∀ (t : Tr) (w : World) (v : Value) (n : Nat) (xs : List Value) (l : Int), t.rep w0 → Below w0.heap.size w0 w → w.ownsRow w0.heap.size 46 1 v n xs → n + t.leaves.length ≤ 20000 →
    Calls Try.prog 19 #[.agg #[.iface t.ty (.pointer (some ⟨t.at_, 0, none⟩)), .int .i32 l], v] w (Lv w0 n xs t.leaves)
  | .leaf p, w, v, n, xs, l, _, hb, hown, hn => leaf19 w0 w p v n xs l hb hown hn
  | .node p tl tr, w, v, n, xs, l, hrep, hb, hown, hn => by
    obtain ⟨⟨la, lb, hblk⟩, hl, hr⟩ := hrep
    have ihl := Lib.hid (leaves19 w0 tl)
    have ihr := Lib.hid (leaves19 w0 tr)
    have hlt := hblk.lt
    have hbw := hblk.below hb
    have c0 : w.cell? ⟨p, 0, none⟩ = some (.iface tl.ty (.pointer (some ⟨tl.at_, 0, none⟩))) := hbw.cell 0
    have c1 : w.cell? ⟨p, 1, none⟩ = some (.int .i32 la) := hbw.cell 1
    have c4 : w.cell? ⟨p, 4, none⟩ = some (.int .u8 36) := hbw.cell 4
    have hlw := hbw.lt
    have HL := Lib.hid hl
    have HR := Lib.hid hr
    have HB := Lib.hid hb
    have HO := Lib.hid hown
    have HK := Lib.hid hblk
    have hsz := hb.size
    have hn' : n + (tl.leaves.length + tr.leaves.length) ≤ 20000 := by simpa [Tr.leaves] using hn
    clear hl hr hb hown hbw hblk hn
    show Calls Try.prog 19 #[.agg #[.iface 110 (.pointer (some ⟨p, 0, none⟩)), .int .i32 l], v] w _
    go_enter Try.func19, Try.ntmps19
    go_wp2_with fail
    refine (ihl.out _ _ n xs _ HL.out (HB.out.alloc hsz _) (HO.out.alloc _) (by go_light; omega)).mono ?_
    rintro e w2 ⟨v2, rfl, ho2, hb2⟩
    have d := HK.out.below hb2
    have d2 : w2.cell? ⟨p, 2, none⟩ = some (.iface tr.ty (.pointer (some ⟨tr.at_, 0, none⟩))) := d.cell 2
    have d3 : w2.cell? ⟨p, 3, none⟩ = some (.int .i32 lb) := d.cell 3
    have HB2 := Lib.hid hb2
    have HO2 := Lib.hid ho2
    clear hb2 ho2 d c0 c1 c4
    go_wp2_with fail
    refine (ihr.out _ _ (n + tl.leaves.length) (xs ++ tl.leaves.map ptr) _ HR.out HB2.out HO2.out (by go_light; omega)).mono ?_
    rintro e w3 ⟨v3, rfl, ho3, hb3⟩
    have HB3 := Lib.hid hb3
    have HO3 := Lib.hid ho3
    clear hb3 ho3 d2 d3
    go_wp2_with fail
    go_ret2
    refine ⟨_, rfl, ?_, HB3.out⟩
    have h := HO3.out
    simpa [Tr.leaves, Nat.add_assoc] using h
end Go.Proofs.Ytiejadamfgbidab.join
