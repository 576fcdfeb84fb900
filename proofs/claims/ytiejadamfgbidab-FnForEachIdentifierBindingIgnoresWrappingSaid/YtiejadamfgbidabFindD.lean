/- 'zzDecodeBinding' where no child is read. No conditions beyond the hypotheses. -/
import Derived.Test.YtiejadamfgbidabFindC
namespace Go.Proofs.Ytiejadamfgbidab.find
open Go.ChangeShapes Go.WideShapes Go.ChangeAt Go.RowKit Go.Mine
set_option linter.unusedVariables false
set_option linter.unusedSimpArgs false
set_option maxRecDepth 100000

theorem box_kept {w w3 : World} {C : Array Value} {t : TypeId} {o : Obj} {B e size n : Nat} {v : Value} {xs : List Value} (ho : w.ownsRow B e size v n xs) (hg : ((w.alloc (.cells C t)).alloc o).grownBy w3 v.ownBlock) : Blk w3 w.heap.size C t := by
  have h1 : Blk ((w.alloc (.cells C t)).alloc o) w.heap.size C t := (Blk.new w C t).alloc o
  exact (hg.block w.heap.size h1.lt (fun e => by have := (ho.lt _ e.symm).2; omega)).trans h1
theorem app_lf {w w3 : World} {o1 o2 : Obj} {B n : Nat} {v v' : Value} {xs : List Value} (hB : B ≤ w.heap.size) (ho : w.ownsRow B 21 1 v n xs) (p : Nat) (l : Int) (hown' : w3.ownsRow B 21 1 v' (n + 1) (xs ++ [.int .i32 l])) (hg : ((w.alloc o1).alloc o2).grownBy w3 v.ownBlock)
    (hat : v'.ownBlock = v.ownBlock ∨ v'.ownBlock = some ((w.alloc o1).alloc o2).heap.size) : Lf B v n xs [(p, l)] w v' w3 := by
  refine ⟨hown', ?_, ?_, ?_⟩
  · exact Below.grown (((Below.refl B w).alloc hB _).alloc (by simp; omega) _) hg (by simp; omega) (fun k hk => (ho.lt k hk).1)
  · refine ⟨by have := hg.size; simp at this; omega, fun b hb hx => ?_⟩
    rw [hg.block b (by simp; omega) (fun e => hx e.symm), Below.heap_alloc _ _ _ (by simp; omega), Below.heap_alloc _ _ _ hb]
  · intro b hb
    rcases hat with e | e
    · exact .inl (e.symm.trans hb)
    · have := Option.some.inj (hb.symm.trans e)
      simp at this
      exact .inr (by omega)
abbrev dargs (a : Option Addr) (len c pos : Nat) (v : Value) : Array Value := #[.slice a len c, .int .i64 (pos : Int), .int .i32 0, v]
set_option maxHeartbeats 1000000 in
theorem dec_end (B : Nat) (a : Option Addr) (len c pos : Nat) (v : Value) (n : Nat) (xs : List Value) (w : World) (h : len ≤ pos) (hp : pos ≤ 4096) (hB : B ≤ w.heap.size) (ho : w.ownsRow B 21 1 v n xs) :
    Calls Try.prog 21 (dargs a len c pos v) w (Dec B len pos v n xs w) := by
  obtain ⟨av, cv, rfl⟩ := own_form ho
  have H := Lib.hid ho
  have HR := Lib.hid (ho.lt)
  clear ho
  go_enter Try.func21, Try.ntmps21
  go_wp2_with fail
  refine bodyPost_ret (v := .tuple #[.agg #[.iface 69 (.pointer (some ⟨w.heap.size + 1, 0, none⟩)), .int .i32 (-1)], .int .i64 (pos : Int), .slice av n cv]) (by simp [results, Try.results21, go_sem]) rfl ⟨fun _ => False, 69, w.heap.size + 1, -1, [], pos, av, cv, rfl, .miss _ _, fun b hb => hb.elim, fun b _ hb => hb.elim, (Lf.refl H.out).post ?_ hB, Nat.le_refl _, .inr rfl, Nat.zero_le _⟩
  go_light
  repeat (first | with_reducible exact Below.refl _ _ | with_reducible refine Below.drew ?_ | with_reducible refine Below.alloc ?_ (by simp <;> omega) _ | with_reducible refine Below.setCell ?_ (by simp <;> omega) _)
set_option maxHeartbeats 1000000 in
theorem dec_other (B b off len c pos : Nat) (v : Value) (n : Nat) (xs : List Value) (w : World) (k : Int) (hc : w.cell? ⟨b, off + pos, none⟩ = some (.int .u8 k)) (hk0 : 0 ≤ k) (hk : k % 4 = 3) (h : pos < len) (hp : len ≤ 4096) (hB : B ≤ w.heap.size) (ho : w.ownsRow B 21 1 v n xs) :
    Calls Try.prog 21 (dargs (some ⟨b, off, none⟩) len c pos v) w (Dec B len pos v n xs w) := by
  obtain ⟨av, cv, rfl⟩ := own_form ho
  have H := Lib.hid ho
  have hl := cell_lt hc
  have hl1 := Nat.lt_succ_of_lt hl
  clear ho
  go_enter Try.func21, Try.ntmps21
  go_wp2_with fail
  refine bodyPost_ret (v := .tuple #[.agg #[.iface 69 (.pointer (some ⟨w.heap.size + 1, 0, none⟩)), .int .i32 (pos : Int)], .int .i64 ((pos + 1 : Nat) : Int), .slice av n cv]) (by simp [results, Try.results21, go_sem]) rfl ⟨fun _ => False, 69, w.heap.size + 1, pos, [], pos + 1, av, cv, rfl, .miss _ _, fun b hb => hb.elim, fun b _ hb => hb.elim, (Lf.refl H.out).post ?_ hB, by omega, .inl (by omega), Nat.zero_le _⟩
  go_light
  repeat (first | with_reducible exact Below.refl _ _ | with_reducible refine Below.drew ?_ | with_reducible refine Below.alloc ?_ (by simp <;> omega) _ | with_reducible refine Below.setCell ?_ (by simp <;> omega) _)
set_option maxHeartbeats 1000000 in
theorem dec_leaf (B b off len c pos : Nat) (v : Value) (n : Nat) (xs : List Value) (w : World) (k : Int) (hc : w.cell? ⟨b, off + pos, none⟩ = some (.int .u8 k)) (hk0 : 0 ≤ k) (hk : k % 4 = 0) (h : pos < len) (hp : len ≤ 4096) (hn : n + 1 ≤ 20000) (hB : B ≤ w.heap.size) (ho : w.ownsRow B 21 1 v n xs) :
    Calls Try.prog 21 (dargs (some ⟨b, off, none⟩) len c pos v) w (Dec B len pos v n xs w) := by
  obtain ⟨i0, hi, hz0, hz1, hz2⟩ := info_parts info21
  obtain ⟨av, cv, rfl⟩ := own_form ho
  have H := Lib.hid ho
  have hl := cell_lt hc
  have hl1 := Nat.lt_succ_of_lt hl
  have hnew := cells_new (w.alloc (.cells #[.nilIface, .int .i32 0] 59)) [.int .i32 (pos : Int)] 21
  rw [show (w.alloc (.cells #[.nilIface, .int .i32 0] 59)).heap.size = w.heap.size + 1 by simp] at hnew
  clear ho
  go_enter Try.func21, Try.ntmps21
  go_wp2_with (first | (at_builtin; (refine wpList_append_own_at _ rfl _ _ 47 rfl B 21 i0 (.int .i32 0) 1 4 Try.underlying47 hi hz0 hz1 hz2 rfl (by decide) _ _ _ rfl ((H.out.alloc _).alloc _) ⟨w.heap.size + 1, 0, none⟩ 1 1 [.int .i32 (pos : Int)] rfl rfl hnew (fun x hx => by simp at hx; subst hx; rfl) (by unfold maxLen; omega) (by omega) (by simp; omega) ?_); intro v' w3 hown' hgrow3 hnil3 hat3; obtain ⟨a', c', rfl⟩ := own_form hown'; have hbx := box_kept H.out hgrow3; have k0 : w3.cell? ⟨w.heap.size, 0, none⟩ = some .nilIface := hbx.cell 0; have k1 : w3.cell? ⟨w.heap.size, 1, none⟩ = some (.int .i32 0) := hbx.cell 1; have k2 := hbx.free 0; have k3 := hbx.free 1; have k4 := hbx.lt; have L3 := Lib.hid (app_lf hB H.out w3.heap.size (pos : Int) hown' hgrow3 hat3); have HBX := Lib.hid hbx; clear hown' hgrow3 hnil3 hat3 hbx))
  go_wp2_with fail
  refine bodyPost_ret (v := .tuple #[.agg #[.iface 50 (.pointer (some ⟨w3.heap.size, 0, none⟩)), .int .i32 (pos : Int)], .int .i64 ((pos + 1 : Nat) : Int), .slice a' (n + 1) c']) (by simp [results, Try.results21, go_sem, k0, k1, k4]) rfl ⟨fun _ => False, 50, w3.heap.size, pos, [(w3.heap.size, (pos : Int))], pos + 1, a', c', rfl, .leaf _ _, fun b hb => hb.elim, fun b _ hb => hb.elim, ?_, by omega, .inl (by omega), by simp⟩
  go_light
  have L4 := L3.out.store hB HBX.out (by decide) (Nat.le_refl _) 0 (.iface 50 (.pointer (some ⟨w3.heap.size, 0, none⟩)))
  have L5 := L4.store hB (HBX.out.set 0 _) (by decide) (Nat.le_refl _) 1 (.int .i32 (pos : Int))
  exact L5.post ((Below.refl _ _).alloc (Nat.le_refl _) _) (by simp only [size_set]; omega)
end Go.Proofs.Ytiejadamfgbidab.find
