/- How 'zzBuildChain' lays a chain: the small callees and the round's step. No conditions beyond the hypotheses. -/
import Derived.Test.YtanaidcjiinpaaaRROptE
import Derived.Laws.MakeOwn
namespace Go.Proofs.YtanaidcjiinpaaaRR.opt
open Go.ChangeShapes Go.WideShapes Go.ChangeAt Go.RowKit Go.Mine
set_option linter.unusedVariables false
set_option linter.unusedSimpArgs false
set_option maxRecDepth 100000

theorem len_toList (s : ByteArray) : s.toList.length = s.size := by rw [ByteArray.toList_eq]; rfl
theorem get_toList (s : ByteArray) (k : Nat) (h : k < s.size) : s.toList[k]? = some s[k] := by
  rw [ByteArray.toList_eq]
  show s.data.toList[k]? = some s.data[k]
  have h' : k < s.data.size := h
  simp [h']
theorem units_len (s : ByteArray) : (units s).length = s.size := by unfold units; rw [List.length_map, len_toList]
theorem units_at (s : ByteArray) (k : Nat) (h : k < s.size) : (units s)[k]? = some (s[k].toNat : Int) := by unfold units; rw [List.getElem?_map, get_toList s k h]; rfl
theorem units_wf (s : ByteArray) : ∀ z ∈ units s, (Lit.int .u16 z).wf = true := fun z hz => by
  unfold units at hz
  obtain ⟨c, _, rfl⟩ := List.mem_map.1 hz
  have := c.toNat_lt
  have e1 : IntKind.u16.min = 0 := by rfl
  have e2 : IntKind.u16.max = 65535 := by rfl
  show (decide (IntKind.u16.min ≤ (c.toNat : Int)) && decide ((c.toNat : Int) ≤ IntKind.u16.max)) = true
  rw [e1, e2, Bool.and_eq_true]
  exact ⟨decide_eq_true (by omega), decide_eq_true (by omega)⟩
theorem blk_row {w : World} {g : Nat} {zs : List Int} {k : IntKind} {E : TypeId} (h : Blk w g (zs.map (.int k)).toArray E) (hl : zs.length ≤ maxLen) (hok : ∀ z ∈ zs, (Lit.int k z).wf = true) : IntRow k w (some ⟨g, 0, none⟩) zs.length zs.length zs := by
  refine ⟨rfl, Nat.le_refl _, hl, hok, .inr ⟨g, 0, none, rfl, fun _ => ⟨rfl, h.lt⟩, fun i hi => ?_⟩⟩
  rw [h.cell, Nat.zero_add]
  simp [hi]
set_option maxHeartbeats 1000000 in
theorem utf12 (s : ByteArray) (w : World) (hs : s.size ≤ 1048576) : Calls Try.prog 12 #[.string s] w fun e w' => e = .returned (.slice (some ⟨w.heap.size, 0, none⟩) s.size s.size) ∧ w' = w.alloc (.cells ((units s).map (.int .u16)).toArray 67) := by
  have hmk := run_make_row' 56 67 (.int .u16 0) 2 Try.underlying56 (by kernel_rfl) rfl .i64 .i64 s.size (by omega) (by omega)
  have hul : ((units s).map (Value.int .u16)).length = s.size := by rw [List.length_map, units_len]
  have fs := fill_start ((units s).map (.int .u16)) (.int .u16 0)
  rw [hul] at fs
  rw [fs] at hmk
  have HU := Lib.hid hul
  clear fs hul
  go_enter Try.func12, Try.ntmps12
  go_wp2
  go_loopw [4] (fun i wr => ∃ k : Nat, k ≤ s.size ∧ i = .int .i64 k ∧ wr = w.alloc (.cells (fillTo ((units s).map (.int .u16)) (.int .u16 0) k) 67)) (fun i _ => s.size - (intOf i).toNat)
  case atStart => exact ⟨0, Nat.zero_le _, rfl, rfl⟩
  case round =>
    obtain ⟨k, hk, rfl, rfl⟩ := hrel
    clear hmk
    by_cases hlt : k < s.size
    · have hsz := fill_size ((units s).map (.int .u16)) (.int .u16 0) (k := k) (by rw [HU.out]; omega)
      rw [HU.out] at hsz
      have hfs := Lib.hid (fill_set (zs := (units s).map (.int .u16)) (z := .int .u16 0) (v := .int .u16 (s[k].toNat : Int)) (k := k) (by rw [HU.out]; exact hlt) (by rw [List.getElem?_map, units_at s k hlt]; rfl))
      have hb := s[k].toNat_lt
      go_wp2
      go_roundw
      case rel => exact ⟨k + 1, by omega, by go_num, by rw [hfs.out]⟩
      case measure => simp [intOf]; omega
    · have e : k = s.size := by omega
      subst e
      go_wp2
      go_ret
      have fe := fill_end ((units s).map (.int .u16)) (.int .u16 0)
      rw [HU.out] at fe
      exact ⟨rfl, by rw [fe]⟩
def Str (w : World) (e : Ending) (w' : World) : Prop := (∃ s : ByteArray, s.size ≤ 1048576 ∧ e = .returned (.string s)) ∧ w = w'
theorem name11 (a : Option Addr) (len cap : Nat) (zs : List ByteArray) (i : Nat) (w : World) (h : StrRow w a len cap zs) (hs : ∀ j, j < len → (zs.getD j ByteArray.empty).size ≤ 1048576) (hi : i ≤ 1048576) :
    Calls Try.prog 11 #[.slice a len cap, .int .i64 (i : Int)] w (Str w) := by
  have hm : len ≤ 9223372036854775807 := by have := h.2.1; have := h.2.2.1; unfold maxLen at this; omega
  by_cases hlt : i < len
  · obtain ⟨b, off, rfl, hb, hc⟩ := h.at hlt
    have hz := Lib.hid (hs i hlt)
    generalize zs.getD i ByteArray.empty = s at *
    clear h hs
    go_enter Try.func11, Try.ntmps11
    go_wp2
    go_ret
    exact ⟨⟨s, hz.out, rfl⟩, rfl⟩
  · clear h hs
    go_enter Try.func11, Try.ntmps11
    go_wp2
    go_ret
    exact ⟨⟨⟨#[]⟩, Nat.zero_le _, rfl⟩, rfl⟩
theorem flag10 (k p o : Nat) (f : Int) (w : World) (hp : p < w.heap.size) (hk : (k = 0 ∧ o = 4) ∨ (k = 1 ∧ o = 5) ∨ (k = 2 ∧ o = 4)) (hc : w.cell? ⟨p, o, none⟩ = some (.int .u8 f)) :
    Calls Try.prog 10 #[.agg #[if k = 0 then .pointer (some ⟨p, 0, none⟩) else .pointer none, if k = 1 then .pointer (some ⟨p, 0, none⟩) else .pointer none, if k = 2 then .pointer (some ⟨p, 0, none⟩) else .pointer none]] w fun e w' => e = .returned (.int .u8 f) ∧ ∃ o, w' = w.alloc o := by
  have hp1 := Nat.lt_succ_of_lt hp
  rcases hk with ⟨rfl, rfl⟩ | ⟨rfl, rfl⟩ | ⟨rfl, rfl⟩
  all_goals
    simp only [if_true, Nat.zero_ne_one, Nat.reduceEqDiff, if_false]
    go_enter Try.func10, Try.ntmps10
    go_wp2
    go_ret
    exact ⟨rfl, _, rfl⟩
/-- The loop's state behind the chain B: the variables' blocks, the row of nodes. -/
structure Bs (r : Int) (w : World) (m : Nat) (B : List Nd) (wr : World) : Prop where
  rp : rep wr (w.heap.size + 4) (w.heap.size + 1) r B
  cur : Blk wr (w.heap.size + 2) #[ifp (ty B) (pl (w.heap.size + 1) B), .int .i32 0] 34
  res : Blk wr w.heap.size #[.nilIface, .int .i32 0] 34
  row : wr.rowIs (w.heap.size + 3) 46 (m * 3) (ndCell B)
  bel : Below w.heap.size w wr
theorem bs_step {r : Int} {w : World} {m i : Nat} {B : List Nd} {wr wa : World} {n : Nd} (R : Bs r w m B wr) (hi : B.length = i) (hb : Below wr.heap.size wr wa) (hN : Node wa (w.heap.size + 4) n (ty B) (pl (w.heap.size + 1) B)) (x0 x1 x2 : Value)
    (h0 : x0 = if n.k = 0 then .pointer (some ⟨n.p, 0, none⟩) else .pointer none) (h1 : x1 = if n.k = 1 then .pointer (some ⟨n.p, 0, none⟩) else .pointer none) (h2 : x2 = if n.k = 2 then .pointer (some ⟨n.p, 0, none⟩) else .pointer none) :
    Bs r w m (n :: B) (((((wa.setCell ⟨w.heap.size + 3, i * 3, none⟩ x0).setCell ⟨w.heap.size + 3, i * 3 + 1, none⟩ x1).setCell ⟨w.heap.size + 3, i * 3 + 2, none⟩ x2).setCell ⟨w.heap.size + 2, 0, none⟩ (ifp (ty (n :: B)) n.p)).setCell ⟨w.heap.size + 2, 1, none⟩ (.int .i32 0)) := by
  have hbw := R.bel.size
  have hrow := R.row.lt
  have e23 : w.heap.size + 2 ≠ w.heap.size + 3 := by omega
  have e32 : w.heap.size + 3 ≠ w.heap.size + 2 := by omega
  have l3 : w.heap.size ≤ w.heap.size + 3 := by omega
  have l2 : w.heap.size ≤ w.heap.size + 2 := by omega
  have keep : ∀ k, k ≠ w.heap.size + 2 → k ≠ w.heap.size + 3 → (((((wa.setCell ⟨w.heap.size + 3, i * 3, none⟩ x0).setCell ⟨w.heap.size + 3, i * 3 + 1, none⟩ x1).setCell ⟨w.heap.size + 3, i * 3 + 2, none⟩ x2).setCell ⟨w.heap.size + 2, 0, none⟩ (ifp (ty (n :: B)) n.p)).setCell ⟨w.heap.size + 2, 1, none⟩ (.int .i32 0)).heap[k]? = wa.heap[k]? := fun k e1 e2 => by
    rw [Below.heap_setCell _ _ _ _ e1, Below.heap_setCell _ _ _ _ e1, Below.heap_setCell _ _ _ _ e2, Below.heap_setCell _ _ _ _ e2, Below.heap_setCell _ _ _ _ e2]
  refine ⟨⟨hN.kept (Nat.le_refl _) (fun k h1 h2 h3 => keep k (by omega) (by omega)), (R.rp.below hb).kept (Nat.le_refl _) (fun k h1 h2 => keep k (by rcases h1 with h1 | h1 <;> omega) (by rcases h1 with h1 | h1 <;> omega))⟩, ?_, ?_, ?_, ?_⟩
  · have h := (((((R.cur.below hb).setOther (a := ⟨w.heap.size + 3, i * 3, none⟩) e23 x0).setOther (a := ⟨w.heap.size + 3, i * 3 + 1, none⟩) e23 x1).setOther (a := ⟨w.heap.size + 3, i * 3 + 2, none⟩) e23 x2).set 0 (ifp (ty (n :: B)) n.p)).set 1 (.int .i32 0)
    rw [set2] at h
    exact h
  · exact (keep _ (by omega) (by omega)).trans (R.res.below hb)
  · have h := ((R.row.of_block (hb.block _ hrow)).set (i * 3) x0).set (i * 3 + 1) x1 |>.set (i * 3 + 2) x2
    have h := (h.setOther (a := ⟨w.heap.size + 2, 0, none⟩) e32 (ifp (ty (n :: B)) n.p)).setOther (a := ⟨w.heap.size + 2, 1, none⟩) e32 (.int .i32 0)
    exact h.congr (fun j hj => ndCell_step hi x0 x1 x2 h0 h1 h2 j)
  · exact (((((R.bel.trans (hb.mono hbw)).setCell (p := ⟨w.heap.size + 3, i * 3, none⟩) l3 _).setCell (p := ⟨w.heap.size + 3, i * 3 + 1, none⟩) l3 _).setCell (p := ⟨w.heap.size + 3, i * 3 + 2, none⟩) l3 _).setCell (p := ⟨w.heap.size + 2, 0, none⟩) l2 _).setCell (p := ⟨w.heap.size + 2, 1, none⟩) l2 _
theorem blkAt {w : World} {q : Nat} (C : Array Value) (t : TypeId) (h : q = w.heap.size) : Blk (w.alloc (.cells C t)) q C t := by subst h; exact Blk.new w C t
def Built (r : Int) (m : Nat) (w : World) (e : Ending) (w' : World) : Prop :=
  ∃ B, e = .returned (.tuple #[.agg #[ifp (ty B) (pl (w.heap.size + 1) B), .int .i32 0], .slice (some ⟨w.heap.size + 3, 0, none⟩) m m]) ∧ B.length = m ∧ rep w' (w.heap.size + 4) (w.heap.size + 1) r B ∧ w'.rowIs (w.heap.size + 3) 46 (m * 3) (ndCell B) ∧ Below w.heap.size w w'
end Go.Proofs.YtanaidcjiinpaaaRR.opt
