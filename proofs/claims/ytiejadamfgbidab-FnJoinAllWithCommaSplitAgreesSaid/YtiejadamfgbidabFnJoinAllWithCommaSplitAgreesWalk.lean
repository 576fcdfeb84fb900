/- The walk of the law 'FnJoinAllWithCommaSplitAgrees': it returns true and leaves what was there as it was. No conditions. -/
import Derived.Test.YtiejadamfgbidabJoinC
import Derived.Deep.DeepCutAuto
import Derived.Laws.StructEq
import Derived.Lib.Builder
namespace Go.Proofs.Ytiejadamfgbidab.fnJoinAllWithCommaSplitAgrees
open Go.ChangeShapes Go.WideShapes Go.ChangeAt Go.RowKit Go.Mine join
set_option linter.unusedVariables false
set_option maxRecDepth 100000

theorem guard30 : Try.prog.eqGuardType Try.prog.depth 30 = false := by kernel_rfl
theorem st30 : Try.prog.underlying 30 = some (.struct (Try.prog.fieldsOf 30)) := by kernel_rfl
theorem held30 : Try.prog.stoodInHeld 30 = false := by kernel_rfl
theorem eqIn30 (w : World) (a s : Int) : (Op.equalIn 10000 30 (.agg #[.int .i32 a]) (.agg #[.int .i32 s])).run Try.prog w = .ok ((a == s)) w := by
  have hf : (Try.prog.fieldsOf 30).toList.map (fun f => (f.name, f.type, f.offset)) = [("Start", 21, 0)] := by kernel_rfl
  rw [run_equalIn_agg w 9999 30 _ _ st30 held30]
  generalize (Try.prog.fieldsOf 30).toList = fs at hf
  obtain ⟨f0, fs0, rfl, g0, hf⟩ := List.map_eq_cons_iff.1 hf
  obtain rfl := List.map_eq_nil_iff.1 hf
  simp only [Prod.mk.injEq] at g0
  obtain ⟨p0, q0, r0⟩ := g0
  have e0 : ∀ (x0 : Value) (w : World), (part 21 #[x0] 0).run Try.prog w = .ok x0 w := fun x0 w => by kernel_rfl
  have k0 := fun (w : World) (a b : Int) => run_equalIn_int (P := Try.prog) w 9998 21 .i32 .i32 a b Try.underlying21
  by_cases z0 : a = s <;> simp [Op.eqFields, p0, q0, r0, e0, k0, z0]
theorem eql30 (w : World) (a s : Int) : (binOp .eql 30 (.agg #[.int .i32 a]) (.agg #[.int .i32 s])).run Try.prog w = .ok (.bool ((a == s))) w := by
  rw [run_eql_struct, eqIn30]; rfl
theorem neq30 (w : World) (a s : Int) : (binOp .neq 30 (.agg #[.int .i32 a]) (.agg #[.int .i32 s])).run Try.prog w = .ok (.bool (!((a == s)))) w := by
  rw [run_neq_struct, eqIn30]; rfl

theorem info109 : (Try.prog.info? 109).isSome = true := by kernel_rfl
theorem bytes15 (a0 : Option Addr) (l0 c0 : Nat) (a1 : Int) (w : World) (h : l0 ≤ maxLen) : Calls Try.prog 15 #[.slice a0 l0 c0, .int .i64 a1] w fun e w' => (∃ r : Bool, e = .returned (.bool r)) ∧ w = w' := by
  unfold maxLen at h
  go_enter Try.func15, Try.ntmps15
  go_wp2
  all_goals
    go_ret
    exact ⟨⟨_, rfl⟩, rfl⟩
def loc (ds : List (Option Nat)) : Nat := ds.findIdx (·.isSome)
def JoinedS (w : World) (ds : List (Option Nat)) (b : Nat) (e : Ending) (w' : World) : Prop :=
  ∃ t : Tr, e = .returned (.agg #[.iface t.ty (.pointer (some ⟨t.at_, 0, none⟩)), .int .i32 ((b + loc ds : Nat) : Int)]) ∧ t.rep w' ∧ t.leaves = ds.filterMap id ∧ Below w.heap.size w w'
def JoinedN (w : World) (e : Ending) (w' : World) : Prop := ∃ l, e = .returned (.agg #[.nilIface, .int .i32 l]) ∧ Below w.heap.size w w'
theorem toS {w : World} {ds : List (Option Nat)} {b : Nat} {e : Ending} {w' : World} (hne : ds.filterMap id ≠ []) (h : Joined w ds b e w') : JoinedS w ds b e w' := by
  obtain ⟨d, l, he, hs, hb⟩ := h
  cases hs with
  | none _ h => exact absurd h hne
  | some t ht hl hi => exact ⟨t, he, ht, hl, hb⟩
theorem leaves_ne (t : Tr) : t.leaves ≠ [] := by
  induction t with
  | leaf p => simp [Tr.leaves]
  | node p l r h1 h2 => simp [Tr.leaves, h1]
theorem toN {w : World} {ds : List (Option Nat)} {b : Nat} {e : Ending} {w' : World} (hne : ds.filterMap id = []) (h : Joined w ds b e w') : JoinedN w e w' := by
  obtain ⟨d, l, he, hs, hb⟩ := h
  cases hs with
  | none _ h => exact ⟨l, he, hb⟩
  | some t ht hl hi => exact absurd (hl.trans hne) (leaves_ne t)
theorem rowTake {w : World} {A : Option Addr} {ds : List (Option Nat)} {b : Nat} (h : Row w A ds b) (c : Nat) : Row w A (ds.take c) b := fun i hi => by
  have h3 : i < c ∧ i < ds.length := by simp at hi; omega
  obtain ⟨g, off, ha, h1, h2⟩ := h i h3.2
  exact ⟨g, off, ha, by rw [h1]; simp [h3.1], h2⟩
theorem rowDrop {w : World} {g : Nat} {ds : List (Option Nat)} {b : Nat} (h : Row w (some ⟨g, 0, none⟩) ds b) (c : Nat) : Row w (some ⟨g, c * 2, none⟩) (ds.drop c) (b + c) := fun i hi => by
  simp at hi
  obtain ⟨g', off, ha, h1, h2⟩ := h (c + i) (by omega)
  simp at ha
  obtain ⟨rfl, rfl⟩ := ha
  exact ⟨g, c * 2, rfl, by rw [show c * 2 + i * 2 = 0 + (c + i) * 2 by omega, h1]; simp, by rw [show c * 2 + i * 2 + 1 = 0 + (c + i) * 2 + 1 by omega, h2, Nat.add_assoc]⟩

theorem balloc {a w : World} (h : Below a.heap.size a w) (o : Obj) : Below a.heap.size a (w.alloc o) := h.alloc h.size _
theorem cellAll {a w : World} (h : Below a.heap.size a w) : ∀ b o, b < a.heap.size → w.cell? ⟨b, o, none⟩ = a.cell? ⟨b, o, none⟩ := fun b o hb => h.cell (p := ⟨b, o, none⟩) hb
theorem frozenAll {a w : World} (h : Below a.heap.size a w) : ∀ b o, b < a.heap.size → w.frozen? ⟨b, o, none⟩ = a.frozen? ⟨b, o, none⟩ := fun b o hb => h.frozen (p := ⟨b, o, none⟩) hb
def cnt (zs : List Int) (k : Nat) : Nat := ((zs.take k).filter (· != 0)).length
theorem cnt_le (zs : List Int) (k : Nat) : cnt zs k ≤ k := by
  unfold cnt
  have := List.length_filter_le (fun x : Int => x != 0) (zs.take k)
  have h2 : (zs.take k).length ≤ k := List.length_take_le _ _
  omega
theorem cnt_step (zs : List Int) (k : Nat) (x : Int) (hk : k < zs.length) (hx : x = zs.getD k 0) : cnt zs (k + 1) = cnt zs k + if x = 0 then 0 else 1 := by
  unfold cnt
  have e : zs[k] = x := by rw [hx]; simp [hk]
  rw [List.take_succ_eq_append_getElem hk, List.filter_append, List.length_append, e]
  by_cases h : x = 0 <;> simp [h]
theorem cnt_all (zs : List Int) (ds : List (Option Nat)) (hl : ds.length = zs.length) (h : ∀ i, i < zs.length → (ds.getD i none = none ↔ zs.getD i 0 = 0)) : cnt zs zs.length = (ds.filterMap id).length := by
  unfold cnt
  rw [List.take_length]
  induction zs generalizing ds with
  | nil => cases ds <;> simp_all
  | cons z zs ih =>
    cases ds with
    | nil => simp at hl
    | cons d ds =>
      have h0 := h 0 (by simp)
      have ih' := ih ds (by simpa using hl) (fun i hi => by simpa using h (i + 1) (by simpa using hi))
      simp at h0
      cases d with
      | none => simp [h0.1 rfl, ih']
      | some p =>
        have hz : z ≠ 0 := fun e => by simpa using h0.2 e
        simp [hz, ih']
theorem own_form {w : World} {base : Nat} {e : TypeId} {size : Nat} {v : Value} {n : Nat} {xs : List Value} (h : w.ownsRow base e size v n xs) (hn : 0 < n) : ∃ g cap, v = .slice (some ⟨g, 0, none⟩) n cap := by
  rcases h.2 with ⟨_, h⟩ | ⟨g, cap, cur, hv, hr⟩
  · omega
  · exact ⟨g, cap, hv⟩
theorem own_below {w w' : World} {base : Nat} {e : TypeId} {size : Nat} {v : Value} {n : Nat} {xs : List Value} (h : w.ownsRow base e size v n xs) (hb : Below w.heap.size w w') : w'.ownsRow base e size v n xs := by
  refine ⟨h.1, ?_⟩
  rcases h.2 with h | ⟨g, cap, cur, hv, hg, hh, hr⟩
  · exact .inl h
  · exact .inr ⟨g, cap, cur, hv, hg, (hb.block g (lt_of_block hh)).trans hh, hr⟩
theorem blkDrew {w : World} {q : Nat} {C : Array Value} {t : TypeId} (h : Blk w q C t) : Blk w.drew q C t := h
def tv (t : Tr) : Value := .iface t.ty (.pointer (some ⟨t.at_, 0, none⟩))
def After (w2 : World) (t1 : Tr) (ds : List (Option Nat)) (s7 : Value) (W : World) : Prop :=
  ∃ (t2 : Tr) (q : Nat), s7 = .pointer (some ⟨q, 0, none⟩) ∧ Blk W q #[.iface t2.ty (.pointer (some ⟨t2.at_, 0, none⟩)), .int .i32 (loc ds : Int)] 32 ∧ t2.rep W ∧ t2.leaves = ds.filterMap id ∧ Below w2.heap.size w2 W ∧
    Blk W w2.heap.size #[.iface t1.ty (.pointer (some ⟨t1.at_, 0, none⟩)), .int .i32 (loc ds : Int)] 32
abbrev w6 (w2 : World) (t1 : Tr) (ds : List (Option Nat)) : World := w2.alloc (.cells #[.iface t1.ty (.pointer (some ⟨t1.at_, 0, none⟩)), .int .i32 (loc ds : Int)] 32)
theorem after_new {w2 w5 : World} {t1 t2 : Tr} {ds : List (Option Nat)} (hr : t2.rep w5) (hl : t2.leaves = ds.filterMap id) (hb : Below (w6 w2 t1 ds).heap.size (w6 w2 t1 ds) w5) :
    After w2 t1 ds (.pointer (some ⟨w5.heap.size, 0, none⟩)) (w5.alloc (.cells #[.iface t2.ty (.pointer (some ⟨t2.at_, 0, none⟩)), .int .i32 (loc ds : Int)] 32)) :=
  ⟨t2, _, rfl, blkNew _ _ rfl, Tr.rep_below (balloc (Below.refl _ _) _) hr, hl, balloc (below2 (balloc (Below.refl _ _) _) hb) _, ((blkNew _ _ rfl).below hb).alloc _⟩
theorem after_set {w2 w5 : World} {t1 t2 : Tr} {ds : List (Option Nat)} {q : Nat} {D L : Value} (hq : Blk w5 q #[D, L] 32) (hr : t2.rep w5) (hl : t2.leaves = ds.filterMap id) (hb' : Below (w6 w2 t1 ds).heap.size (w6 w2 t1 ds) w5) (hlt : w2.heap.size < q) :
    After w2 t1 ds (.pointer (some ⟨q, 0, none⟩)) ((w5.setCell ⟨q, 0, none⟩ (.iface t2.ty (.pointer (some ⟨t2.at_, 0, none⟩)))).setCell ⟨q, 1, none⟩ (.int .i32 (loc ds : Int))) := by
  have h := (hq.set 0 (.iface t2.ty (.pointer (some ⟨t2.at_, 0, none⟩)))).set 1 (.int .i32 (loc ds : Int))
  rw [set2] at h
  have hb : Below w2.heap.size w2 w5 := below2 (balloc (Below.refl _ _) _) hb'
  have h6 := (blkNew _ _ rfl).below hb'
  exact ⟨t2, q, rfl, h, Tr.rep_set (hq.set 0 _) 1 _ (Tr.rep_set hq 0 _ hr), hl, (hb.setCell (by show w2.heap.size ≤ q; omega) _).setCell (by show w2.heap.size ≤ q; omega) _,
    (h6.setOther (a := ⟨q, 0, none⟩) (by show w2.heap.size ≠ q; omega) _).setOther (a := ⟨q, 1, none⟩) (by show w2.heap.size ≠ q; omega) _⟩
def AfterN (w2 : World) (l1 : Int) (s7 : Value) (W : World) : Prop :=
  ∃ (q : Nat) (l2 : Int), s7 = .pointer (some ⟨q, 0, none⟩) ∧ Blk W q #[.nilIface, .int .i32 l2] 32 ∧ Below w2.heap.size w2 W ∧ Blk W w2.heap.size #[.nilIface, .int .i32 l1] 32
theorem afterN_new {w2 w5 : World} {l1 l5 : Int} (hb : Below (w2.alloc (.cells #[.nilIface, .int .i32 l1] 32)).heap.size (w2.alloc (.cells #[.nilIface, .int .i32 l1] 32)) w5) :
    AfterN w2 l1 (.pointer (some ⟨w5.heap.size, 0, none⟩)) (w5.alloc (.cells #[.nilIface, .int .i32 l5] 32)) :=
  ⟨_, _, rfl, blkNew _ _ rfl, balloc (below2 (balloc (Below.refl _ _) _) hb) _, ((blkNew _ _ rfl).below hb).alloc _⟩
theorem afterN_set {w2 w5 : World} {l1 l5 : Int} {q : Nat} {D L : Value} (hq : Blk w5 q #[D, L] 32) (hb' : Below (w2.alloc (.cells #[.nilIface, .int .i32 l1] 32)).heap.size (w2.alloc (.cells #[.nilIface, .int .i32 l1] 32)) w5) (hlt : w2.heap.size < q) :
    AfterN w2 l1 (.pointer (some ⟨q, 0, none⟩)) ((w5.setCell ⟨q, 0, none⟩ .nilIface).setCell ⟨q, 1, none⟩ (.int .i32 l5)) := by
  have h := (hq.set 0 .nilIface).set 1 (.int .i32 l5)
  rw [set2] at h
  have hb : Below w2.heap.size w2 w5 := below2 (balloc (Below.refl _ _) _) hb'
  have h6 := (blkNew _ _ rfl).below hb'
  exact ⟨q, l5, rfl, h, (hb.setCell (by show w2.heap.size ≤ q; omega) _).setCell (by show w2.heap.size ≤ q; omega) _,
    (h6.setOther (a := ⟨q, 0, none⟩) (by show w2.heap.size ≠ q; omega) _).setOther (a := ⟨q, 1, none⟩) (by show w2.heap.size ≠ q; omega) _⟩
set_option maxHeartbeats 20000000 in
theorem main_n (a0 : Option Addr) (len cap : Nat) (zs : List Int) (cut : Nat) (w : World) (h : IntRow .i64 w a0 len cap zs) (hl : len ≤ 16384) (hc : cut ≤ len) :
    Calls Try.prog 4 #[.slice a0 len cap, .int .i64 cut] w fun e w' => e = .returned (.bool true) ∧ Below w.heap.size w w' := by
  have hlm : len ≤ maxLen := Nat.le_trans h.2.1 h.2.2.1
  have H := Lib.hid h
  clear h
  go_enter Try.func4, Try.ntmps4
  go_wp2_with fail
  refine (bytes15 _ _ _ _ _ hlm).mono ?_
  rintro e w' ⟨⟨r, rfl⟩, rfl⟩
  clear hlm
  cases r with
  | false =>
    go_wp2_with fail
    go_ret
    exact ⟨rfl, Below.refl _ _⟩
  | true =>
    go_wp2_with fail
    refine (exprs16 _ _ _ zs _ H.out hl).mono ?_
    rintro e w1 ⟨g, ds, rfl, hrow, hdl, hiff, hb1⟩
    have e0 := H.out.1
    have HB1 := Lib.hid hb1
    have HR := Lib.hid hrow
    have HI := Lib.hid hiff
    have HD := Lib.hid hdl
    have HZ := Lib.hid e0
    clear hb1 hrow hiff
    rw [e0] at hdl
    rw [e0]
    clear e0
    have SW := Lib.hid fun w' (hb : Below w1.heap.size w1 w') => all17 (some ⟨g, 0, none⟩) len ds 0 w' (HR.out.below hb) (by omega)
    have SL := Lib.hid fun w' (hb : Below w1.heap.size w1 w') => all17 (some ⟨g, 0, none⟩) len (ds.take cut) 0 w' (rowTake (HR.out.below hb) cut) (by simp; omega)
    have SR := Lib.hid fun w' A (hA : A = if len = cut then some ⟨g, 0, none⟩ else some ⟨g, cut * 2, none⟩) (hb : Below w1.heap.size w1 w') => all17 A (len - cut) (ds.drop cut) cut w' (by
      rw [hA]
      split
      · intro i hi
        simp at hi; omega
      · simpa using rowDrop (HR.out.below hb) cut) (by simp; omega)
    rw [hdl] at SW
    rw [show (ds.take cut).length = cut by simp; omega] at SL
    rw [show (ds.drop cut).length = len - cut by simp; omega] at SR
    have hct : 0 + (ds.take cut).length = cut := by simp; omega
    have HCT := Lib.hid hct
    clear hdl hct
    by_cases hne : ds.filterMap id = []
    · go_wp2_with fail
      refine ((SW.out _ (Below.refl _ _)).mono fun e w' h => toN hne h).mono ?_
      rintro e w2 ⟨l1, rfl, hb2⟩
      have B2 := Lib.hid hb2
      clear hb2
      have SL2 := Lib.hid fun w' (hb : Below w2.heap.size w2 w') => SL.out w' (below2 B2.out hb)
      have SR2 := Lib.hid fun w' A hA (hb : Below w2.heap.size w2 w') => SR.out w' A hA (below2 B2.out hb)
      have SJ := Lib.hid fun w' d1 d2 l1 l2 (h1 : St w' (ds.take cut) 0 d1 l1) (h2 : St w' (ds.drop cut) cut d2 l2) => (j18 h1 (by rw [HCT.out]; exact h2)).mono fun e w'' h => toN (by rw [List.take_append_drop]; exact hne) h
      have HN : Hid (∀ o, Below w2.heap.size w2 (w2.alloc o)) := fun o => (Below.refl _ _).alloc (Nat.le_refl _) o
      go_upto_region 9 with fail
      go_cut [7] (fun s7 W => AfterN w2 l1 s7 W)
      case first =>
        by_cases hcut : len = cut
        · have SR3 := Lib.hid fun w' hb => SR2.out w' (some ⟨g, 0, none⟩) (by rw [if_pos hcut]) hb
          rw [show len - cut = 0 by omega] at SR3
          subst hcut
          go_region_with (first
          | (go_at_call 17; (with_reducible refine (SL2.out _ ?_).mono ?_); (repeat (first | with_reducible exact Below.refl _ _ | with_reducible refine Below.drew ?_ | with_reducible refine balloc ?_ _ | with_reducible refine below2 ?_ BL.out | with_reducible refine below2 ?_ BR.out)); rintro e wL ⟨dL, lL, rfl, sL, bL⟩; have BL := Lib.hid bL; have SSL := Lib.hid sL; have cL := cellAll bL; have fL := frozenAll bL; have zL := bL.size; (try simp at zL); (try (have yL : w2.heap.size + 1 < wL.heap.size := by omega)); (try (have xL : wR.heap.size < wL.heap.size := by omega)); clear bL sL)
          | (go_at_call 17; (with_reducible refine (SR3.out _ ?_).mono ?_); (repeat (first | with_reducible exact Below.refl _ _ | with_reducible refine Below.drew ?_ | with_reducible refine balloc ?_ _ | with_reducible refine below2 ?_ BL.out | with_reducible refine below2 ?_ BR.out)); rintro e wR ⟨dR, lR, rfl, sR, bR⟩; have BR := Lib.hid bR; have SSR := Lib.hid sR; have cR := cellAll bR; have fR := frozenAll bR; have zR := bR.size; (try simp at zR); (try (have yR : w2.heap.size + 1 < wR.heap.size := by omega)); (try (have xR : wL.heap.size < wR.heap.size := by omega)); clear bR sR)
          | (go_at_call 18; (with_reducible refine (SJ.out _ _ _ _ _ ?_ ?_).mono ?_); refine SSL.out.below ?_; (repeat (first | with_reducible exact Below.refl _ _ | with_reducible refine Below.drew ?_ | with_reducible refine balloc ?_ _ | with_reducible refine below2 ?_ BL.out | with_reducible refine below2 ?_ BR.out)); refine SSR.out.below ?_; (repeat (first | with_reducible exact Below.refl _ _ | with_reducible refine Below.drew ?_ | with_reducible refine balloc ?_ _ | with_reducible refine below2 ?_ BL.out | with_reducible refine below2 ?_ BR.out)); rintro e w5 ⟨l5, rfl, hb5⟩; have B5 := Lib.hid hb5; have c5 := cellAll hb5; have f5 := frozenAll hb5; have z5 := hb5.size; (try simp at z5); (try (have y5 : w2.heap.size + 1 < w5.heap.size := by omega)); (try (have x5 : wR.heap.size < w5.heap.size := by omega)); (try (have x6 : wL.heap.size < w5.heap.size := by omega)); clear hb5))
          all_goals (go_wp2_with fail; go_meet)
          · go_light
            exact afterN_new (by repeat (first | with_reducible exact Below.refl _ _ | with_reducible refine Below.drew ?_ | with_reducible refine balloc ?_ _ | with_reducible refine below2 ?_ BL.out | with_reducible refine below2 ?_ BR.out | with_reducible refine below2 ?_ B5.out))
          · go_light
            exact afterN_set (Blk.below (blkNew _ _ rfl) B5.out) (by repeat (first | with_reducible exact Below.refl _ _ | with_reducible refine Below.drew ?_ | with_reducible refine balloc ?_ _ | with_reducible refine below2 ?_ BL.out | with_reducible refine below2 ?_ BR.out | with_reducible refine below2 ?_ B5.out)) (by omega)
          · go_light
            exact afterN_set (Blk.below (Blk.below (blkNew _ _ rfl) BR.out) B5.out) (by repeat (first | with_reducible exact Below.refl _ _ | with_reducible refine Below.drew ?_ | with_reducible refine balloc ?_ _ | with_reducible refine below2 ?_ BL.out | with_reducible refine below2 ?_ BR.out | with_reducible refine below2 ?_ B5.out)) (by omega)
          · go_light
            exact afterN_set (Blk.below (Blk.below (Blk.below (blkDrew (blkNew _ _ (by simp))) BL.out) BR.out) B5.out) (by repeat (first | with_reducible exact Below.refl _ _ | with_reducible refine Below.drew ?_ | with_reducible refine balloc ?_ _ | with_reducible refine below2 ?_ BL.out | with_reducible refine below2 ?_ BR.out | with_reducible refine below2 ?_ B5.out)) (by omega)
        · have SR3 := Lib.hid fun w' hb => SR2.out w' (some ⟨g, cut * 2, none⟩) (by rw [if_neg hcut]) hb
          go_region_with (first
          | (go_at_call 17; (with_reducible refine (SL2.out _ ?_).mono ?_); (repeat (first | with_reducible exact Below.refl _ _ | with_reducible refine Below.drew ?_ | with_reducible refine balloc ?_ _ | with_reducible refine below2 ?_ BL.out | with_reducible refine below2 ?_ BR.out)); rintro e wL ⟨dL, lL, rfl, sL, bL⟩; have BL := Lib.hid bL; have SSL := Lib.hid sL; have cL := cellAll bL; have fL := frozenAll bL; have zL := bL.size; (try simp at zL); (try (have yL : w2.heap.size + 1 < wL.heap.size := by omega)); (try (have xL : wR.heap.size < wL.heap.size := by omega)); clear bL sL)
          | (go_at_call 17; (with_reducible refine (SR3.out _ ?_).mono ?_); (repeat (first | with_reducible exact Below.refl _ _ | with_reducible refine Below.drew ?_ | with_reducible refine balloc ?_ _ | with_reducible refine below2 ?_ BL.out | with_reducible refine below2 ?_ BR.out)); rintro e wR ⟨dR, lR, rfl, sR, bR⟩; have BR := Lib.hid bR; have SSR := Lib.hid sR; have cR := cellAll bR; have fR := frozenAll bR; have zR := bR.size; (try simp at zR); (try (have yR : w2.heap.size + 1 < wR.heap.size := by omega)); (try (have xR : wL.heap.size < wR.heap.size := by omega)); clear bR sR)
          | (go_at_call 18; (with_reducible refine (SJ.out _ _ _ _ _ ?_ ?_).mono ?_); refine SSL.out.below ?_; (repeat (first | with_reducible exact Below.refl _ _ | with_reducible refine Below.drew ?_ | with_reducible refine balloc ?_ _ | with_reducible refine below2 ?_ BL.out | with_reducible refine below2 ?_ BR.out)); refine SSR.out.below ?_; (repeat (first | with_reducible exact Below.refl _ _ | with_reducible refine Below.drew ?_ | with_reducible refine balloc ?_ _ | with_reducible refine below2 ?_ BL.out | with_reducible refine below2 ?_ BR.out)); rintro e w5 ⟨l5, rfl, hb5⟩; have B5 := Lib.hid hb5; have c5 := cellAll hb5; have f5 := frozenAll hb5; have z5 := hb5.size; (try simp at z5); (try (have y5 : w2.heap.size + 1 < w5.heap.size := by omega)); (try (have x5 : wR.heap.size < w5.heap.size := by omega)); (try (have x6 : wL.heap.size < w5.heap.size := by omega)); clear hb5))
          all_goals (go_wp2_with fail; go_meet)
          · go_light
            exact afterN_new (by repeat (first | with_reducible exact Below.refl _ _ | with_reducible refine Below.drew ?_ | with_reducible refine balloc ?_ _ | with_reducible refine below2 ?_ BL.out | with_reducible refine below2 ?_ BR.out | with_reducible refine below2 ?_ B5.out))
          · go_light
            exact afterN_set (Blk.below (blkNew _ _ rfl) B5.out) (by repeat (first | with_reducible exact Below.refl _ _ | with_reducible refine Below.drew ?_ | with_reducible refine balloc ?_ _ | with_reducible refine below2 ?_ BL.out | with_reducible refine below2 ?_ BR.out | with_reducible refine below2 ?_ B5.out)) (by omega)
          · go_light
            exact afterN_set (Blk.below (Blk.below (blkNew _ _ rfl) BR.out) B5.out) (by repeat (first | with_reducible exact Below.refl _ _ | with_reducible refine Below.drew ?_ | with_reducible refine balloc ?_ _ | with_reducible refine below2 ?_ BL.out | with_reducible refine below2 ?_ BR.out | with_reducible refine below2 ?_ B5.out)) (by omega)
          · go_light
            exact afterN_set (Blk.below (Blk.below (Blk.below (blkDrew (blkNew _ _ (by simp))) BL.out) BR.out) B5.out) (by repeat (first | with_reducible exact Below.refl _ _ | with_reducible refine Below.drew ?_ | with_reducible refine balloc ?_ _ | with_reducible refine below2 ?_ BL.out | with_reducible refine below2 ?_ BR.out | with_reducible refine below2 ?_ B5.out)) (by omega)
      case rest =>
        obtain ⟨q, l2, rfl, k7, hb7, k6⟩ := hcut
        have x0 : wc.cell? ⟨w2.heap.size, 0, none⟩ = some .nilIface := k6.cell 0
        have y0 : wc.cell? ⟨q, 0, none⟩ = some .nilIface := k7.cell 0
        have BX := Lib.hid (below2 (below2 HB1.out B2.out) hb7)
        have HA := Lib.hid (H.out.below (below2 (below2 HB1.out B2.out) hb7))
        clear hb7 k6 k7 SL2 SR2 SJ HN SW SL SR B2 HB1 HR
        go_wp2_with fail
        go_quiet (fail)
        go_wp2_with fail
        go_loop [8, 9] (fun p i => ∃ k c : Nat, k ≤ len ∧ i = .int .i64 k ∧ p = .int .i64 c ∧ c ≤ k ∧ Hid (c = cnt zs k)) (fun _ i => len - (intOf i).toNat)
        case atStart => exact ⟨0, 0, Nat.zero_le _, rfl, rfl, Nat.le_refl _, rfl⟩
        case round =>
          obtain ⟨k, c, hk, rfl, rfl, hck, hcnt⟩ := hrel
          by_cases hlt : k < len
          · obtain ⟨b, off, ha, hbl, hc⟩ := HA.out.at hlt
            subst ha
            obtain ⟨x, hx⟩ : ∃ x, x = zs.getD k 0 := ⟨_, rfl⟩
            rw [← hx] at hc
            have hst := Lib.hid (cnt_step zs k x (by rw [HZ.out]; exact hlt) hx)
            clear hx
            by_cases hx0 : x = 0
            · subst hx0
              go_wp2_with fail
              go_round
              case rel => exact ⟨k + 1, c, by omega, by go_num, rfl, by omega, by rw [hst.out, if_pos rfl]; exact hcnt⟩
              case measure => simp [intOf]; omega
            · have hx1 : (x != 0) = true := by simpa using hx0
              have HX := Lib.hid hx0
              clear hx0
              go_wp2_with fail
              go_round
              case rel => exact ⟨k + 1, c + 1, by omega, by go_num, by go_num, by omega, by rw [hst.out, if_neg HX.out, ← hcnt.out]; rfl⟩
              case measure => simp [intOf]; omega
          · obtain rfl : k = len := by omega
            have hcm : c = 0 := by
              have h := cnt_all zs ds HD.out HI.out
              rw [hne, HZ.out] at h
              rw [hcnt.out, h]; rfl
            subst hcm
            clear hcnt
            go_wp2_with fail
            go_ret
            exact ⟨rfl, below_drewN BX.out _⟩
    · go_wp2_with fail
      refine ((SW.out _ (Below.refl _ _)).mono fun e w' h => toS hne h).mono ?_
      rintro e w2 ⟨t1, rfl, rep1, lv1, hb2⟩
      have R1 := Lib.hid rep1
      have L1 := Lib.hid lv1
      have B2 := Lib.hid hb2
      clear rep1 lv1 hb2
      have SL2 := Lib.hid fun w' (hb : Below w2.heap.size w2 w') => SL.out w' (below2 B2.out hb)
      have SR2 := Lib.hid fun w' A hA (hb : Below w2.heap.size w2 w') => SR.out w' A hA (below2 B2.out hb)
      have SJ := Lib.hid fun w' d1 d2 l1 l2 (h1 : St w' (ds.take cut) 0 d1 l1) (h2 : St w' (ds.drop cut) cut d2 l2) => (j18 h1 (by rw [HCT.out]; exact h2)).mono fun e w'' h => toS (by rw [List.take_append_drop]; exact hne) h
      rw [List.take_append_drop] at SJ
      have HN : Hid (∀ o, Below w2.heap.size w2 (w2.alloc o)) := fun o => (Below.refl _ _).alloc (Nat.le_refl _) o
      go_upto_region 9 with fail
      go_cut [7] (fun s7 W => After w2 t1 ds s7 W)
      case first =>
        by_cases hcut : len = cut
        · have SR3 := Lib.hid fun w' hb => SR2.out w' (some ⟨g, 0, none⟩) (by rw [if_pos hcut]) hb
          rw [show len - cut = 0 by omega] at SR3
          subst hcut
          go_region_with (first
          | (go_at_call 17; (with_reducible refine (SL2.out _ ?_).mono ?_); (repeat (first | with_reducible exact Below.refl _ _ | with_reducible refine Below.drew ?_ | with_reducible refine balloc ?_ _ | with_reducible refine below2 ?_ BL.out | with_reducible refine below2 ?_ BR.out)); rintro e wL ⟨dL, lL, rfl, sL, bL⟩; have BL := Lib.hid bL; have SSL := Lib.hid sL; have cL := cellAll bL; have fL := frozenAll bL; have zL := bL.size; (try simp at zL); (try (have yL : w2.heap.size + 1 < wL.heap.size := by omega)); (try (have xL : wR.heap.size < wL.heap.size := by omega)); clear bL sL)
          | (go_at_call 17; (with_reducible refine (SR3.out _ ?_).mono ?_); (repeat (first | with_reducible exact Below.refl _ _ | with_reducible refine Below.drew ?_ | with_reducible refine balloc ?_ _ | with_reducible refine below2 ?_ BL.out | with_reducible refine below2 ?_ BR.out)); rintro e wR ⟨dR, lR, rfl, sR, bR⟩; have BR := Lib.hid bR; have SSR := Lib.hid sR; have cR := cellAll bR; have fR := frozenAll bR; have zR := bR.size; (try simp at zR); (try (have yR : w2.heap.size + 1 < wR.heap.size := by omega)); (try (have xR : wL.heap.size < wR.heap.size := by omega)); clear bR sR)
          | (go_at_call 18; (with_reducible refine (SJ.out _ _ _ _ _ ?_ ?_).mono ?_); refine SSL.out.below ?_; (repeat (first | with_reducible exact Below.refl _ _ | with_reducible refine Below.drew ?_ | with_reducible refine balloc ?_ _ | with_reducible refine below2 ?_ BL.out | with_reducible refine below2 ?_ BR.out)); refine SSR.out.below ?_; (repeat (first | with_reducible exact Below.refl _ _ | with_reducible refine Below.drew ?_ | with_reducible refine balloc ?_ _ | with_reducible refine below2 ?_ BL.out | with_reducible refine below2 ?_ BR.out)); rintro e w5 ⟨t2, rfl, rep2, lv2, hb5⟩; have R2 := Lib.hid rep2; have L2 := Lib.hid lv2; have B5 := Lib.hid hb5; have c5 := cellAll hb5; have f5 := frozenAll hb5; have z5 := hb5.size; (try simp at z5); (try (have y5 : w2.heap.size + 1 < w5.heap.size := by omega)); (try (have x5 : wR.heap.size < w5.heap.size := by omega)); (try (have x6 : wL.heap.size < w5.heap.size := by omega)); clear rep2 lv2 hb5))
          all_goals (go_wp2_with fail; go_meet)
          · go_light
            exact after_new R2.out L2.out (by repeat (first | with_reducible exact Below.refl _ _ | with_reducible refine Below.drew ?_ | with_reducible refine balloc ?_ _ | with_reducible refine below2 ?_ BL.out | with_reducible refine below2 ?_ BR.out | with_reducible refine below2 ?_ B5.out))
          · go_light
            exact after_set (Blk.below (blkNew _ _ rfl) B5.out) R2.out L2.out (by repeat (first | with_reducible exact Below.refl _ _ | with_reducible refine Below.drew ?_ | with_reducible refine balloc ?_ _ | with_reducible refine below2 ?_ BL.out | with_reducible refine below2 ?_ BR.out | with_reducible refine below2 ?_ B5.out)) (by omega)
          · go_light
            exact after_set (Blk.below (Blk.below (blkNew _ _ rfl) BR.out) B5.out) R2.out L2.out (by repeat (first | with_reducible exact Below.refl _ _ | with_reducible refine Below.drew ?_ | with_reducible refine balloc ?_ _ | with_reducible refine below2 ?_ BL.out | with_reducible refine below2 ?_ BR.out | with_reducible refine below2 ?_ B5.out)) (by omega)
          · go_light
            exact after_set (Blk.below (Blk.below (Blk.below (blkDrew (blkNew _ _ (by simp))) BL.out) BR.out) B5.out) R2.out L2.out (by repeat (first | with_reducible exact Below.refl _ _ | with_reducible refine Below.drew ?_ | with_reducible refine balloc ?_ _ | with_reducible refine below2 ?_ BL.out | with_reducible refine below2 ?_ BR.out | with_reducible refine below2 ?_ B5.out)) (by omega)
        · have SR3 := Lib.hid fun w' hb => SR2.out w' (some ⟨g, cut * 2, none⟩) (by rw [if_neg hcut]) hb
          go_region_with (first
          | (go_at_call 17; (with_reducible refine (SL2.out _ ?_).mono ?_); (repeat (first | with_reducible exact Below.refl _ _ | with_reducible refine Below.drew ?_ | with_reducible refine balloc ?_ _ | with_reducible refine below2 ?_ BL.out | with_reducible refine below2 ?_ BR.out)); rintro e wL ⟨dL, lL, rfl, sL, bL⟩; have BL := Lib.hid bL; have SSL := Lib.hid sL; have cL := cellAll bL; have fL := frozenAll bL; have zL := bL.size; (try simp at zL); (try (have yL : w2.heap.size + 1 < wL.heap.size := by omega)); (try (have xL : wR.heap.size < wL.heap.size := by omega)); clear bL sL)
          | (go_at_call 17; (with_reducible refine (SR3.out _ ?_).mono ?_); (repeat (first | with_reducible exact Below.refl _ _ | with_reducible refine Below.drew ?_ | with_reducible refine balloc ?_ _ | with_reducible refine below2 ?_ BL.out | with_reducible refine below2 ?_ BR.out)); rintro e wR ⟨dR, lR, rfl, sR, bR⟩; have BR := Lib.hid bR; have SSR := Lib.hid sR; have cR := cellAll bR; have fR := frozenAll bR; have zR := bR.size; (try simp at zR); (try (have yR : w2.heap.size + 1 < wR.heap.size := by omega)); (try (have xR : wL.heap.size < wR.heap.size := by omega)); clear bR sR)
          | (go_at_call 18; (with_reducible refine (SJ.out _ _ _ _ _ ?_ ?_).mono ?_); refine SSL.out.below ?_; (repeat (first | with_reducible exact Below.refl _ _ | with_reducible refine Below.drew ?_ | with_reducible refine balloc ?_ _ | with_reducible refine below2 ?_ BL.out | with_reducible refine below2 ?_ BR.out)); refine SSR.out.below ?_; (repeat (first | with_reducible exact Below.refl _ _ | with_reducible refine Below.drew ?_ | with_reducible refine balloc ?_ _ | with_reducible refine below2 ?_ BL.out | with_reducible refine below2 ?_ BR.out)); rintro e w5 ⟨t2, rfl, rep2, lv2, hb5⟩; have R2 := Lib.hid rep2; have L2 := Lib.hid lv2; have B5 := Lib.hid hb5; have c5 := cellAll hb5; have f5 := frozenAll hb5; have z5 := hb5.size; (try simp at z5); (try (have y5 : w2.heap.size + 1 < w5.heap.size := by omega)); (try (have x5 : wR.heap.size < w5.heap.size := by omega)); (try (have x6 : wL.heap.size < w5.heap.size := by omega)); clear rep2 lv2 hb5))
          all_goals (go_wp2_with fail; go_meet)
          · go_light
            exact after_new R2.out L2.out (by repeat (first | with_reducible exact Below.refl _ _ | with_reducible refine Below.drew ?_ | with_reducible refine balloc ?_ _ | with_reducible refine below2 ?_ BL.out | with_reducible refine below2 ?_ BR.out | with_reducible refine below2 ?_ B5.out))
          · go_light
            exact after_set (Blk.below (blkNew _ _ rfl) B5.out) R2.out L2.out (by repeat (first | with_reducible exact Below.refl _ _ | with_reducible refine Below.drew ?_ | with_reducible refine balloc ?_ _ | with_reducible refine below2 ?_ BL.out | with_reducible refine below2 ?_ BR.out | with_reducible refine below2 ?_ B5.out)) (by omega)
          · go_light
            exact after_set (Blk.below (Blk.below (blkNew _ _ rfl) BR.out) B5.out) R2.out L2.out (by repeat (first | with_reducible exact Below.refl _ _ | with_reducible refine Below.drew ?_ | with_reducible refine balloc ?_ _ | with_reducible refine below2 ?_ BL.out | with_reducible refine below2 ?_ BR.out | with_reducible refine below2 ?_ B5.out)) (by omega)
          · go_light
            exact after_set (Blk.below (Blk.below (Blk.below (blkDrew (blkNew _ _ (by simp))) BL.out) BR.out) B5.out) R2.out L2.out (by repeat (first | with_reducible exact Below.refl _ _ | with_reducible refine Below.drew ?_ | with_reducible refine balloc ?_ _ | with_reducible refine below2 ?_ BL.out | with_reducible refine below2 ?_ BR.out | with_reducible refine below2 ?_ B5.out)) (by omega)
      case rest =>
        obtain ⟨t2, q, rfl, k7, rep2, lv2, hb7, k6⟩ := hcut
        have x0 : wc.cell? ⟨w2.heap.size, 0, none⟩ = some (.iface t1.ty (.pointer (some ⟨t1.at_, 0, none⟩))) := k6.cell 0
        have x1 : wc.cell? ⟨w2.heap.size, 1, none⟩ = some (.int .i32 (loc ds : Int)) := k6.cell 1
        have y0 : wc.cell? ⟨q, 0, none⟩ = some (.iface t2.ty (.pointer (some ⟨t2.at_, 0, none⟩))) := k7.cell 0
        have y1 : wc.cell? ⟨q, 1, none⟩ = some (.int .i32 (loc ds : Int)) := k7.cell 1
        have RP2 := Lib.hid rep2
        have LV2 := Lib.hid lv2
        have RP1 := Lib.hid (Tr.rep_below hb7 R1.out)
        have BX := Lib.hid (below2 (below2 HB1.out B2.out) hb7)
        have HA := Lib.hid (H.out.below (below2 (below2 HB1.out B2.out) hb7))
        clear rep2 lv2 hb7 k6 k7 SL2 SR2 SJ HN SW SL SR R1 B2 HB1 HR
        go_wp2_with fail
        go_quiet (fail)
        go_wp2_with fail
        go_loop [8, 9] (fun p i => ∃ k c : Nat, k ≤ len ∧ i = .int .i64 k ∧ p = .int .i64 c ∧ c ≤ k ∧ Hid (c = cnt zs k)) (fun _ i => len - (intOf i).toNat)
        case atStart => exact ⟨0, 0, Nat.zero_le _, rfl, rfl, Nat.le_refl _, rfl⟩
        case round =>
          obtain ⟨k, c, hk, rfl, rfl, hck, hcnt⟩ := hrel
          by_cases hlt : k < len
          · obtain ⟨b, off, ha, hbl, hc⟩ := HA.out.at hlt
            subst ha
            obtain ⟨x, hx⟩ : ∃ x, x = zs.getD k 0 := ⟨_, rfl⟩
            rw [← hx] at hc
            have hst := Lib.hid (cnt_step zs k x (by rw [HZ.out]; exact hlt) hx)
            clear hx
            by_cases hx0 : x = 0
            · subst hx0
              go_wp2_with fail
              go_round
              case rel => exact ⟨k + 1, c, by omega, by go_num, rfl, by omega, by rw [hst.out, if_pos rfl]; exact hcnt⟩
              case measure => simp [intOf]; omega
            · have hx1 : (x != 0) = true := by simpa using hx0
              have HX := Lib.hid hx0
              clear hx0
              go_wp2_with fail
              go_round
              case rel => exact ⟨k + 1, c + 1, by omega, by go_num, by go_num, by omega, by rw [hst.out, if_neg HX.out, ← hcnt.out]; rfl⟩
              case measure => simp [intOf]; omega
          · obtain rfl : k = len := by omega
            obtain ⟨m, hm⟩ : ∃ m, m = (ds.filterMap id).length := ⟨_, rfl⟩
            have hcm : c = m := by
              rw [hcnt.out, hm, ← cnt_all zs ds HD.out HI.out, HZ.out]
            subst hcm
            have hpos : 0 < c := by rw [hm]; exact List.length_pos_iff.2 hne
            have HM := Lib.hid hm
            clear hm hcnt
            have hg := guard30
            have hq := neq30
            obtain ⟨j109, hj109⟩ : ∃ j, Try.prog.info? 109 = some j := Option.isSome_iff_exists.1 info109
            have LA := Lib.hid fun l => leaves19 (wc.drewN nq) t1 (wc.drewN nq) (.slice none 0 0) 0 [] l (Tr.rep_below (below_drewN' _) RP1.out) (Below.refl _ _) (World.ownsRow_nil _ _ _ _) (by rw [L1.out, ← HM.out]; omega)
            have LB := Lib.hid fun w8 (hb : Below wc.heap.size wc w8) l => leaves19 w8 t2 w8 (.slice none 0 0) 0 [] l (Tr.rep_below hb RP2.out) (Below.refl _ _) (World.ownsRow_nil _ _ _ _) (by rw [LV2.out, ← HM.out]; omega)
            rw [L1.out] at LA
            rw [LV2.out] at LB
            clear L1 LV2 RP1 RP2
            go_wp2_with fail
            refine (LA.out _).mono ?_
            rintro e w8 ⟨v1, rfl, own1, hb8⟩
            have hb8' : Below wc.heap.size wc w8 := below2 (below_drewN' nq) hb8
            have x0' := bcell hb8' x0
            have x1' := bcell hb8' x1
            have y0' := bcell hb8' y0
            have y1' := bcell hb8' y1
            have O1 := Lib.hid own1
            have B8 := Lib.hid hb8'
            clear own1 hb8 hb8' x0 x1 y0 y1 LA
            go_wp2_with fail
            refine (LB.out _ B8.out _).mono ?_
            rintro e w9 ⟨v2, rfl, own2, hb9⟩
            have o1 := own_below O1.out hb9
            rw [Nat.zero_add, List.nil_append, ← HM.out] at o1 own2
            obtain ⟨g1, cap1, e1⟩ := own_form o1 hpos
            obtain ⟨g2, cap2, e2⟩ := own_form own2 hpos
            subst e1 e2
            have P1 := Lib.hid o1
            have P2 := Lib.hid own2
            have B9 := Lib.hid (below2 B8.out hb9)
            clear o1 own2 hb9 LB O1 x0' x1' y0' y1'
            go_wp2_with fail
            go_loopw [14] (fun i wr => ∃ k n : Nat, k ≤ c ∧ i = .int .i64 k ∧ wr = w9.drewN n) (fun i _ => c - (intOf i).toNat)
            case atStart => exact ⟨0, 0, Nat.zero_le _, rfl, rfl⟩
            case round =>
              obtain ⟨k, n, hk2, rfl, rfl⟩ := hrel
              by_cases hlt2 : k < c
              · have d1 := P1.out.cellAt k (by omega)
                have d2 := P2.out.cellAt k (by omega)
                obtain ⟨pp, hpp⟩ : ∃ pp, ((ds.filterMap id).map ptr)[k]? = some (.pointer (some ⟨pp, 0, none⟩)) := by
                  rw [List.getElem?_map, List.getElem?_eq_getElem (by rw [← HM.out]; exact hlt2)]
                  exact ⟨_, rfl⟩
                rw [hpp] at d1 d2
                clear hpp
                have hpq := fun wz : World => Lib.run_neq_ptr_same (P := Try.prog) wz ⟨pp, 0, none⟩ Try.underlying46 hj109
                go_wp2_with fail
                go_quiet (fail)
                go_wp2_with fail
                go_roundw
                case rel => exact ⟨k + 1, _, by omega, by go_num, rfl⟩
                case measure => simp [intOf]; omega
              · go_wp2_with fail
                go_ret
                exact ⟨rfl, below_drewN (below2 BX.out B9.out) _⟩

set_option maxHeartbeats 1000000 in
theorem walk (a0 : Option Addr) (len0 cap0 : Nat) (z0 : List Int) (a1 : Int) (w : World) (w0 : IntRow .i64 w a0 len0 cap0 z0) (w1 : (Lit.int .i64 a1).wf = true) :
    Calls Try.prog 4 #[.slice a0 len0 cap0, .int .i64 a1] w fun e w' => e = .returned (.bool true) ∧ Below w.heap.size w w' := by
  have hlm : len0 ≤ maxLen := Nat.le_trans w0.2.1 w0.2.2.1
  have m := hlm
  unfold maxLen at m
  by_cases h : len0 ≤ 16384 ∧ 0 ≤ a1 ∧ a1 ≤ len0
  · obtain ⟨c, rfl⟩ : ∃ c : Nat, a1 = c := ⟨a1.toNat, by omega⟩
    exact main_n a0 len0 cap0 z0 c w w0 h.1 (by omega)
  · have H := Lib.hid h
    have hc : (16384 < len0) ∨ (len0 ≤ 16384 ∧ a1 < 0) ∨ (len0 ≤ 16384 ∧ 0 ≤ a1 ∧ len0 < a1) := by omega
    clear h w0 w1
    rcases hc with h1 | ⟨h1, h2⟩ | ⟨h1, h2, h3⟩
    all_goals
      go_enter Try.func4, Try.ntmps4
      go_wp2_with fail
      refine (bytes15 _ _ _ _ _ hlm).mono ?_
      rintro e w' ⟨⟨r, rfl⟩, rfl⟩
      cases r
      all_goals
        go_wp2_with fail
        go_ret
        exact ⟨rfl, Below.refl _ _⟩
end Go.Proofs.Ytiejadamfgbidab.fnJoinAllWithCommaSplitAgrees
