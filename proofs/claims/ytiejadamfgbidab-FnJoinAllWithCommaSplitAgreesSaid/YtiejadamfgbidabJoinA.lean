/- Joining expressions with commas: the contracts of JoinWithComma and JoinAllWithComma over rows of numbers and gaps. No conditions beyond their hypotheses. -/
import Derived.Test.YtiejadamfgbidabRows
import Derived.Test.YtiejadamfgbidabLib
import Derived.Test.YtiejadamfgbidabAsserts
import Derived.Deep.RegionHeld3
import Derived.Deep.RegionWith
import Derived.Deep.QuietTactic
import Derived.BigQuiet
import Derived.Outline
namespace Go.Proofs.Ytiejadamfgbidab.join
open Go.ChangeShapes Go.WideShapes Go.ChangeAt Go.RowKit Go.Mine
set_option linter.unusedVariables false
set_option maxRecDepth 100000

/-- A comma tree over number nodes. -/
inductive Tr where
  | leaf (p : Nat)
  | node (p : Nat) (l r : Tr)
def num (p : Nat) : Value := .iface 46 (.pointer (some ⟨p, 0, none⟩))
def Tr.ty : Tr → Nat
  | .leaf _ => 46
  | .node _ _ _ => 110
def Tr.at_ : Tr → Nat
  | .leaf p => p
  | .node p _ _ => p
def Tr.leaves : Tr → List Nat
  | .leaf p => [p]
  | .node _ l r => l.leaves ++ r.leaves
def Tr.size : Tr → Nat
  | .leaf _ => 1
  | .node _ l r => l.size + r.size + 1
def Tr.rep (w : World) : Tr → Prop
  | .leaf _ => True
  | .node p l r => (∃ a b : Int, Blk w p #[.iface l.ty (.pointer (some ⟨l.at_, 0, none⟩)), .int .i32 a, .iface r.ty (.pointer (some ⟨r.at_, 0, none⟩)), .int .i32 b, .int .u8 36, .bool false] 112) ∧ l.rep w ∧ r.rep w
theorem Tr.rep_below {w w' : World} (hb : Below w.heap.size w w') : ∀ {t : Tr}, t.rep w → t.rep w'
  | .leaf _, _ => trivial
  | .node _ _ _, ⟨⟨a, b, h⟩, hl, hr⟩ => ⟨⟨a, b, h.below hb⟩, rep_below hb hl, rep_below hb hr⟩

/-- What joining the items ds (number nodes and gaps, the first at location b) leaves. -/
inductive St (w : World) (ds : List (Option Nat)) (b : Nat) : Value → Int → Prop
  | none (l : Int) (h : ds.filterMap id = []) : St w ds b .nilIface l
  | some (t : Tr) (h : t.rep w) (hl : t.leaves = ds.filterMap id) (hi : (ds.findIdx (·.isSome)) < ds.length) : St w ds b (.iface t.ty (.pointer (some ⟨t.at_, 0, none⟩))) ((b + ds.findIdx (·.isSome) : Nat) : Int)
theorem St.below {w w' : World} {ds : List (Option Nat)} {b : Nat} {d : Value} {l : Int} (h : St w ds b d l) (hb : Below w.heap.size w w') : St w' ds b d l := by
  cases h with
  | none _ h => exact .none _ h
  | some t h hl hi => exact .some t (Tr.rep_below hb h) hl hi

theorem blkNew {w : World} {q : Nat} (C : Array Value) (t : TypeId) (h : q = w.heap.size) : Blk (w.alloc (.cells C t)) q C t := by subst h; exact Blk.new w C t
theorem blk_ne {w : World} {p q : Nat} {C C' : Array Value} {t t' : TypeId} (h : Blk w p C t) (h' : Blk w q C' t') (hne : t ≠ t') : p ≠ q := by
  rintro rfl
  unfold Blk at h h'
  rw [h] at h'
  injection h' with h'
  injection h' with _ ht
  exact hne ht
theorem Tr.rep_set {w : World} {q : Nat} {C : Array Value} (hq : Blk w q C 32) (o : Nat) (u : Value) : ∀ {t : Tr}, t.rep w → t.rep (w.setCell ⟨q, o, none⟩ u)
  | .leaf _, _ => trivial
  | .node _ _ _, ⟨⟨a, b, h⟩, hl, hr⟩ => ⟨⟨a, b, h.setOther (a := ⟨q, o, none⟩) (blk_ne h hq (by decide)) u⟩, rep_set hq o u hl, rep_set hq o u hr⟩
theorem St.set {w : World} {q : Nat} {C : Array Value} {ds : List (Option Nat)} {b : Nat} {d : Value} {l : Int} (h : St w ds b d l) (hq : Blk w q C 32) (o : Nat) (u : Value) : St (w.setCell ⟨q, o, Option.none⟩ u) ds b d l := by
  cases h with
  | none _ h => exact .none _ h
  | some t h hl hi => exact .some t (Tr.rep_set hq o u h) hl hi
theorem St.form {w : World} {ds : List (Option Nat)} {b : Nat} {d : Value} {l : Int} (h : St w ds b d l) : d = .nilIface ∨ ∃ T p, d = .iface T (.pointer (Option.some ⟨p, 0, Option.none⟩)) := by
  cases h with
  | none _ h => exact .inl rfl
  | some t h hl hi => exact .inr ⟨_, _, rfl⟩
theorem j_nn (la lb : Int) (w : World) : Calls Try.prog 18 #[.agg #[.nilIface, .int .i32 la], .agg #[.nilIface, .int .i32 lb]] w fun e w' => e = .returned (.agg #[.nilIface, .int .i32 lb]) ∧ Below w.heap.size w w' := by
  go_enter Try.func18, Try.ntmps18
  go_wp2
  refine bodyPost_ret (v := .agg #[.nilIface, .int .i32 lb]) (by simp [results, Try.results18, go_sem]) rfl ⟨rfl, ?_⟩
  go_light
  repeat (first | with_reducible exact Below.refl _ _ | with_reducible refine Below.drew ?_ | with_reducible refine Below.alloc ?_ (by simp <;> omega) _ | with_reducible refine Below.setCell ?_ (by simp <;> omega) _)
theorem j_ns (T p : Nat) (la lb : Int) (w : World) : Calls Try.prog 18 #[.agg #[.nilIface, .int .i32 la], .agg #[.iface T (.pointer (some ⟨p, 0, none⟩)), .int .i32 lb]] w fun e w' => e = .returned (.agg #[.iface T (.pointer (some ⟨p, 0, none⟩)), .int .i32 lb]) ∧ Below w.heap.size w w' := by
  go_enter Try.func18, Try.ntmps18
  go_wp2
  refine bodyPost_ret (v := .agg #[.iface T (.pointer (some ⟨p, 0, none⟩)), .int .i32 lb]) (by simp [results, Try.results18, go_sem]) rfl ⟨rfl, ?_⟩
  go_light
  repeat (first | with_reducible exact Below.refl _ _ | with_reducible refine Below.drew ?_ | with_reducible refine Below.alloc ?_ (by simp <;> omega) _ | with_reducible refine Below.setCell ?_ (by simp <;> omega) _)
theorem j_sn (T p : Nat) (la lb : Int) (w : World) : Calls Try.prog 18 #[.agg #[.iface T (.pointer (some ⟨p, 0, none⟩)), .int .i32 la], .agg #[.nilIface, .int .i32 lb]] w fun e w' => e = .returned (.agg #[.iface T (.pointer (some ⟨p, 0, none⟩)), .int .i32 la]) ∧ Below w.heap.size w w' := by
  go_enter Try.func18, Try.ntmps18
  go_wp2
  refine bodyPost_ret (v := .agg #[.iface T (.pointer (some ⟨p, 0, none⟩)), .int .i32 la]) (by simp [results, Try.results18, go_sem]) rfl ⟨rfl, ?_⟩
  go_light
  repeat (first | with_reducible exact Below.refl _ _ | with_reducible refine Below.drew ?_ | with_reducible refine Below.alloc ?_ (by simp <;> omega) _ | with_reducible refine Below.setCell ?_ (by simp <;> omega) _)
theorem j_ss (T p T' p' : Nat) (la lb : Int) (w : World) : Calls Try.prog 18 #[.agg #[.iface T (.pointer (some ⟨p, 0, none⟩)), .int .i32 la], .agg #[.iface T' (.pointer (some ⟨p', 0, none⟩)), .int .i32 lb]] w fun e w' =>
    ∃ q, e = .returned (.agg #[.iface 110 (.pointer (some ⟨q, 0, none⟩)), .int .i32 la]) ∧ Blk w' q #[.iface T (.pointer (some ⟨p, 0, none⟩)), .int .i32 la, .iface T' (.pointer (some ⟨p', 0, none⟩)), .int .i32 lb, .int .u8 36, .bool false] 112 ∧ Below w.heap.size w w' := by
  go_enter Try.func18, Try.ntmps18
  go_wp2
  refine bodyPost_ret (v := .agg #[.iface 110 (.pointer (some ⟨w.heap.size + 3, 0, none⟩)), .int .i32 la]) (by simp [results, Try.results18, go_sem]) rfl ⟨_, rfl, ?_, ?_⟩
  · go_light
    exact blkNew _ _ (by simp)
  · go_light
    repeat (first | with_reducible exact Below.refl _ _ | with_reducible refine Below.drew ?_ | with_reducible refine Below.alloc ?_ (by simp <;> omega) _ | with_reducible refine Below.setCell ?_ (by simp <;> omega) _)

theorem findIdx_app_l (a b : List (Option Nat)) (h : a.findIdx (·.isSome) < a.length) : (a ++ b).findIdx (·.isSome) = a.findIdx (·.isSome) := by
  rw [List.findIdx_append, if_pos h]
theorem findIdx_app_r (a b : List (Option Nat)) (h : a.filterMap id = []) : (a ++ b).findIdx (·.isSome) = a.length + b.findIdx (·.isSome) := by
  have hn : ¬ a.findIdx (·.isSome) < a.length := by
    intro hlt
    have := List.findIdx_getElem (w := hlt) (p := fun x : Option Nat => x.isSome)
    rw [List.filterMap_eq_nil_iff] at h
    have h2 := h a[a.findIdx (·.isSome)] (List.getElem_mem hlt)
    simp at h2
    simp [h2] at this
  rw [List.findIdx_append, if_neg hn, Nat.add_comm]

/-- What a joining call leaves: the items' comma tree, its location, and nothing turned. -/
def Joined (w : World) (ds : List (Option Nat)) (b : Nat) (e : Ending) (w' : World) : Prop := ∃ d l, e = .returned (.agg #[d, .int .i32 l]) ∧ St w' ds b d l ∧ Below w.heap.size w w'
theorem j18 {ds1 ds2 : List (Option Nat)} {b : Nat} {d1 d2 : Value} {l1 l2 : Int} {w : World} (h1 : St w ds1 b d1 l1) (h2 : St w ds2 (b + ds1.length) d2 l2) :
    Calls Try.prog 18 #[.agg #[d1, .int .i32 l1], .agg #[d2, .int .i32 l2]] w (Joined w (ds1 ++ ds2) b) := by
  cases h1 with
  | none _ k1 =>
    cases h2 with
    | none _ k2 => exact (j_nn _ _ _).mono fun e w' ⟨he, hb⟩ => ⟨_, _, he, .none _ (by simp [k1, k2]), hb⟩
    | some t ht hl hi =>
      refine (j_ns _ _ _ _ _).mono fun e w' ⟨he, hb⟩ => ?_
      have hf := findIdx_app_r ds1 ds2 k1
      have h := St.some (w := w') (ds := ds1 ++ ds2) (b := b) t (Tr.rep_below hb ht) (by simp [k1, hl]) (by rw [hf, List.length_append]; omega)
      rw [hf, ← Nat.add_assoc] at h
      exact ⟨_, _, he, h, hb⟩
  | some t ht hl hi =>
    have hf := findIdx_app_l ds1 ds2 hi
    cases h2 with
    | none _ k2 =>
      refine (j_sn _ _ _ _ _).mono fun e w' ⟨he, hb⟩ => ?_
      have h := St.some (w := w') (ds := ds1 ++ ds2) (b := b) t (Tr.rep_below hb ht) (by simp [k2, hl]) (by rw [hf]; simp; omega)
      rw [hf] at h
      exact ⟨_, _, he, h, hb⟩
    | some t2 ht2 hl2 hi2 =>
      refine (j_ss _ _ _ _ _ _ _).mono fun e w' ⟨q, he, hq, hb⟩ => ?_
      have h := St.some (w := w') (ds := ds1 ++ ds2) (b := b) (.node q t t2) ⟨⟨_, _, hq⟩, Tr.rep_below hb ht, Tr.rep_below hb ht2⟩ (by simp [Tr.leaves, hl, hl2]) (by rw [hf]; simp; omega)
      rw [hf] at h
      exact ⟨_, _, he, h, hb⟩

def dval : Option Nat → Value
  | none => .nilIface
  | some p => .iface 46 (.pointer (some ⟨p, 0, none⟩))
theorem st_one (w : World) (x : Option Nat) (b : Nat) : St w [x] b (dval x) (b : Int) := by
  cases x with
  | none => exact .none _ rfl
  | some p => exact St.some (w := w) (ds := [some p]) (b := b) (.leaf p) trivial rfl (by simp)
/-- A slice of items: two cells each, the locations b, b + 1, .. -/
def Row (w : World) (A : Option Addr) (ds : List (Option Nat)) (b : Nat) : Prop :=
  ∀ i, i < ds.length → ∃ g off, A = some ⟨g, off, none⟩ ∧ w.cell? ⟨g, off + i * 2, none⟩ = some (dval (ds.getD i none)) ∧ w.cell? ⟨g, off + i * 2 + 1, none⟩ = some (.int .i32 ((b + i : Nat) : Int))
theorem Row.below {w w' : World} {A : Option Addr} {ds : List (Option Nat)} {b : Nat} (h : Row w A ds b) (hb : Below w.heap.size w w') : Row w' A ds b := fun i hi => by
  obtain ⟨g, off, ha, h1, h2⟩ := h i hi
  exact ⟨g, off, ha, bcell hb h1, bcell hb h2⟩

theorem fin_round {w w2 : World} {D D' L : Value} {l' : Int} {ds : List (Option Nat)} {b : Nat} (h : Blk w2 w.heap.size #[D, L] 32) (hs : St w2 ds b D' l') (hb : Below w.heap.size w w2) :
    ∃ d l, Blk ((w2.setCell ⟨w.heap.size, 0, none⟩ D').setCell ⟨w.heap.size, 1, none⟩ (.int .i32 l')) w.heap.size #[d, .int .i32 l] 32 ∧ St ((w2.setCell ⟨w.heap.size, 0, none⟩ D').setCell ⟨w.heap.size, 1, none⟩ (.int .i32 l')) ds b d l ∧
      Below w.heap.size w ((w2.setCell ⟨w.heap.size, 0, none⟩ D').setCell ⟨w.heap.size, 1, none⟩ (.int .i32 l')) := by
  have h1 := (h.set 0 D').set 1 (.int .i32 l')
  rw [set2] at h1
  exact ⟨D', l', h1, (hs.set h 0 _).set (h.set 0 _) 1 _, (hb.setCell (Nat.le_refl _) _).setCell (Nat.le_refl _) _⟩
set_option maxHeartbeats 1000000 in
theorem all17 (A : Option Addr) (cap : Nat) (ds : List (Option Nat)) (b : Nat) (w : World) (h : Row w A ds b) (hl : ds.length ≤ 16384) :
    Calls Try.prog 17 #[.slice A ds.length cap] w (Joined w ds b) := by
  have H := Lib.hid h
  clear h
  go_enter Try.func17, Try.ntmps17
  go_wp2_with fail
  go_loopw [7, 4] (fun i _ wr => ∃ k : Nat, k ≤ ds.length ∧ i = .int .i64 k ∧ ∃ d l, Blk wr w.heap.size #[d, .int .i32 l] 32 ∧ St wr (ds.take k) b d l ∧ Below w.heap.size w wr) (fun i _ _ => ds.length - (intOf i).toNat)
  case atStart => exact ⟨0, Nat.zero_le _, rfl, _, _, Blk.new _ _ _, .none _ rfl, (Below.refl _ _).alloc (Nat.le_refl _) _⟩
  case round =>
    obtain ⟨k, hk, rfl, d, l, hblk, hst, hb⟩ := hrel
    have HB := Lib.hid hb
    have HK := Lib.hid hblk
    have b0 : wr.cell? ⟨w.heap.size, 0, none⟩ = some d := hblk.cell 0
    have b1 : wr.cell? ⟨w.heap.size, 1, none⟩ = some (.int .i32 l) := hblk.cell 1
    have hlw := hblk.lt
    clear hblk
    by_cases hlt : k < ds.length
    · obtain ⟨g, off, hA, c0, c1⟩ := H.out k hlt
      subst hA
      obtain ⟨x, hx⟩ : ∃ x, x = ds.getD k none := ⟨_, rfl⟩
      have ht : ds.take (k + 1) = ds.take k ++ [x] := by rw [List.take_succ_eq_append_getElem hlt, hx]; simp [hlt]
      have HT := Lib.hid ht
      rw [← hx] at c0
      obtain ⟨d2, hd2⟩ : ∃ d2, d2 = dval x := ⟨_, rfl⟩
      have h2 : St wr [x] (b + k) d2 ((b + k : Nat) : Int) := by rw [hd2]; exact st_one _ _ _
      rw [← hd2] at c0
      have e0 := bcell hb c0
      have e1 := bcell hb c1
      have f1 := hst.form
      have f2 := h2.form
      have hkl : (ds.take k).length = k := by simp; omega
      have SA := Lib.hid fun w' (hw : Below wr.heap.size wr w') => j18 (hst.below hw) (by rw [hkl]; exact h2.below hw)
      have HN : Hid (∀ o, Below wr.heap.size wr (wr.alloc o)) := fun o => (Below.refl _ _).alloc (Nat.le_refl _) o
      clear hst h2 c0 c1 hx ht hd2 hb hkl
      rcases f1 with rfl | ⟨T1, p1, rfl⟩ <;> rcases f2 with rfl | ⟨T2, p2, rfl⟩
      all_goals
        go_wp2_with fail
        refine (SA.out _ (HN.out _)).mono ?_
        rintro e w2 ⟨d', l', rfl, hst', hb2⟩
        have hbb := below2 (HN.out _) hb2
        have hk2 := HK.out.below hbb
        have hst2 := Lib.hid hst'
        have g0 := hk2.cell 0
        have g1 := hk2.cell 1
        have z0 := hk2.free 0
        have z1 := hk2.free 1
        have hl2 := hk2.lt
        have f3 := hst'.form
        have HBB := Lib.hid hbb
        have HK2 := Lib.hid hk2
        clear hst' hbb hk2 hb2 SA HN b0 b1 e0 e1
        rcases f3 with rfl | ⟨T3, p3, rfl⟩
        all_goals
          go_wp2_with fail
          go_roundw
          case rel =>
            refine ⟨k + 1, by omega, by go_num, ?_⟩
            rw [HT.out]
            exact fin_round HK2.out hst2.out (below2 HB.out HBB.out)
          case measure => simp [intOf]; omega
    · obtain rfl : k = ds.length := by omega
      rw [List.take_length] at hst
      have f1 := hst.form
      have HS := Lib.hid hst
      clear hst hb
      rcases f1 with rfl | ⟨T1, p1, rfl⟩
      · go_wp2_with fail
        exact bodyPost_ret (v := .agg #[.nilIface, .int .i32 l]) (by simp [results, Try.results17, go_sem, b0, b1]) rfl ⟨_, _, rfl, HS.out, HB.out⟩
      · go_wp2_with fail
        exact bodyPost_ret (v := .agg #[.iface T1 (.pointer (some ⟨p1, 0, none⟩)), .int .i32 l]) (by simp [results, Try.results17, go_sem, b0, b1]) rfl ⟨_, _, rfl, HS.out, HB.out⟩
end Go.Proofs.Ytiejadamfgbidab.join
