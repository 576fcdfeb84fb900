/- Assign over any two built expressions, and what an assignment's known type is. No conditions beyond their hypotheses. -/
import Derived.Test.YtiejadamfgbidaaChainA
namespace Go.Proofs.Ytiejadamfgbidaa.build27
open Go.ChangeShapes Go.WideShapes Go.ChangeAt Go.RowKit Go.Mine
set_option linter.unusedVariables false
set_option maxRecDepth 100000

theorem balloc {a w : World} (h : Below a.heap.size a w) (o : Obj) : Below a.heap.size a (w.alloc o) := h.alloc h.size _
theorem cellAll {a w : World} (h : Below a.heap.size a w) : ∀ b o, b < a.heap.size → w.cell? ⟨b, o, none⟩ = a.cell? ⟨b, o, none⟩ := fun b o hb => h.cell (p := ⟨b, o, none⟩) hb
theorem frozenAll {a w : World} (h : Below a.heap.size a w) : ∀ b o, b < a.heap.size → w.frozen? ⟨b, o, none⟩ = a.frozen? ⟨b, o, none⟩ := fun b o hb => h.frozen (p := ⟨b, o, none⟩) hb
theorem blkDrew {w : World} {q : Nat} {C : Array Value} {t : TypeId} (h : Blk w q C t) : Blk w.drew q C t := h
theorem blkNew {w : World} {q : Nat} (C : Array Value) (t : TypeId) (h : q = w.heap.size) : Blk (w.alloc (.cells C t)) q C t := by subst h; exact Blk.new w C t

/-- A data value: nil, or a node's pointer. -/
def Frm (D : Value) : Prop := D = .nilIface ∨ ∃ T p, D = .iface T (.pointer (some ⟨p, 0, none⟩))
theorem Node.frm {c : Int} {w : World} {B : Nat} {D : Value} (h : Node c w B D) : Frm D := by
  rcases h with ⟨_, rfl⟩ | ⟨T, p, rfl, _⟩
  · exact .inl rfl
  · exact .inr ⟨_, _, rfl⟩
def BuiltNil (l : Int) (w : World) (e : Ending) (w' : World) : Prop := e = .returned (.agg #[.nilIface, .int .i32 l]) ∧ Below w.heap.size w w'
def BuiltSome (c : Int) (l : Int) (w : World) (e : Ending) (w' : World) : Prop :=
  ∃ T p, e = .returned (.agg #[.iface T (.pointer (some ⟨p, 0, none⟩)), .int .i32 l]) ∧ Below w.heap.size w w' ∧ Node c w' w.heap.size (.iface T (.pointer (some ⟨p, 0, none⟩)))
theorem build_nil (a0 a1 : Int) (a2 : Bool) (a3 : Nat) (a4 : Int) (w : World) (h0 : 0 ≤ a0) (h : a0 % 20 = 15) :
    Calls Try.prog 27 #[.int .u8 a0, .int .u8 a1, .bool a2, .float .f64 a3, .int .i32 a4] w (BuiltNil a4 w) := by
  have hb := build_any a0 a1 a2 a3 a4 w h0
  rw [h] at hb
  refine hb.mono fun e w' ⟨D, he, hb, hn⟩ => ?_
  rcases hn with ⟨_, rfl⟩ | ⟨T, p, rfl, _, _, hn⟩
  · exact ⟨he, hb⟩
  · exfalso
    omega
theorem build_some (a0 a1 : Int) (a2 : Bool) (a3 : Nat) (a4 : Int) (w : World) (h0 : 0 ≤ a0) (h : a0 % 20 ≠ 15) :
    Calls Try.prog 27 #[.int .u8 a0, .int .u8 a1, .bool a2, .float .f64 a3, .int .i32 a4] w (BuiltSome (a0 % 20) a4 w) := by
  refine (build_any a0 a1 a2 a3 a4 w h0).mono fun e w' ⟨D, he, hb, hn⟩ => ?_
  rcases hn with ⟨e, rfl⟩ | ⟨T, p, rfl, hn⟩
  · contradiction
  · exact ⟨T, p, he, hb, .inr ⟨T, p, rfl, hn⟩⟩

def AsnPost (D1 : Value) (l1 : Int) (D2 : Value) (l2 : Int) (w : World) (e : Ending) (w' : World) : Prop :=
  ∃ p, e = .returned (.agg #[.iface 130 (.pointer (some ⟨p, 0, none⟩)), .int .i32 l1]) ∧ Blk w' p #[D1, .int .i32 l1, D2, .int .i32 l2, .int .u8 37, .bool false] 132 ∧ w.heap.size ≤ p ∧ Below w.heap.size w w'
theorem asn (D1 : Value) (l1 : Int) (D2 : Value) (l2 : Int) (w : World) (h1 : Frm D1) (h2 : Frm D2) : Calls Try.prog 28 #[.agg #[D1, .int .i32 l1], .agg #[D2, .int .i32 l2]] w (AsnPost D1 l1 D2 l2 w) := by
  rcases h1 with rfl | ⟨T1, p1, rfl⟩ <;> rcases h2 with rfl | ⟨T2, p2, rfl⟩
  all_goals
    go_enter Try.func28, Try.ntmps28
    go_wp2_with fail
    refine bodyPost_ret (v := .agg #[.iface 130 (.pointer (some ⟨w.heap.size + 3, 0, none⟩)), .int .i32 l1]) (by simp [results, Try.results28, go_sem]) rfl ⟨_, rfl, ?_, by omega, ?_⟩
    · go_light
      exact blkNew _ _ (by simp)
    · go_light
      repeat (first | with_reducible exact Below.refl _ _ | with_reducible refine Below.drew ?_ | with_reducible refine Below.alloc ?_ (by simp <;> omega) _ | with_reducible refine Below.setCell ?_ (by simp <;> omega) _)
theorem kp_asn {X : Nat → Prop} {D : Value} {n : Int} {w : World} {p : Nat} (hf : Frm D) (hx : ¬ X p) (h : Says Try.prog X 18 #[D] (.int .u8 n) w) (c0 : w.cell? ⟨p, 2, none⟩ = some D) (c4 : w.cell? ⟨p, 4, none⟩ = some (.int .u8 37)) :
    Says Try.prog X 18 #[.iface 130 (.pointer (some ⟨p, 0, none⟩))] (.int .u8 n) w := by
  intro w' hb
  have d0 := hb.cell hx c0
  have d4 := hb.cell hx c4
  have H := Lib.hid (h w' hb)
  clear h c0 c4
  rcases hf with rfl | ⟨T, q, rfl⟩
  all_goals
    go_enter Try.func18, Try.ntmps18
    go_wp2_with fail
    refine H.out.mono ?_
    rintro e w2 ⟨rfl, hb2⟩
    go_wp2_with fail
    go_ret
    exact ⟨rfl, hb2⟩

theorem kp_node' {c : Int} {w : World} {B T p : Nat} (h : Node c w B (.iface T (.pointer (some ⟨p, 0, none⟩)))) (X : Nat → Prop) (hx : ¬ X p) : Says Try.prog X 18 #[.iface T (.pointer (some ⟨p, 0, none⟩))] (.int .u8 (ty c)) w := by
  rcases h with ⟨_, e⟩ | ⟨T', p', e, h1, h2, h⟩
  · cases e
  · obtain ⟨rfl, rfl⟩ : T = T' ∧ p = p' := by injection e with a b; injection b with b; injection b with b; injection b with b; exact ⟨a, b⟩
    rcases h with ⟨rfl, rfl⟩ | ⟨rfl, rfl⟩ | ⟨rfl, rfl⟩ | ⟨rfl, rfl⟩ | ⟨rfl, rfl⟩ | ⟨rfl, rfl⟩ | ⟨rfl, rfl, hc⟩ | ⟨rfl, rfl, hc⟩ | ⟨rfl, rfl, hc⟩ | ⟨rfl, rfl, q, hc⟩ | ⟨rfl, rfl, q, hc⟩ | ⟨hT, hc⟩ | ⟨rfl, rfl, q, hc⟩ | ⟨rfl, rfl, q, hc⟩
    · exact kp_plain X _ _ _ w (by decide)
    · exact kp_plain X _ _ _ w (by decide)
    · exact kp_plain X _ _ _ w (by decide)
    · exact kp_plain X _ _ _ w (by decide)
    · exact kp_plain X _ _ _ w (by decide)
    · exact kp_plain X _ _ _ w (by decide)
    · exact kp_un X p 5 _ w hx hc (by decide)
    · exact kp_un X p 4 _ w hx hc (by decide)
    · exact kp_eq X p w hx hc
    · exact kp_wrap X _ p _ _ _ w (by decide) hx hc (kp_plain X _ _ _ w (by decide))
    · exact kp_wrap X _ p _ _ _ w (by decide) hx hc (kp_plain X _ _ _ w (by decide))
    · have e : ty c = 0 := by rcases hc with rfl | rfl | rfl | rfl | rfl | rfl <;> decide
      rw [e]
      exact kp_plain X T _ _ w (.inr (.inr (.inr (.inr (.inr (.inr ⟨hT, rfl⟩))))))
    · exact kp_wrap X _ p _ _ _ w (by decide) hx hc (kp_plain X _ _ _ w (by decide))
    · exact kp_wrap X _ p _ _ _ w (by decide) hx hc (kp_plain X _ _ _ w (by decide))
/-- Behind a region that builds an expression into a new variable q: its data and location; the data's known type; whatever is in the block q may turn. -/
def After (w0 : World) (l : Int) (c : Int) (s : Value) (W : World) : Prop :=
  ∃ q D, s = .pointer (some ⟨q, 0, none⟩) ∧ w0.heap.size ≤ q ∧ Blk W q #[D, .int .i32 l] 31 ∧ Frm D ∧ Says Try.prog (· = q) 18 #[D] (.int .u8 (ty c)) W ∧ Below w0.heap.size w0 W
theorem after_nil {w0 W : World} {q : Nat} {l : Int} (hq : w0.heap.size ≤ q) (hk : Blk W q #[.nilIface, .int .i32 l] 31) (hb : Below w0.heap.size w0 W) : After w0 l 15 (.pointer (some ⟨q, 0, none⟩)) W :=
  ⟨q, .nilIface, rfl, hq, hk, .inl rfl, kp_nil _ _, hb⟩
theorem after_some {w0 W : World} {q : Nat} {l c : Int} {T p : Nat} (hq : w0.heap.size ≤ q) (hk : Blk W q #[.iface T (.pointer (some ⟨p, 0, none⟩)), .int .i32 l] 31) (hb : Below w0.heap.size w0 W)
    (hs : Says Try.prog (· = q) 18 #[.iface T (.pointer (some ⟨p, 0, none⟩))] (.int .u8 (ty c)) W) : After w0 l c (.pointer (some ⟨q, 0, none⟩)) W := ⟨q, _, rfl, hq, hk, .inr ⟨_, _, rfl⟩, hs, hb⟩
/-- The variable is laid behind the call. -/
theorem after_new {w0 w2 : World} {l c : Int} {T p B : Nat} (hb : Below w0.heap.size w0 w2) (hn : Node c w2 B (.iface T (.pointer (some ⟨p, 0, none⟩)))) :
    After w0 l c (.pointer (some ⟨w2.heap.size, 0, none⟩)) (w2.alloc (.cells #[.iface T (.pointer (some ⟨p, 0, none⟩)), .int .i32 l] 31)) := by
  have hp : p < w2.heap.size := by
    rcases hn with ⟨_, e⟩ | ⟨T', p', e, h1, h2, h⟩
    · cases e
    · injection e with a b; injection b with b; injection b with b; injection b with b; omega
  refine after_some hb.size (blkNew _ _ rfl) (balloc hb _) ((kp_node' hn (· = w2.heap.size) (by omega)).later (Same.of_below ((Below.refl _ _).alloc (Nat.le_refl _) _)))
/-- The variable is laid ahead of the call, and turned behind it. -/
theorem after_set {w0 w1 w2 : World} {q : Nat} {l c : Int} {T p : Nat} (hb : Below w0.heap.size w0 w2) (hk : Blk w2 q #[.nilIface, .int .i32 0] 31) (hq : w0.heap.size ≤ q) (hq1 : q < w1.heap.size) (hn : Node c w2 w1.heap.size (.iface T (.pointer (some ⟨p, 0, none⟩)))) :
    After w0 l c (.pointer (some ⟨q, 0, none⟩)) ((w2.setCell ⟨q, 0, none⟩ (.iface T (.pointer (some ⟨p, 0, none⟩)))).setCell ⟨q, 1, none⟩ (.int .i32 l)) := by
  have hp : p ≠ q := by
    rcases hn with ⟨_, e⟩ | ⟨T', p', e, h1, h2, h⟩
    · cases e
    · injection e with a b; injection b with b; injection b with b; injection b with b; omega
  have h := (hk.set 0 (.iface T (.pointer (some ⟨p, 0, none⟩)))).set 1 (.int .i32 l)
  rw [set2] at h
  exact after_some hq h ((hb.setCell hq _).setCell hq _) ((kp_node' hn (· = q) (by simpa using hp)).later (Same.setCell (X := fun k => k = q) (p := ⟨q, 1, none⟩) (Same.setCell (X := fun k => k = q) (p := ⟨q, 0, none⟩) (Same.refl _ _) rfl _) rfl _))
theorem after_setn {w0 w2 : World} {q : Nat} {l : Int} (hb : Below w0.heap.size w0 w2) (hk : Blk w2 q #[.nilIface, .int .i32 0] 31) (hq : w0.heap.size ≤ q) :
    After w0 l 15 (.pointer (some ⟨q, 0, none⟩)) ((w2.setCell ⟨q, 0, none⟩ .nilIface).setCell ⟨q, 1, none⟩ (.int .i32 l)) := by
  have h := (hk.set 0 .nilIface).set 1 (.int .i32 l)
  rw [set2] at h
  exact after_nil hq h ((hb.setCell hq _).setCell hq _)
end Go.Proofs.Ytiejadamfgbidaa.build27
