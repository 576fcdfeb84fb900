/- Expression trees of numbers and binary operators: what zzParse builds. No conditions beyond their hypotheses. -/
import Derived.Test.YtiejadamfgbidabRows
import Derived.Test.YtiejadamfgbidabLib
import Derived.Test.YtiejadamfgbidabAsserts
import Derived.Deep.RegionHeld3
import Derived.Deep.RegionWith
import Derived.Deep.QuietTactic
import Derived.BigQuiet
import Derived.Outline
namespace Go.Proofs.Ytiejadamfgbidab.left
open Go.ChangeShapes Go.WideShapes Go.ChangeAt Go.RowKit Go.Mine
set_option linter.unusedVariables false
set_option maxRecDepth 100000

/-- The shape of a tree: numbers and operators with their locations. -/
inductive S where
  | num (n : Nat)
  | bin (op : Int) (n : Nat) (l r : S)
/-- A tree with the places of its nodes. -/
inductive E where
  | num (p n : Nat)
  | bin (p : Nat) (op : Int) (n : Nat) (l r : E)
def E.sh : E → S
  | .num _ n => .num n
  | .bin _ op n l r => .bin op n l.sh r.sh
def E.ty : E → Nat
  | .num _ _ => 46
  | .bin _ _ _ _ _ => 110
def E.at_ : E → Nat
  | .num p _ => p
  | .bin p _ _ _ _ => p
def E.n : E → Nat
  | .num _ n => n
  | .bin _ _ n _ _ => n
def E.rep (w : World) : E → Prop
  | .num p n => Blk w p #[.float .f64 (floatOfInt .f64 (n : Int))] 109
  | .bin p op _ l r => Blk w p #[.iface l.ty (.pointer (some ⟨l.at_, 0, none⟩)), .int .i32 (l.n : Int), .iface r.ty (.pointer (some ⟨r.at_, 0, none⟩)), .int .i32 (r.n : Int), .int .u8 op, .bool false] 112 ∧ l.rep w ∧ r.rep w
theorem E.rep_below {w w' : World} (hb : Below w.heap.size w w') : ∀ {t : E}, t.rep w → t.rep w'
  | .num _ _, h => Blk.below h hb
  | .bin _ _ _ _ _, ⟨h, hl, hr⟩ => ⟨h.below hb, rep_below hb hl, rep_below hb hr⟩
theorem blk_ne {w : World} {p q : Nat} {C C' : Array Value} {t t' : TypeId} (h : Blk w p C t) (h' : Blk w q C' t') (hne : t ≠ t') : p ≠ q := by
  rintro rfl
  unfold Blk at h h'
  rw [h] at h'
  injection h' with h'
  injection h' with _ ht
  exact hne ht
theorem E.rep_set {w : World} {q : Nat} {C : Array Value} (hq : Blk w q C 32) (o : Nat) (u : Value) : ∀ {t : E}, t.rep w → t.rep (w.setCell ⟨q, o, none⟩ u)
  | .num _ _, h => Blk.setOther (a := ⟨q, o, none⟩) h (blk_ne h hq (by decide)) u
  | .bin _ _ _ _ _, ⟨h, hl, hr⟩ => ⟨h.setOther (a := ⟨q, o, none⟩) (blk_ne h hq (by decide)) u, rep_set hq o u hl, rep_set hq o u hr⟩
theorem blkNew {w : World} {q : Nat} (C : Array Value) (t : TypeId) (h : q = w.heap.size) : Blk (w.alloc (.cells C t)) q C t := by subst h; exact Blk.new w C t
theorem balloc {a w : World} (h : Below a.heap.size a w) (o : Obj) : Below a.heap.size a (w.alloc o) := h.alloc h.size _

/-- What zzParse reads, with fuel. -/
def parse (zs : List Int) (base : Nat) (op other : Int) : Nat → Nat → Option (S × Nat)
  | 0, _ => none
  | f + 1, pos =>
    if zs.length ≤ pos then none
    else if zs.getD pos 0 = 0 then some (.num (pos + base), pos + 1)
    else if 3 < zs.getD pos 0 then none
    else match parse zs base op other f (pos + 1) with
      | none => none
      | some (l, n1) => match parse zs base op other f n1 with
        | none => none
        | some (r, n2) => some (.bin (if zs.getD pos 0 = 2 then 36 else if zs.getD pos 0 = 3 then other else op) (pos + base) l r, n2)
theorem parse_bd {zs : List Int} {base : Nat} {op other : Int} : ∀ {f pos : Nat} {s : S} {n : Nat}, parse zs base op other f pos = some (s, n) → pos < n ∧ n ≤ zs.length
  | 0, _, _, _, h => by simp [parse] at h
  | f + 1, pos, s, n, h => by
    unfold parse at h
    by_cases h1 : zs.length ≤ pos
    · rw [if_pos h1] at h; cases h
    · rw [if_neg h1] at h
      by_cases h2 : zs.getD pos 0 = 0
      · rw [if_pos h2] at h
        simp at h
        omega
      · rw [if_neg h2] at h
        by_cases h3 : 3 < zs.getD pos 0
        · rw [if_pos h3] at h; cases h
        · rw [if_neg h3] at h
          cases k1 : parse zs base op other f (pos + 1) with
          | none => rw [k1] at h; cases h
          | some x =>
            obtain ⟨l, n1⟩ := x
            rw [k1] at h
            simp only at h
            cases k2 : parse zs base op other f n1 with
            | none => rw [k2] at h; cases h
            | some y =>
              obtain ⟨r, n2⟩ := y
              rw [k2] at h
              simp at h
              have q1 := parse_bd k1
              have q2 := parse_bd k2
              omega

def PNone (pos : Nat) (w : World) (e : Ending) (w' : World) : Prop := e = .returned (.tuple #[.agg #[.nilIface, .int .i32 0], .int .i64 (pos : Int), .bool false]) ∧ Below w.heap.size w w'
def PSome (s : S) (n : Nat) (w : World) (e : Ending) (w' : World) : Prop :=
  ∃ t : E, t.sh = s ∧ t.rep w' ∧ e = .returned (.tuple #[.agg #[.iface t.ty (.pointer (some ⟨t.at_, 0, none⟩)), .int .i32 (t.n : Int)], .int .i64 (n : Int), .bool true]) ∧ Below w.heap.size w w'
def Parsed (r : Option (S × Nat)) (pos : Nat) (w : World) (e : Ending) (w' : World) : Prop :=
  match r with
  | none => PNone pos w e w'
  | some (s, n) => PSome s n w e w'

section
variable (a : Option Addr) (len cap : Nat) (zs : List Int) (base : Nat) (op other : Int)
abbrev args (pos : Nat) : Array Value := #[.slice a len cap, .int .i64 (pos : Int), .int .i64 (base : Int), .int .u8 op, .int .u8 other]
set_option maxHeartbeats 1000000 in
theorem p_end (pos : Nat) (w : World) (h : len ≤ pos) (hp : pos ≤ 4096) : Calls Try.prog 12 (args a len cap base op other pos) w (PNone pos w) := by
  go_enter Try.func12, Try.ntmps12
  go_wp2_with fail
  refine bodyPost_ret (v := .tuple #[.agg #[.nilIface, .int .i32 0], .int .i64 (pos : Int), .bool false]) (by simp [results, Try.results12, go_sem]) rfl ⟨rfl, ?_⟩
  go_light
  repeat (first | with_reducible exact Below.refl _ _ | with_reducible refine Below.drew ?_ | with_reducible refine Below.alloc ?_ (by simp <;> omega) _ | with_reducible refine Below.setCell ?_ (by simp <;> omega) _)
set_option maxHeartbeats 1000000 in
theorem p_num (b off pos : Nat) (w : World) (h : pos < len) (hl : len ≤ 4096) (hB : base ≤ 8192) (hbl : b < w.heap.size) (hc : w.cell? ⟨b, off + pos, none⟩ = some (.int .u8 0)) : Calls Try.prog 12 (args (some ⟨b, off, none⟩) len cap base op other pos) w (PSome (.num (pos + base)) (pos + 1) w) := by
  go_enter Try.func12, Try.ntmps12
  go_wp2_with fail
  refine bodyPost_ret (v := .tuple #[.agg #[.iface 46 (.pointer (some ⟨w.heap.size + 2, 0, none⟩)), .int .i32 ((pos + base : Nat) : Int)], .int .i64 ((pos + 1 : Nat) : Int), .bool true]) (by simp [results, Try.results12, go_sem]) rfl ⟨.num (w.heap.size + 2) (pos + base), rfl, ?_, rfl, ?_⟩
  · go_light
    trace_state
    exact blkNew _ _ (by simp)
  · go_light
    repeat (first | with_reducible exact Below.refl _ _ | with_reducible refine Below.drew ?_ | with_reducible refine Below.alloc ?_ (by simp <;> omega) _ | with_reducible refine Below.setCell ?_ (by simp <;> omega) _)
set_option maxHeartbeats 1000000 in
theorem p_big (b off pos : Nat) (c : Int) (w : World) (h : pos < len) (hl : len ≤ 4096) (hB : base ≤ 8192) (hbl : b < w.heap.size) (hc : w.cell? ⟨b, off + pos, none⟩ = some (.int .u8 c)) (h3 : 3 < c) : Calls Try.prog 12 (args (some ⟨b, off, none⟩) len cap base op other pos) w (PNone pos w) := by
  have hz : (c == 0) = false := by simp; omega
  go_enter Try.func12, Try.ntmps12
  go_wp2_with fail
  refine bodyPost_ret (v := .tuple #[.agg #[.nilIface, .int .i32 0], .int .i64 (pos : Int), .bool false]) (by simp [results, Try.results12, go_sem]) rfl ⟨rfl, ?_⟩
  go_light
  repeat (first | with_reducible exact Below.refl _ _ | with_reducible refine Below.drew ?_ | with_reducible refine Below.alloc ?_ (by simp <;> omega) _ | with_reducible refine Below.setCell ?_ (by simp <;> omega) _)
end
end Go.Proofs.Ytiejadamfgbidab.left
