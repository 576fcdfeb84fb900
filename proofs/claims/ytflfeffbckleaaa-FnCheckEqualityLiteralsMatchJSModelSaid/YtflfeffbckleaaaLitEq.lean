/- The equality of two literals of the package n011_90: what the code and what the model answer. No conditions beyond their hypotheses. -/
import Derived.Test.YtflfeffbckleaaaRows
import Derived.Test.YtflfeffbckleaaaLib
import Derived.Test.YtflfeffbckleaaaAsserts
import Derived.Deep.RegionHeld3
import Derived.Deep.RegionWith
import Derived.Deep.QuietTactic
import Derived.BigQuiet
import Derived.Outline
import Derived.Test.YtflfeffbckleaaaLits
namespace Go.Proofs.Ytflfeffbckleaaa.lits
open Go.ChangeShapes Go.WideShapes Go.ChangeAt Go.RowKit Go.Mine
set_option linter.unusedVariables false
set_option maxRecDepth 100000

def eqv (st : Bool) (i j : Int) (lb rb : Bool) (ln rn : Nat) (ls rs : ByteArray) (lz rz : List Int) : Bool × Bool :=
  if i ≤ 1 ∧ j ≤ 1 then (if i = j then (true, true) else (!st, true))
  else if i ≤ 1 ∨ j ≤ 1 then (false, true)
  else if i = j then
    (if i = 2 then (lb == rb, true) else if i = 3 then (FloatKind.f64.format.order ln rn == some .eq, true)
     else if i = 4 then (if ls.toList == rs.toList then (true, true) else (false, !rad ls && !rad rs)) else (decide (lz = rz), true))
  else if i = 2 ∧ j = 3 then (if st then (false, true) else (FloatKind.f64.format.order rn (if lb then 4607182418800017408 else 0) == some .eq, true))
  else if i = 3 ∧ j = 2 then (if st then (false, true) else (FloatKind.f64.format.order ln (if rb then 4607182418800017408 else 0) == some .eq, true))
  else if st then (false, true) else (false, false)
theorem toList_inj {a b : ByteArray} (h : a.toList = b.toList) : a = b := by
  rw [ByteArray.toList_eq, ByteArray.toList_eq] at h
  exact ByteArray.ext (Array.toList_inj.1 h)
set_option maxHeartbeats 1000000 in
theorem ce00 (k : Int) (st : Bool) (hk : (st = true ∧ k = 1) ∨ (st = false ∧ k = 0)) (lb rb : Bool) (ln rn : Nat) (ls rs : ByteArray) (la ra : Option Addr) (l0 c0 l1 c1 : Nat) (lz rz : List Int) (p q : Nat) (w : World) :
    Calls Try.prog 14 #[.iface 74 (.pointer (some ⟨p, 0, none⟩)), .iface 74 (.pointer (some ⟨q, 0, none⟩)), .int .u8 k] w fun e w' => e = .returned (.tuple #[.bool (eqv st 0 0 lb rb ln rn ls rs lz rz).1, .bool (eqv st 0 0 lb rb ln rn ls rs lz rz).2]) ∧ ∃ n, w' = w.drewN n := by
  rcases hk with ⟨rfl, rfl⟩ | ⟨rfl, rfl⟩
  all_goals
    go_enter Try.func14, Try.ntmps14
    go_wp2_with (first | (go_at_call 53; refine (prim53 _ _ _ (by decide)).mono ?_; rintro e w' ⟨rfl, rfl⟩))
    go_ret2
    first | exact ⟨rfl, 0, rfl⟩ | exact ⟨rfl, _, rfl⟩ | (refine ⟨ret2 ?_ ?_, _, rfl⟩ <;> simp [eqv])
set_option maxHeartbeats 1000000 in
theorem ce01 (k : Int) (st : Bool) (hk : (st = true ∧ k = 1) ∨ (st = false ∧ k = 0)) (lb rb : Bool) (ln rn : Nat) (ls rs : ByteArray) (la ra : Option Addr) (l0 c0 l1 c1 : Nat) (lz rz : List Int) (p q : Nat) (w : World) :
    Calls Try.prog 14 #[.iface 74 (.pointer (some ⟨p, 0, none⟩)), .iface 75 (.pointer (some ⟨q, 0, none⟩)), .int .u8 k] w fun e w' => e = .returned (.tuple #[.bool (eqv st 0 1 lb rb ln rn ls rs lz rz).1, .bool (eqv st 0 1 lb rb ln rn ls rs lz rz).2]) ∧ ∃ n, w' = w.drewN n := by
  rcases hk with ⟨rfl, rfl⟩ | ⟨rfl, rfl⟩
  all_goals
    go_enter Try.func14, Try.ntmps14
    go_wp2_with (first | (go_at_call 53; refine (prim53 _ _ _ (by decide)).mono ?_; rintro e w' ⟨rfl, rfl⟩))
    go_ret2
    first | exact ⟨rfl, 0, rfl⟩ | exact ⟨rfl, _, rfl⟩ | (refine ⟨ret2 ?_ ?_, _, rfl⟩ <;> simp [eqv])
set_option maxHeartbeats 1000000 in
theorem ce02 (k : Int) (st : Bool) (hk : (st = true ∧ k = 1) ∨ (st = false ∧ k = 0)) (lb rb : Bool) (ln rn : Nat) (ls rs : ByteArray) (la ra : Option Addr) (l0 c0 l1 c1 : Nat) (lz rz : List Int) (p q : Nat) (w : World) (hr : w.cell? ⟨q, 0, none⟩ = some (.bool rb)) :
    Calls Try.prog 14 #[.iface 74 (.pointer (some ⟨p, 0, none⟩)), .iface 77 (.pointer (some ⟨q, 0, none⟩)), .int .u8 k] w fun e w' => e = .returned (.tuple #[.bool (eqv st 0 2 lb rb ln rn ls rs lz rz).1, .bool (eqv st 0 2 lb rb ln rn ls rs lz rz).2]) ∧ ∃ n, w' = w.drewN n := by
  rcases hk with ⟨rfl, rfl⟩ | ⟨rfl, rfl⟩
  all_goals
    go_enter Try.func14, Try.ntmps14
    go_wp2_with (first | (go_at_call 53; refine (prim53 _ _ _ (by decide)).mono ?_; rintro e w' ⟨rfl, rfl⟩))
    go_ret2
    first | exact ⟨rfl, 0, rfl⟩ | exact ⟨rfl, _, rfl⟩ | (refine ⟨ret2 ?_ ?_, _, rfl⟩ <;> simp [eqv])
set_option maxHeartbeats 1000000 in
theorem ce03 (k : Int) (st : Bool) (hk : (st = true ∧ k = 1) ∨ (st = false ∧ k = 0)) (lb rb : Bool) (ln rn : Nat) (ls rs : ByteArray) (la ra : Option Addr) (l0 c0 l1 c1 : Nat) (lz rz : List Int) (p q : Nat) (w : World) (hr : w.cell? ⟨q, 0, none⟩ = some (.float .f64 rn)) :
    Calls Try.prog 14 #[.iface 74 (.pointer (some ⟨p, 0, none⟩)), .iface 80 (.pointer (some ⟨q, 0, none⟩)), .int .u8 k] w fun e w' => e = .returned (.tuple #[.bool (eqv st 0 3 lb rb ln rn ls rs lz rz).1, .bool (eqv st 0 3 lb rb ln rn ls rs lz rz).2]) ∧ ∃ n, w' = w.drewN n := by
  rcases hk with ⟨rfl, rfl⟩ | ⟨rfl, rfl⟩
  all_goals
    go_enter Try.func14, Try.ntmps14
    go_wp2_with (first | (go_at_call 53; refine (prim53 _ _ _ (by decide)).mono ?_; rintro e w' ⟨rfl, rfl⟩))
    go_ret2
    first | exact ⟨rfl, 0, rfl⟩ | exact ⟨rfl, _, rfl⟩ | (refine ⟨ret2 ?_ ?_, _, rfl⟩ <;> simp [eqv])
set_option maxHeartbeats 1000000 in
theorem ce04 (k : Int) (st : Bool) (hk : (st = true ∧ k = 1) ∨ (st = false ∧ k = 0)) (lb rb : Bool) (ln rn : Nat) (ls rs : ByteArray) (la ra : Option Addr) (l0 c0 l1 c1 : Nat) (lz rz : List Int) (p q : Nat) (w : World) (hr : w.cell? ⟨q, 0, none⟩ = some (.string rs)) (hsr : rs.size ≤ maxLen) :
    Calls Try.prog 14 #[.iface 74 (.pointer (some ⟨p, 0, none⟩)), .iface 83 (.pointer (some ⟨q, 0, none⟩)), .int .u8 k] w fun e w' => e = .returned (.tuple #[.bool (eqv st 0 4 lb rb ln rn ls rs lz rz).1, .bool (eqv st 0 4 lb rb ln rn ls rs lz rz).2]) ∧ ∃ n, w' = w.drewN n := by
  clear hsr
  rcases hk with ⟨rfl, rfl⟩ | ⟨rfl, rfl⟩
  all_goals
    go_enter Try.func14, Try.ntmps14
    go_wp2_with (first | (go_at_call 53; refine (prim53 _ _ _ (by decide)).mono ?_; rintro e w' ⟨rfl, rfl⟩))
    go_ret2
    first | exact ⟨rfl, 0, rfl⟩ | exact ⟨rfl, _, rfl⟩ | (refine ⟨ret2 ?_ ?_, _, rfl⟩ <;> simp [eqv])
set_option maxHeartbeats 1000000 in
theorem ce05 (k : Int) (st : Bool) (hk : (st = true ∧ k = 1) ∨ (st = false ∧ k = 0)) (lb rb : Bool) (ln rn : Nat) (ls rs : ByteArray) (la ra : Option Addr) (l0 c0 l1 c1 : Nat) (lz rz : List Int) (p q : Nat) (w : World) (hr : w.cell? ⟨q, 0, none⟩ = some (.slice ra l1 c1)) (hsr : IntRow .u16 w ra l1 c1 rz) :
    Calls Try.prog 14 #[.iface 74 (.pointer (some ⟨p, 0, none⟩)), .iface 87 (.pointer (some ⟨q, 0, none⟩)), .int .u8 k] w fun e w' => e = .returned (.tuple #[.bool (eqv st 0 5 lb rb ln rn ls rs lz rz).1, .bool (eqv st 0 5 lb rb ln rn ls rs lz rz).2]) ∧ ∃ n, w' = w.drewN n := by
  clear hsr
  rcases hk with ⟨rfl, rfl⟩ | ⟨rfl, rfl⟩
  all_goals
    go_enter Try.func14, Try.ntmps14
    go_wp2_with (first | (go_at_call 53; refine (prim53 _ _ _ (by decide)).mono ?_; rintro e w' ⟨rfl, rfl⟩))
    go_ret2
    first | exact ⟨rfl, 0, rfl⟩ | exact ⟨rfl, _, rfl⟩ | (refine ⟨ret2 ?_ ?_, _, rfl⟩ <;> simp [eqv])
set_option maxHeartbeats 1000000 in
theorem ce10 (k : Int) (st : Bool) (hk : (st = true ∧ k = 1) ∨ (st = false ∧ k = 0)) (lb rb : Bool) (ln rn : Nat) (ls rs : ByteArray) (la ra : Option Addr) (l0 c0 l1 c1 : Nat) (lz rz : List Int) (p q : Nat) (w : World) :
    Calls Try.prog 14 #[.iface 75 (.pointer (some ⟨p, 0, none⟩)), .iface 74 (.pointer (some ⟨q, 0, none⟩)), .int .u8 k] w fun e w' => e = .returned (.tuple #[.bool (eqv st 1 0 lb rb ln rn ls rs lz rz).1, .bool (eqv st 1 0 lb rb ln rn ls rs lz rz).2]) ∧ ∃ n, w' = w.drewN n := by
  rcases hk with ⟨rfl, rfl⟩ | ⟨rfl, rfl⟩
  all_goals
    go_enter Try.func14, Try.ntmps14
    go_wp2_with (first | (go_at_call 53; refine (prim53 _ _ _ (by decide)).mono ?_; rintro e w' ⟨rfl, rfl⟩))
    go_ret2
    first | exact ⟨rfl, 0, rfl⟩ | exact ⟨rfl, _, rfl⟩ | (refine ⟨ret2 ?_ ?_, _, rfl⟩ <;> simp [eqv])
set_option maxHeartbeats 1000000 in
theorem ce11 (k : Int) (st : Bool) (hk : (st = true ∧ k = 1) ∨ (st = false ∧ k = 0)) (lb rb : Bool) (ln rn : Nat) (ls rs : ByteArray) (la ra : Option Addr) (l0 c0 l1 c1 : Nat) (lz rz : List Int) (p q : Nat) (w : World) :
    Calls Try.prog 14 #[.iface 75 (.pointer (some ⟨p, 0, none⟩)), .iface 75 (.pointer (some ⟨q, 0, none⟩)), .int .u8 k] w fun e w' => e = .returned (.tuple #[.bool (eqv st 1 1 lb rb ln rn ls rs lz rz).1, .bool (eqv st 1 1 lb rb ln rn ls rs lz rz).2]) ∧ ∃ n, w' = w.drewN n := by
  rcases hk with ⟨rfl, rfl⟩ | ⟨rfl, rfl⟩
  all_goals
    go_enter Try.func14, Try.ntmps14
    go_wp2_with (first | (go_at_call 53; refine (prim53 _ _ _ (by decide)).mono ?_; rintro e w' ⟨rfl, rfl⟩))
    go_ret2
    first | exact ⟨rfl, 0, rfl⟩ | exact ⟨rfl, _, rfl⟩ | (refine ⟨ret2 ?_ ?_, _, rfl⟩ <;> simp [eqv])
set_option maxHeartbeats 1000000 in
theorem ce12 (k : Int) (st : Bool) (hk : (st = true ∧ k = 1) ∨ (st = false ∧ k = 0)) (lb rb : Bool) (ln rn : Nat) (ls rs : ByteArray) (la ra : Option Addr) (l0 c0 l1 c1 : Nat) (lz rz : List Int) (p q : Nat) (w : World) (hr : w.cell? ⟨q, 0, none⟩ = some (.bool rb)) :
    Calls Try.prog 14 #[.iface 75 (.pointer (some ⟨p, 0, none⟩)), .iface 77 (.pointer (some ⟨q, 0, none⟩)), .int .u8 k] w fun e w' => e = .returned (.tuple #[.bool (eqv st 1 2 lb rb ln rn ls rs lz rz).1, .bool (eqv st 1 2 lb rb ln rn ls rs lz rz).2]) ∧ ∃ n, w' = w.drewN n := by
  rcases hk with ⟨rfl, rfl⟩ | ⟨rfl, rfl⟩
  all_goals
    go_enter Try.func14, Try.ntmps14
    go_wp2_with (first | (go_at_call 53; refine (prim53 _ _ _ (by decide)).mono ?_; rintro e w' ⟨rfl, rfl⟩))
    go_ret2
    first | exact ⟨rfl, 0, rfl⟩ | exact ⟨rfl, _, rfl⟩ | (refine ⟨ret2 ?_ ?_, _, rfl⟩ <;> simp [eqv])
set_option maxHeartbeats 1000000 in
theorem ce13 (k : Int) (st : Bool) (hk : (st = true ∧ k = 1) ∨ (st = false ∧ k = 0)) (lb rb : Bool) (ln rn : Nat) (ls rs : ByteArray) (la ra : Option Addr) (l0 c0 l1 c1 : Nat) (lz rz : List Int) (p q : Nat) (w : World) (hr : w.cell? ⟨q, 0, none⟩ = some (.float .f64 rn)) :
    Calls Try.prog 14 #[.iface 75 (.pointer (some ⟨p, 0, none⟩)), .iface 80 (.pointer (some ⟨q, 0, none⟩)), .int .u8 k] w fun e w' => e = .returned (.tuple #[.bool (eqv st 1 3 lb rb ln rn ls rs lz rz).1, .bool (eqv st 1 3 lb rb ln rn ls rs lz rz).2]) ∧ ∃ n, w' = w.drewN n := by
  rcases hk with ⟨rfl, rfl⟩ | ⟨rfl, rfl⟩
  all_goals
    go_enter Try.func14, Try.ntmps14
    go_wp2_with (first | (go_at_call 53; refine (prim53 _ _ _ (by decide)).mono ?_; rintro e w' ⟨rfl, rfl⟩))
    go_ret2
    first | exact ⟨rfl, 0, rfl⟩ | exact ⟨rfl, _, rfl⟩ | (refine ⟨ret2 ?_ ?_, _, rfl⟩ <;> simp [eqv])
set_option maxHeartbeats 1000000 in
theorem ce14 (k : Int) (st : Bool) (hk : (st = true ∧ k = 1) ∨ (st = false ∧ k = 0)) (lb rb : Bool) (ln rn : Nat) (ls rs : ByteArray) (la ra : Option Addr) (l0 c0 l1 c1 : Nat) (lz rz : List Int) (p q : Nat) (w : World) (hr : w.cell? ⟨q, 0, none⟩ = some (.string rs)) (hsr : rs.size ≤ maxLen) :
    Calls Try.prog 14 #[.iface 75 (.pointer (some ⟨p, 0, none⟩)), .iface 83 (.pointer (some ⟨q, 0, none⟩)), .int .u8 k] w fun e w' => e = .returned (.tuple #[.bool (eqv st 1 4 lb rb ln rn ls rs lz rz).1, .bool (eqv st 1 4 lb rb ln rn ls rs lz rz).2]) ∧ ∃ n, w' = w.drewN n := by
  clear hsr
  rcases hk with ⟨rfl, rfl⟩ | ⟨rfl, rfl⟩
  all_goals
    go_enter Try.func14, Try.ntmps14
    go_wp2_with (first | (go_at_call 53; refine (prim53 _ _ _ (by decide)).mono ?_; rintro e w' ⟨rfl, rfl⟩))
    go_ret2
    first | exact ⟨rfl, 0, rfl⟩ | exact ⟨rfl, _, rfl⟩ | (refine ⟨ret2 ?_ ?_, _, rfl⟩ <;> simp [eqv])
set_option maxHeartbeats 1000000 in
theorem ce15 (k : Int) (st : Bool) (hk : (st = true ∧ k = 1) ∨ (st = false ∧ k = 0)) (lb rb : Bool) (ln rn : Nat) (ls rs : ByteArray) (la ra : Option Addr) (l0 c0 l1 c1 : Nat) (lz rz : List Int) (p q : Nat) (w : World) (hr : w.cell? ⟨q, 0, none⟩ = some (.slice ra l1 c1)) (hsr : IntRow .u16 w ra l1 c1 rz) :
    Calls Try.prog 14 #[.iface 75 (.pointer (some ⟨p, 0, none⟩)), .iface 87 (.pointer (some ⟨q, 0, none⟩)), .int .u8 k] w fun e w' => e = .returned (.tuple #[.bool (eqv st 1 5 lb rb ln rn ls rs lz rz).1, .bool (eqv st 1 5 lb rb ln rn ls rs lz rz).2]) ∧ ∃ n, w' = w.drewN n := by
  clear hsr
  rcases hk with ⟨rfl, rfl⟩ | ⟨rfl, rfl⟩
  all_goals
    go_enter Try.func14, Try.ntmps14
    go_wp2_with (first | (go_at_call 53; refine (prim53 _ _ _ (by decide)).mono ?_; rintro e w' ⟨rfl, rfl⟩))
    go_ret2
    first | exact ⟨rfl, 0, rfl⟩ | exact ⟨rfl, _, rfl⟩ | (refine ⟨ret2 ?_ ?_, _, rfl⟩ <;> simp [eqv])
set_option maxHeartbeats 1000000 in
theorem ce20 (k : Int) (st : Bool) (hk : (st = true ∧ k = 1) ∨ (st = false ∧ k = 0)) (lb rb : Bool) (ln rn : Nat) (ls rs : ByteArray) (la ra : Option Addr) (l0 c0 l1 c1 : Nat) (lz rz : List Int) (p q : Nat) (w : World) (hl : w.cell? ⟨p, 0, none⟩ = some (.bool lb)) :
    Calls Try.prog 14 #[.iface 77 (.pointer (some ⟨p, 0, none⟩)), .iface 74 (.pointer (some ⟨q, 0, none⟩)), .int .u8 k] w fun e w' => e = .returned (.tuple #[.bool (eqv st 2 0 lb rb ln rn ls rs lz rz).1, .bool (eqv st 2 0 lb rb ln rn ls rs lz rz).2]) ∧ ∃ n, w' = w.drewN n := by
  rcases hk with ⟨rfl, rfl⟩ | ⟨rfl, rfl⟩
  all_goals
    go_enter Try.func14, Try.ntmps14
    go_wp2_with (first | (go_at_call 53; refine (prim53 _ _ _ (by decide)).mono ?_; rintro e w' ⟨rfl, rfl⟩))
    go_ret2
    first | exact ⟨rfl, 0, rfl⟩ | exact ⟨rfl, _, rfl⟩ | (refine ⟨ret2 ?_ ?_, _, rfl⟩ <;> simp [eqv])
set_option maxHeartbeats 1000000 in
theorem ce21 (k : Int) (st : Bool) (hk : (st = true ∧ k = 1) ∨ (st = false ∧ k = 0)) (lb rb : Bool) (ln rn : Nat) (ls rs : ByteArray) (la ra : Option Addr) (l0 c0 l1 c1 : Nat) (lz rz : List Int) (p q : Nat) (w : World) (hl : w.cell? ⟨p, 0, none⟩ = some (.bool lb)) :
    Calls Try.prog 14 #[.iface 77 (.pointer (some ⟨p, 0, none⟩)), .iface 75 (.pointer (some ⟨q, 0, none⟩)), .int .u8 k] w fun e w' => e = .returned (.tuple #[.bool (eqv st 2 1 lb rb ln rn ls rs lz rz).1, .bool (eqv st 2 1 lb rb ln rn ls rs lz rz).2]) ∧ ∃ n, w' = w.drewN n := by
  rcases hk with ⟨rfl, rfl⟩ | ⟨rfl, rfl⟩
  all_goals
    go_enter Try.func14, Try.ntmps14
    go_wp2_with (first | (go_at_call 53; refine (prim53 _ _ _ (by decide)).mono ?_; rintro e w' ⟨rfl, rfl⟩))
    go_ret2
    first | exact ⟨rfl, 0, rfl⟩ | exact ⟨rfl, _, rfl⟩ | (refine ⟨ret2 ?_ ?_, _, rfl⟩ <;> simp [eqv])
set_option maxHeartbeats 1000000 in
theorem ce22 (k : Int) (st : Bool) (hk : (st = true ∧ k = 1) ∨ (st = false ∧ k = 0)) (lb rb : Bool) (ln rn : Nat) (ls rs : ByteArray) (la ra : Option Addr) (l0 c0 l1 c1 : Nat) (lz rz : List Int) (p q : Nat) (w : World) (hl : w.cell? ⟨p, 0, none⟩ = some (.bool lb)) (hr : w.cell? ⟨q, 0, none⟩ = some (.bool rb)) :
    Calls Try.prog 14 #[.iface 77 (.pointer (some ⟨p, 0, none⟩)), .iface 77 (.pointer (some ⟨q, 0, none⟩)), .int .u8 k] w fun e w' => e = .returned (.tuple #[.bool (eqv st 2 2 lb rb ln rn ls rs lz rz).1, .bool (eqv st 2 2 lb rb ln rn ls rs lz rz).2]) ∧ ∃ n, w' = w.drewN n := by
  rcases hk with ⟨rfl, rfl⟩ | ⟨rfl, rfl⟩
  all_goals
    go_enter Try.func14, Try.ntmps14
    go_wp2_with (first | (go_at_call 53; refine (prim53 _ _ _ (by decide)).mono ?_; rintro e w' ⟨rfl, rfl⟩))
    go_quiet (fail)
    go_wp2
    go_ret2
    first | exact ⟨rfl, 0, rfl⟩ | exact ⟨rfl, _, rfl⟩ | (refine ⟨ret2 ?_ ?_, _, rfl⟩ <;> simp [eqv])
set_option maxHeartbeats 1000000 in
theorem ce23 (k : Int) (st : Bool) (hk : (st = true ∧ k = 1) ∨ (st = false ∧ k = 0)) (lb rb : Bool) (ln rn : Nat) (ls rs : ByteArray) (la ra : Option Addr) (l0 c0 l1 c1 : Nat) (lz rz : List Int) (p q : Nat) (w : World) (hl : w.cell? ⟨p, 0, none⟩ = some (.bool lb)) (hr : w.cell? ⟨q, 0, none⟩ = some (.float .f64 rn)) :
    Calls Try.prog 14 #[.iface 77 (.pointer (some ⟨p, 0, none⟩)), .iface 80 (.pointer (some ⟨q, 0, none⟩)), .int .u8 k] w fun e w' => e = .returned (.tuple #[.bool (eqv st 2 3 lb rb ln rn ls rs lz rz).1, .bool (eqv st 2 3 lb rb ln rn ls rs lz rz).2]) ∧ ∃ n, w' = w.drewN n := by
  cases lb <;> rcases hk with ⟨rfl, rfl⟩ | ⟨rfl, rfl⟩
  all_goals
    go_enter Try.func14, Try.ntmps14
    go_wp2_with (first | (go_at_call 53; refine (prim53 _ _ _ (by decide)).mono ?_; rintro e w' ⟨rfl, rfl⟩))
    go_ret2
    first | exact ⟨rfl, 0, rfl⟩ | exact ⟨rfl, _, rfl⟩ | (refine ⟨ret2 ?_ ?_, _, rfl⟩ <;> simp [eqv])
set_option maxHeartbeats 1000000 in
theorem ce24 (k : Int) (st : Bool) (hk : (st = true ∧ k = 1) ∨ (st = false ∧ k = 0)) (lb rb : Bool) (ln rn : Nat) (ls rs : ByteArray) (la ra : Option Addr) (l0 c0 l1 c1 : Nat) (lz rz : List Int) (p q : Nat) (w : World) (hl : w.cell? ⟨p, 0, none⟩ = some (.bool lb)) (hr : w.cell? ⟨q, 0, none⟩ = some (.string rs)) (hsr : rs.size ≤ maxLen) :
    Calls Try.prog 14 #[.iface 77 (.pointer (some ⟨p, 0, none⟩)), .iface 83 (.pointer (some ⟨q, 0, none⟩)), .int .u8 k] w fun e w' => e = .returned (.tuple #[.bool (eqv st 2 4 lb rb ln rn ls rs lz rz).1, .bool (eqv st 2 4 lb rb ln rn ls rs lz rz).2]) ∧ ∃ n, w' = w.drewN n := by
  clear hsr
  rcases hk with ⟨rfl, rfl⟩ | ⟨rfl, rfl⟩
  all_goals
    go_enter Try.func14, Try.ntmps14
    go_wp2_with (first | (go_at_call 53; refine (prim53 _ _ _ (by decide)).mono ?_; rintro e w' ⟨rfl, rfl⟩))
    go_ret2
    first | exact ⟨rfl, 0, rfl⟩ | exact ⟨rfl, _, rfl⟩ | (refine ⟨ret2 ?_ ?_, _, rfl⟩ <;> simp [eqv])
set_option maxHeartbeats 1000000 in
theorem ce25 (k : Int) (st : Bool) (hk : (st = true ∧ k = 1) ∨ (st = false ∧ k = 0)) (lb rb : Bool) (ln rn : Nat) (ls rs : ByteArray) (la ra : Option Addr) (l0 c0 l1 c1 : Nat) (lz rz : List Int) (p q : Nat) (w : World) (hl : w.cell? ⟨p, 0, none⟩ = some (.bool lb)) (hr : w.cell? ⟨q, 0, none⟩ = some (.slice ra l1 c1)) (hsr : IntRow .u16 w ra l1 c1 rz) :
    Calls Try.prog 14 #[.iface 77 (.pointer (some ⟨p, 0, none⟩)), .iface 87 (.pointer (some ⟨q, 0, none⟩)), .int .u8 k] w fun e w' => e = .returned (.tuple #[.bool (eqv st 2 5 lb rb ln rn ls rs lz rz).1, .bool (eqv st 2 5 lb rb ln rn ls rs lz rz).2]) ∧ ∃ n, w' = w.drewN n := by
  clear hsr
  rcases hk with ⟨rfl, rfl⟩ | ⟨rfl, rfl⟩
  all_goals
    go_enter Try.func14, Try.ntmps14
    go_wp2_with (first | (go_at_call 53; refine (prim53 _ _ _ (by decide)).mono ?_; rintro e w' ⟨rfl, rfl⟩))
    go_ret2
    first | exact ⟨rfl, 0, rfl⟩ | exact ⟨rfl, _, rfl⟩ | (refine ⟨ret2 ?_ ?_, _, rfl⟩ <;> simp [eqv])
set_option maxHeartbeats 1000000 in
theorem ce30 (k : Int) (st : Bool) (hk : (st = true ∧ k = 1) ∨ (st = false ∧ k = 0)) (lb rb : Bool) (ln rn : Nat) (ls rs : ByteArray) (la ra : Option Addr) (l0 c0 l1 c1 : Nat) (lz rz : List Int) (p q : Nat) (w : World) (hl : w.cell? ⟨p, 0, none⟩ = some (.float .f64 ln)) :
    Calls Try.prog 14 #[.iface 80 (.pointer (some ⟨p, 0, none⟩)), .iface 74 (.pointer (some ⟨q, 0, none⟩)), .int .u8 k] w fun e w' => e = .returned (.tuple #[.bool (eqv st 3 0 lb rb ln rn ls rs lz rz).1, .bool (eqv st 3 0 lb rb ln rn ls rs lz rz).2]) ∧ ∃ n, w' = w.drewN n := by
  rcases hk with ⟨rfl, rfl⟩ | ⟨rfl, rfl⟩
  all_goals
    go_enter Try.func14, Try.ntmps14
    go_wp2_with (first | (go_at_call 53; refine (prim53 _ _ _ (by decide)).mono ?_; rintro e w' ⟨rfl, rfl⟩))
    go_ret2
    first | exact ⟨rfl, 0, rfl⟩ | exact ⟨rfl, _, rfl⟩ | (refine ⟨ret2 ?_ ?_, _, rfl⟩ <;> simp [eqv])
set_option maxHeartbeats 1000000 in
theorem ce31 (k : Int) (st : Bool) (hk : (st = true ∧ k = 1) ∨ (st = false ∧ k = 0)) (lb rb : Bool) (ln rn : Nat) (ls rs : ByteArray) (la ra : Option Addr) (l0 c0 l1 c1 : Nat) (lz rz : List Int) (p q : Nat) (w : World) (hl : w.cell? ⟨p, 0, none⟩ = some (.float .f64 ln)) :
    Calls Try.prog 14 #[.iface 80 (.pointer (some ⟨p, 0, none⟩)), .iface 75 (.pointer (some ⟨q, 0, none⟩)), .int .u8 k] w fun e w' => e = .returned (.tuple #[.bool (eqv st 3 1 lb rb ln rn ls rs lz rz).1, .bool (eqv st 3 1 lb rb ln rn ls rs lz rz).2]) ∧ ∃ n, w' = w.drewN n := by
  rcases hk with ⟨rfl, rfl⟩ | ⟨rfl, rfl⟩
  all_goals
    go_enter Try.func14, Try.ntmps14
    go_wp2_with (first | (go_at_call 53; refine (prim53 _ _ _ (by decide)).mono ?_; rintro e w' ⟨rfl, rfl⟩))
    go_ret2
    first | exact ⟨rfl, 0, rfl⟩ | exact ⟨rfl, _, rfl⟩ | (refine ⟨ret2 ?_ ?_, _, rfl⟩ <;> simp [eqv])
set_option maxHeartbeats 1000000 in
theorem ce32 (k : Int) (st : Bool) (hk : (st = true ∧ k = 1) ∨ (st = false ∧ k = 0)) (lb rb : Bool) (ln rn : Nat) (ls rs : ByteArray) (la ra : Option Addr) (l0 c0 l1 c1 : Nat) (lz rz : List Int) (p q : Nat) (w : World) (hl : w.cell? ⟨p, 0, none⟩ = some (.float .f64 ln)) (hr : w.cell? ⟨q, 0, none⟩ = some (.bool rb)) :
    Calls Try.prog 14 #[.iface 80 (.pointer (some ⟨p, 0, none⟩)), .iface 77 (.pointer (some ⟨q, 0, none⟩)), .int .u8 k] w fun e w' => e = .returned (.tuple #[.bool (eqv st 3 2 lb rb ln rn ls rs lz rz).1, .bool (eqv st 3 2 lb rb ln rn ls rs lz rz).2]) ∧ ∃ n, w' = w.drewN n := by
  cases rb <;> rcases hk with ⟨rfl, rfl⟩ | ⟨rfl, rfl⟩
  all_goals
    go_enter Try.func14, Try.ntmps14
    go_wp2_with (first | (go_at_call 53; refine (prim53 _ _ _ (by decide)).mono ?_; rintro e w' ⟨rfl, rfl⟩))
    go_ret2
    first | exact ⟨rfl, 0, rfl⟩ | exact ⟨rfl, _, rfl⟩ | (refine ⟨ret2 ?_ ?_, _, rfl⟩ <;> simp [eqv])
set_option maxHeartbeats 1000000 in
theorem ce33 (k : Int) (st : Bool) (hk : (st = true ∧ k = 1) ∨ (st = false ∧ k = 0)) (lb rb : Bool) (ln rn : Nat) (ls rs : ByteArray) (la ra : Option Addr) (l0 c0 l1 c1 : Nat) (lz rz : List Int) (p q : Nat) (w : World) (hl : w.cell? ⟨p, 0, none⟩ = some (.float .f64 ln)) (hr : w.cell? ⟨q, 0, none⟩ = some (.float .f64 rn)) :
    Calls Try.prog 14 #[.iface 80 (.pointer (some ⟨p, 0, none⟩)), .iface 80 (.pointer (some ⟨q, 0, none⟩)), .int .u8 k] w fun e w' => e = .returned (.tuple #[.bool (eqv st 3 3 lb rb ln rn ls rs lz rz).1, .bool (eqv st 3 3 lb rb ln rn ls rs lz rz).2]) ∧ ∃ n, w' = w.drewN n := by
  rcases hk with ⟨rfl, rfl⟩ | ⟨rfl, rfl⟩
  all_goals
    go_enter Try.func14, Try.ntmps14
    go_wp2_with (first | (go_at_call 53; refine (prim53 _ _ _ (by decide)).mono ?_; rintro e w' ⟨rfl, rfl⟩))
    go_quiet (fail)
    go_wp2
    go_ret2
    first | exact ⟨rfl, 0, rfl⟩ | exact ⟨rfl, _, rfl⟩ | (refine ⟨ret2 ?_ ?_, _, rfl⟩ <;> simp [eqv])
set_option maxHeartbeats 1000000 in
theorem ce34 (k : Int) (st : Bool) (hk : (st = true ∧ k = 1) ∨ (st = false ∧ k = 0)) (lb rb : Bool) (ln rn : Nat) (ls rs : ByteArray) (la ra : Option Addr) (l0 c0 l1 c1 : Nat) (lz rz : List Int) (p q : Nat) (w : World) (hl : w.cell? ⟨p, 0, none⟩ = some (.float .f64 ln)) (hr : w.cell? ⟨q, 0, none⟩ = some (.string rs)) (hsr : rs.size ≤ maxLen) :
    Calls Try.prog 14 #[.iface 80 (.pointer (some ⟨p, 0, none⟩)), .iface 83 (.pointer (some ⟨q, 0, none⟩)), .int .u8 k] w fun e w' => e = .returned (.tuple #[.bool (eqv st 3 4 lb rb ln rn ls rs lz rz).1, .bool (eqv st 3 4 lb rb ln rn ls rs lz rz).2]) ∧ ∃ n, w' = w.drewN n := by
  clear hsr
  rcases hk with ⟨rfl, rfl⟩ | ⟨rfl, rfl⟩
  all_goals
    go_enter Try.func14, Try.ntmps14
    go_wp2_with (first | (go_at_call 53; refine (prim53 _ _ _ (by decide)).mono ?_; rintro e w' ⟨rfl, rfl⟩))
    go_ret2
    first | exact ⟨rfl, 0, rfl⟩ | exact ⟨rfl, _, rfl⟩ | (refine ⟨ret2 ?_ ?_, _, rfl⟩ <;> simp [eqv])
set_option maxHeartbeats 1000000 in
theorem ce35 (k : Int) (st : Bool) (hk : (st = true ∧ k = 1) ∨ (st = false ∧ k = 0)) (lb rb : Bool) (ln rn : Nat) (ls rs : ByteArray) (la ra : Option Addr) (l0 c0 l1 c1 : Nat) (lz rz : List Int) (p q : Nat) (w : World) (hl : w.cell? ⟨p, 0, none⟩ = some (.float .f64 ln)) (hr : w.cell? ⟨q, 0, none⟩ = some (.slice ra l1 c1)) (hsr : IntRow .u16 w ra l1 c1 rz) :
    Calls Try.prog 14 #[.iface 80 (.pointer (some ⟨p, 0, none⟩)), .iface 87 (.pointer (some ⟨q, 0, none⟩)), .int .u8 k] w fun e w' => e = .returned (.tuple #[.bool (eqv st 3 5 lb rb ln rn ls rs lz rz).1, .bool (eqv st 3 5 lb rb ln rn ls rs lz rz).2]) ∧ ∃ n, w' = w.drewN n := by
  clear hsr
  rcases hk with ⟨rfl, rfl⟩ | ⟨rfl, rfl⟩
  all_goals
    go_enter Try.func14, Try.ntmps14
    go_wp2_with (first | (go_at_call 53; refine (prim53 _ _ _ (by decide)).mono ?_; rintro e w' ⟨rfl, rfl⟩))
    go_ret2
    first | exact ⟨rfl, 0, rfl⟩ | exact ⟨rfl, _, rfl⟩ | (refine ⟨ret2 ?_ ?_, _, rfl⟩ <;> simp [eqv])
set_option maxHeartbeats 1000000 in
theorem ce40 (k : Int) (st : Bool) (hk : (st = true ∧ k = 1) ∨ (st = false ∧ k = 0)) (lb rb : Bool) (ln rn : Nat) (ls rs : ByteArray) (la ra : Option Addr) (l0 c0 l1 c1 : Nat) (lz rz : List Int) (p q : Nat) (w : World) (hl : w.cell? ⟨p, 0, none⟩ = some (.string ls)) (hsl : ls.size ≤ maxLen) :
    Calls Try.prog 14 #[.iface 83 (.pointer (some ⟨p, 0, none⟩)), .iface 74 (.pointer (some ⟨q, 0, none⟩)), .int .u8 k] w fun e w' => e = .returned (.tuple #[.bool (eqv st 4 0 lb rb ln rn ls rs lz rz).1, .bool (eqv st 4 0 lb rb ln rn ls rs lz rz).2]) ∧ ∃ n, w' = w.drewN n := by
  clear hsl
  rcases hk with ⟨rfl, rfl⟩ | ⟨rfl, rfl⟩
  all_goals
    go_enter Try.func14, Try.ntmps14
    go_wp2_with (first | (go_at_call 53; refine (prim53 _ _ _ (by decide)).mono ?_; rintro e w' ⟨rfl, rfl⟩))
    go_ret2
    first | exact ⟨rfl, 0, rfl⟩ | exact ⟨rfl, _, rfl⟩ | (refine ⟨ret2 ?_ ?_, _, rfl⟩ <;> simp [eqv])
set_option maxHeartbeats 1000000 in
theorem ce41 (k : Int) (st : Bool) (hk : (st = true ∧ k = 1) ∨ (st = false ∧ k = 0)) (lb rb : Bool) (ln rn : Nat) (ls rs : ByteArray) (la ra : Option Addr) (l0 c0 l1 c1 : Nat) (lz rz : List Int) (p q : Nat) (w : World) (hl : w.cell? ⟨p, 0, none⟩ = some (.string ls)) (hsl : ls.size ≤ maxLen) :
    Calls Try.prog 14 #[.iface 83 (.pointer (some ⟨p, 0, none⟩)), .iface 75 (.pointer (some ⟨q, 0, none⟩)), .int .u8 k] w fun e w' => e = .returned (.tuple #[.bool (eqv st 4 1 lb rb ln rn ls rs lz rz).1, .bool (eqv st 4 1 lb rb ln rn ls rs lz rz).2]) ∧ ∃ n, w' = w.drewN n := by
  clear hsl
  rcases hk with ⟨rfl, rfl⟩ | ⟨rfl, rfl⟩
  all_goals
    go_enter Try.func14, Try.ntmps14
    go_wp2_with (first | (go_at_call 53; refine (prim53 _ _ _ (by decide)).mono ?_; rintro e w' ⟨rfl, rfl⟩))
    go_ret2
    first | exact ⟨rfl, 0, rfl⟩ | exact ⟨rfl, _, rfl⟩ | (refine ⟨ret2 ?_ ?_, _, rfl⟩ <;> simp [eqv])
set_option maxHeartbeats 1000000 in
theorem ce42 (k : Int) (st : Bool) (hk : (st = true ∧ k = 1) ∨ (st = false ∧ k = 0)) (lb rb : Bool) (ln rn : Nat) (ls rs : ByteArray) (la ra : Option Addr) (l0 c0 l1 c1 : Nat) (lz rz : List Int) (p q : Nat) (w : World) (hl : w.cell? ⟨p, 0, none⟩ = some (.string ls)) (hsl : ls.size ≤ maxLen) (hr : w.cell? ⟨q, 0, none⟩ = some (.bool rb)) :
    Calls Try.prog 14 #[.iface 83 (.pointer (some ⟨p, 0, none⟩)), .iface 77 (.pointer (some ⟨q, 0, none⟩)), .int .u8 k] w fun e w' => e = .returned (.tuple #[.bool (eqv st 4 2 lb rb ln rn ls rs lz rz).1, .bool (eqv st 4 2 lb rb ln rn ls rs lz rz).2]) ∧ ∃ n, w' = w.drewN n := by
  clear hsl
  rcases hk with ⟨rfl, rfl⟩ | ⟨rfl, rfl⟩
  all_goals
    go_enter Try.func14, Try.ntmps14
    go_wp2_with (first | (go_at_call 53; refine (prim53 _ _ _ (by decide)).mono ?_; rintro e w' ⟨rfl, rfl⟩))
    go_ret2
    first | exact ⟨rfl, 0, rfl⟩ | exact ⟨rfl, _, rfl⟩ | (refine ⟨ret2 ?_ ?_, _, rfl⟩ <;> simp [eqv])
set_option maxHeartbeats 1000000 in
theorem ce43 (k : Int) (st : Bool) (hk : (st = true ∧ k = 1) ∨ (st = false ∧ k = 0)) (lb rb : Bool) (ln rn : Nat) (ls rs : ByteArray) (la ra : Option Addr) (l0 c0 l1 c1 : Nat) (lz rz : List Int) (p q : Nat) (w : World) (hl : w.cell? ⟨p, 0, none⟩ = some (.string ls)) (hsl : ls.size ≤ maxLen) (hr : w.cell? ⟨q, 0, none⟩ = some (.float .f64 rn)) :
    Calls Try.prog 14 #[.iface 83 (.pointer (some ⟨p, 0, none⟩)), .iface 80 (.pointer (some ⟨q, 0, none⟩)), .int .u8 k] w fun e w' => e = .returned (.tuple #[.bool (eqv st 4 3 lb rb ln rn ls rs lz rz).1, .bool (eqv st 4 3 lb rb ln rn ls rs lz rz).2]) ∧ ∃ n, w' = w.drewN n := by
  clear hsl
  rcases hk with ⟨rfl, rfl⟩ | ⟨rfl, rfl⟩
  all_goals
    go_enter Try.func14, Try.ntmps14
    go_wp2_with (first | (go_at_call 53; refine (prim53 _ _ _ (by decide)).mono ?_; rintro e w' ⟨rfl, rfl⟩))
    go_ret2
    first | exact ⟨rfl, 0, rfl⟩ | exact ⟨rfl, _, rfl⟩ | (refine ⟨ret2 ?_ ?_, _, rfl⟩ <;> simp [eqv])
set_option maxHeartbeats 1000000 in
theorem ce44 (k : Int) (st : Bool) (hk : (st = true ∧ k = 1) ∨ (st = false ∧ k = 0)) (lb rb : Bool) (ln rn : Nat) (ls rs : ByteArray) (la ra : Option Addr) (l0 c0 l1 c1 : Nat) (lz rz : List Int) (p q : Nat) (w : World) (hl : w.cell? ⟨p, 0, none⟩ = some (.string ls)) (hsl : ls.size ≤ maxLen) (hr : w.cell? ⟨q, 0, none⟩ = some (.string rs)) (hsr : rs.size ≤ maxLen) :
    Calls Try.prog 14 #[.iface 83 (.pointer (some ⟨p, 0, none⟩)), .iface 83 (.pointer (some ⟨q, 0, none⟩)), .int .u8 k] w fun e w' => e = .returned (.tuple #[.bool (eqv st 4 4 lb rb ln rn ls rs lz rz).1, .bool (eqv st 4 4 lb rb ln rn ls rs lz rz).2]) ∧ ∃ n, w' = w.drewN n := by
  by_cases hh : ls.toList = rs.toList
  · obtain rfl := toList_inj hh
    clear hh
    have hv : eqv st 4 4 lb rb ln rn ls ls lz rz = (true, true) := by simp [eqv]
    rw [hv]
    have H := Lib.hid fun m => big_eq ls (w.drewN m) hsl
    clear hsl hsr hv
    rcases hk with ⟨rfl, rfl⟩ | ⟨rfl, rfl⟩
    all_goals
      go_enter Try.func14, Try.ntmps14
      go_wp2_with fail
      go_quiet ((go_at_call 54; exact Calls.quiet_of_same (H.out _)))
      go_wp2
      go_ret2
      exact ⟨rfl, _, rfl⟩
  · have hn : (ls.toList == rs.toList) = false := by simpa using hh
    have hv : eqv st 4 4 lb rb ln rn ls rs lz rz = (false, !rad ls && !rad rs) := by simp [eqv, hh]
    rw [hv]
    have H := Lib.hid fun m => big_ne ls rs (w.drewN m) hsl hsr hn
    clear hsl hsr hv hh hn
    rcases hk with ⟨rfl, rfl⟩ | ⟨rfl, rfl⟩
    all_goals
      go_enter Try.func14, Try.ntmps14
      go_wp2_with fail
      go_quiet ((go_at_call 54; exact Calls.quiet_of_same (H.out _)))
      go_wp2
      go_ret2
      exact ⟨rfl, _, rfl⟩
set_option maxHeartbeats 1000000 in
theorem ce45 (k : Int) (st : Bool) (hk : (st = true ∧ k = 1) ∨ (st = false ∧ k = 0)) (lb rb : Bool) (ln rn : Nat) (ls rs : ByteArray) (la ra : Option Addr) (l0 c0 l1 c1 : Nat) (lz rz : List Int) (p q : Nat) (w : World) (hl : w.cell? ⟨p, 0, none⟩ = some (.string ls)) (hsl : ls.size ≤ maxLen) (hr : w.cell? ⟨q, 0, none⟩ = some (.slice ra l1 c1)) (hsr : IntRow .u16 w ra l1 c1 rz) :
    Calls Try.prog 14 #[.iface 83 (.pointer (some ⟨p, 0, none⟩)), .iface 87 (.pointer (some ⟨q, 0, none⟩)), .int .u8 k] w fun e w' => e = .returned (.tuple #[.bool (eqv st 4 5 lb rb ln rn ls rs lz rz).1, .bool (eqv st 4 5 lb rb ln rn ls rs lz rz).2]) ∧ ∃ n, w' = w.drewN n := by
  clear hsl
  clear hsr
  rcases hk with ⟨rfl, rfl⟩ | ⟨rfl, rfl⟩
  all_goals
    go_enter Try.func14, Try.ntmps14
    go_wp2_with (first | (go_at_call 53; refine (prim53 _ _ _ (by decide)).mono ?_; rintro e w' ⟨rfl, rfl⟩))
    go_ret2
    first | exact ⟨rfl, 0, rfl⟩ | exact ⟨rfl, _, rfl⟩ | (refine ⟨ret2 ?_ ?_, _, rfl⟩ <;> simp [eqv])
set_option maxHeartbeats 1000000 in
theorem ce50 (k : Int) (st : Bool) (hk : (st = true ∧ k = 1) ∨ (st = false ∧ k = 0)) (lb rb : Bool) (ln rn : Nat) (ls rs : ByteArray) (la ra : Option Addr) (l0 c0 l1 c1 : Nat) (lz rz : List Int) (p q : Nat) (w : World) (hl : w.cell? ⟨p, 0, none⟩ = some (.slice la l0 c0)) (hsl : IntRow .u16 w la l0 c0 lz) :
    Calls Try.prog 14 #[.iface 87 (.pointer (some ⟨p, 0, none⟩)), .iface 74 (.pointer (some ⟨q, 0, none⟩)), .int .u8 k] w fun e w' => e = .returned (.tuple #[.bool (eqv st 5 0 lb rb ln rn ls rs lz rz).1, .bool (eqv st 5 0 lb rb ln rn ls rs lz rz).2]) ∧ ∃ n, w' = w.drewN n := by
  clear hsl
  rcases hk with ⟨rfl, rfl⟩ | ⟨rfl, rfl⟩
  all_goals
    go_enter Try.func14, Try.ntmps14
    go_wp2_with (first | (go_at_call 53; refine (prim53 _ _ _ (by decide)).mono ?_; rintro e w' ⟨rfl, rfl⟩))
    go_ret2
    first | exact ⟨rfl, 0, rfl⟩ | exact ⟨rfl, _, rfl⟩ | (refine ⟨ret2 ?_ ?_, _, rfl⟩ <;> simp [eqv])
set_option maxHeartbeats 1000000 in
theorem ce51 (k : Int) (st : Bool) (hk : (st = true ∧ k = 1) ∨ (st = false ∧ k = 0)) (lb rb : Bool) (ln rn : Nat) (ls rs : ByteArray) (la ra : Option Addr) (l0 c0 l1 c1 : Nat) (lz rz : List Int) (p q : Nat) (w : World) (hl : w.cell? ⟨p, 0, none⟩ = some (.slice la l0 c0)) (hsl : IntRow .u16 w la l0 c0 lz) :
    Calls Try.prog 14 #[.iface 87 (.pointer (some ⟨p, 0, none⟩)), .iface 75 (.pointer (some ⟨q, 0, none⟩)), .int .u8 k] w fun e w' => e = .returned (.tuple #[.bool (eqv st 5 1 lb rb ln rn ls rs lz rz).1, .bool (eqv st 5 1 lb rb ln rn ls rs lz rz).2]) ∧ ∃ n, w' = w.drewN n := by
  clear hsl
  rcases hk with ⟨rfl, rfl⟩ | ⟨rfl, rfl⟩
  all_goals
    go_enter Try.func14, Try.ntmps14
    go_wp2_with (first | (go_at_call 53; refine (prim53 _ _ _ (by decide)).mono ?_; rintro e w' ⟨rfl, rfl⟩))
    go_ret2
    first | exact ⟨rfl, 0, rfl⟩ | exact ⟨rfl, _, rfl⟩ | (refine ⟨ret2 ?_ ?_, _, rfl⟩ <;> simp [eqv])
set_option maxHeartbeats 1000000 in
theorem ce52 (k : Int) (st : Bool) (hk : (st = true ∧ k = 1) ∨ (st = false ∧ k = 0)) (lb rb : Bool) (ln rn : Nat) (ls rs : ByteArray) (la ra : Option Addr) (l0 c0 l1 c1 : Nat) (lz rz : List Int) (p q : Nat) (w : World) (hl : w.cell? ⟨p, 0, none⟩ = some (.slice la l0 c0)) (hsl : IntRow .u16 w la l0 c0 lz) (hr : w.cell? ⟨q, 0, none⟩ = some (.bool rb)) :
    Calls Try.prog 14 #[.iface 87 (.pointer (some ⟨p, 0, none⟩)), .iface 77 (.pointer (some ⟨q, 0, none⟩)), .int .u8 k] w fun e w' => e = .returned (.tuple #[.bool (eqv st 5 2 lb rb ln rn ls rs lz rz).1, .bool (eqv st 5 2 lb rb ln rn ls rs lz rz).2]) ∧ ∃ n, w' = w.drewN n := by
  clear hsl
  rcases hk with ⟨rfl, rfl⟩ | ⟨rfl, rfl⟩
  all_goals
    go_enter Try.func14, Try.ntmps14
    go_wp2_with (first | (go_at_call 53; refine (prim53 _ _ _ (by decide)).mono ?_; rintro e w' ⟨rfl, rfl⟩))
    go_ret2
    first | exact ⟨rfl, 0, rfl⟩ | exact ⟨rfl, _, rfl⟩ | (refine ⟨ret2 ?_ ?_, _, rfl⟩ <;> simp [eqv])
set_option maxHeartbeats 1000000 in
theorem ce53 (k : Int) (st : Bool) (hk : (st = true ∧ k = 1) ∨ (st = false ∧ k = 0)) (lb rb : Bool) (ln rn : Nat) (ls rs : ByteArray) (la ra : Option Addr) (l0 c0 l1 c1 : Nat) (lz rz : List Int) (p q : Nat) (w : World) (hl : w.cell? ⟨p, 0, none⟩ = some (.slice la l0 c0)) (hsl : IntRow .u16 w la l0 c0 lz) (hr : w.cell? ⟨q, 0, none⟩ = some (.float .f64 rn)) :
    Calls Try.prog 14 #[.iface 87 (.pointer (some ⟨p, 0, none⟩)), .iface 80 (.pointer (some ⟨q, 0, none⟩)), .int .u8 k] w fun e w' => e = .returned (.tuple #[.bool (eqv st 5 3 lb rb ln rn ls rs lz rz).1, .bool (eqv st 5 3 lb rb ln rn ls rs lz rz).2]) ∧ ∃ n, w' = w.drewN n := by
  clear hsl
  rcases hk with ⟨rfl, rfl⟩ | ⟨rfl, rfl⟩
  all_goals
    go_enter Try.func14, Try.ntmps14
    go_wp2_with (first | (go_at_call 53; refine (prim53 _ _ _ (by decide)).mono ?_; rintro e w' ⟨rfl, rfl⟩))
    go_ret2
    first | exact ⟨rfl, 0, rfl⟩ | exact ⟨rfl, _, rfl⟩ | (refine ⟨ret2 ?_ ?_, _, rfl⟩ <;> simp [eqv])
set_option maxHeartbeats 1000000 in
theorem ce54 (k : Int) (st : Bool) (hk : (st = true ∧ k = 1) ∨ (st = false ∧ k = 0)) (lb rb : Bool) (ln rn : Nat) (ls rs : ByteArray) (la ra : Option Addr) (l0 c0 l1 c1 : Nat) (lz rz : List Int) (p q : Nat) (w : World) (hl : w.cell? ⟨p, 0, none⟩ = some (.slice la l0 c0)) (hsl : IntRow .u16 w la l0 c0 lz) (hr : w.cell? ⟨q, 0, none⟩ = some (.string rs)) (hsr : rs.size ≤ maxLen) :
    Calls Try.prog 14 #[.iface 87 (.pointer (some ⟨p, 0, none⟩)), .iface 83 (.pointer (some ⟨q, 0, none⟩)), .int .u8 k] w fun e w' => e = .returned (.tuple #[.bool (eqv st 5 4 lb rb ln rn ls rs lz rz).1, .bool (eqv st 5 4 lb rb ln rn ls rs lz rz).2]) ∧ ∃ n, w' = w.drewN n := by
  clear hsl
  clear hsr
  rcases hk with ⟨rfl, rfl⟩ | ⟨rfl, rfl⟩
  all_goals
    go_enter Try.func14, Try.ntmps14
    go_wp2_with (first | (go_at_call 53; refine (prim53 _ _ _ (by decide)).mono ?_; rintro e w' ⟨rfl, rfl⟩))
    go_ret2
    first | exact ⟨rfl, 0, rfl⟩ | exact ⟨rfl, _, rfl⟩ | (refine ⟨ret2 ?_ ?_, _, rfl⟩ <;> simp [eqv])
set_option maxHeartbeats 1000000 in
theorem ce55 (k : Int) (st : Bool) (hk : (st = true ∧ k = 1) ∨ (st = false ∧ k = 0)) (lb rb : Bool) (ln rn : Nat) (ls rs : ByteArray) (la ra : Option Addr) (l0 c0 l1 c1 : Nat) (lz rz : List Int) (p q : Nat) (w : World) (hl : w.cell? ⟨p, 0, none⟩ = some (.slice la l0 c0)) (hsl : IntRow .u16 w la l0 c0 lz) (hr : w.cell? ⟨q, 0, none⟩ = some (.slice ra l1 c1)) (hsr : IntRow .u16 w ra l1 c1 rz) :
    Calls Try.prog 14 #[.iface 87 (.pointer (some ⟨p, 0, none⟩)), .iface 87 (.pointer (some ⟨q, 0, none⟩)), .int .u8 k] w fun e w' => e = .returned (.tuple #[.bool (eqv st 5 5 lb rb ln rn ls rs lz rz).1, .bool (eqv st 5 5 lb rb ln rn ls rs lz rz).2]) ∧ ∃ n, w' = w.drewN n := by
  have H := Lib.hid fun m => eq55 la l0 c0 lz ra l1 c1 rz (w.drewN m) (hsl.same ((Same.refl (fun _ => False) w).drewN m) (fun _ _ h => h)) (hsr.same ((Same.refl (fun _ => False) w).drewN m) (fun _ _ h => h))
  clear hsl hsr
  rcases hk with ⟨rfl, rfl⟩ | ⟨rfl, rfl⟩
  all_goals
    go_enter Try.func14, Try.ntmps14
    go_wp2_with fail
    go_quiet ((go_at_call 55; exact Calls.quiet_of_same (H.out _)))
    go_wp2
    go_ret2
    exact ⟨rfl, _, rfl⟩
theorem ce_any (k : Int) (st : Bool) (hk : (st = true ∧ k = 1) ∨ (st = false ∧ k = 0)) {i j : Int} {lb rb : Bool} {ln rn : Nat} {ls rs : ByteArray} {la ra : Option Addr} {l0 c0 l1 c1 : Nat} {lz rz : List Int} {p q T T2 : Nat} {w : World} (h : Cases i lb ln ls (.slice la l0 c0) w p T) (h' : Cases j rb rn rs (.slice ra l1 c1) w q T2) (s1 : ls.size ≤ maxLen) (s2 : rs.size ≤ maxLen) (r1 : IntRow .u16 w la l0 c0 lz) (r2 : IntRow .u16 w ra l1 c1 rz) :
    Calls Try.prog 14 #[.iface T (.pointer (some ⟨p, 0, none⟩)), .iface T2 (.pointer (some ⟨q, 0, none⟩)), .int .u8 k] w fun e w' => e = .returned (.tuple #[.bool (eqv st i j lb rb ln rn ls rs lz rz).1, .bool (eqv st i j lb rb ln rn ls rs lz rz).2]) ∧ ∃ n, w' = w.drewN n := by
  rcases h with ⟨rfl, rfl⟩ | ⟨rfl, rfl⟩ | ⟨rfl, rfl, h3⟩ | ⟨rfl, rfl, h3⟩ | ⟨rfl, rfl, h3⟩ | ⟨rfl, rfl, h3⟩ <;>
  rcases h' with ⟨rfl, rfl⟩ | ⟨rfl, rfl⟩ | ⟨rfl, rfl, k3⟩ | ⟨rfl, rfl, k3⟩ | ⟨rfl, rfl, k3⟩ | ⟨rfl, rfl, k3⟩
  · exact ce00 k st hk lb rb ln rn ls rs la ra l0 c0 l1 c1 lz rz p q w
  · exact ce01 k st hk lb rb ln rn ls rs la ra l0 c0 l1 c1 lz rz p q w
  · exact ce02 k st hk lb rb ln rn ls rs la ra l0 c0 l1 c1 lz rz p q w k3
  · exact ce03 k st hk lb rb ln rn ls rs la ra l0 c0 l1 c1 lz rz p q w k3
  · exact ce04 k st hk lb rb ln rn ls rs la ra l0 c0 l1 c1 lz rz p q w k3 s2
  · exact ce05 k st hk lb rb ln rn ls rs la ra l0 c0 l1 c1 lz rz p q w k3 r2
  · exact ce10 k st hk lb rb ln rn ls rs la ra l0 c0 l1 c1 lz rz p q w
  · exact ce11 k st hk lb rb ln rn ls rs la ra l0 c0 l1 c1 lz rz p q w
  · exact ce12 k st hk lb rb ln rn ls rs la ra l0 c0 l1 c1 lz rz p q w k3
  · exact ce13 k st hk lb rb ln rn ls rs la ra l0 c0 l1 c1 lz rz p q w k3
  · exact ce14 k st hk lb rb ln rn ls rs la ra l0 c0 l1 c1 lz rz p q w k3 s2
  · exact ce15 k st hk lb rb ln rn ls rs la ra l0 c0 l1 c1 lz rz p q w k3 r2
  · exact ce20 k st hk lb rb ln rn ls rs la ra l0 c0 l1 c1 lz rz p q w h3
  · exact ce21 k st hk lb rb ln rn ls rs la ra l0 c0 l1 c1 lz rz p q w h3
  · exact ce22 k st hk lb rb ln rn ls rs la ra l0 c0 l1 c1 lz rz p q w h3 k3
  · exact ce23 k st hk lb rb ln rn ls rs la ra l0 c0 l1 c1 lz rz p q w h3 k3
  · exact ce24 k st hk lb rb ln rn ls rs la ra l0 c0 l1 c1 lz rz p q w h3 k3 s2
  · exact ce25 k st hk lb rb ln rn ls rs la ra l0 c0 l1 c1 lz rz p q w h3 k3 r2
  · exact ce30 k st hk lb rb ln rn ls rs la ra l0 c0 l1 c1 lz rz p q w h3
  · exact ce31 k st hk lb rb ln rn ls rs la ra l0 c0 l1 c1 lz rz p q w h3
  · exact ce32 k st hk lb rb ln rn ls rs la ra l0 c0 l1 c1 lz rz p q w h3 k3
  · exact ce33 k st hk lb rb ln rn ls rs la ra l0 c0 l1 c1 lz rz p q w h3 k3
  · exact ce34 k st hk lb rb ln rn ls rs la ra l0 c0 l1 c1 lz rz p q w h3 k3 s2
  · exact ce35 k st hk lb rb ln rn ls rs la ra l0 c0 l1 c1 lz rz p q w h3 k3 r2
  · exact ce40 k st hk lb rb ln rn ls rs la ra l0 c0 l1 c1 lz rz p q w h3 s1
  · exact ce41 k st hk lb rb ln rn ls rs la ra l0 c0 l1 c1 lz rz p q w h3 s1
  · exact ce42 k st hk lb rb ln rn ls rs la ra l0 c0 l1 c1 lz rz p q w h3 s1 k3
  · exact ce43 k st hk lb rb ln rn ls rs la ra l0 c0 l1 c1 lz rz p q w h3 s1 k3
  · exact ce44 k st hk lb rb ln rn ls rs la ra l0 c0 l1 c1 lz rz p q w h3 s1 k3 s2
  · exact ce45 k st hk lb rb ln rn ls rs la ra l0 c0 l1 c1 lz rz p q w h3 s1 k3 r2
  · exact ce50 k st hk lb rb ln rn ls rs la ra l0 c0 l1 c1 lz rz p q w h3 r1
  · exact ce51 k st hk lb rb ln rn ls rs la ra l0 c0 l1 c1 lz rz p q w h3 r1
  · exact ce52 k st hk lb rb ln rn ls rs la ra l0 c0 l1 c1 lz rz p q w h3 r1 k3
  · exact ce53 k st hk lb rb ln rn ls rs la ra l0 c0 l1 c1 lz rz p q w h3 r1 k3
  · exact ce54 k st hk lb rb ln rn ls rs la ra l0 c0 l1 c1 lz rz p q w h3 r1 k3 s2
  · exact ce55 k st hk lb rb ln rn ls rs la ra l0 c0 l1 c1 lz rz p q w h3 r1 k3 r2
set_option maxHeartbeats 2000000 in
theorem mo00 (st : Bool) (lk rk : Int) (lb rb : Bool) (ln rn : Nat) (ls rs : ByteArray) (la ra : Option Addr) (l0 c0 l1 c1 : Nat) (lz rz : List Int) (w : World) (h0 : 0 ≤ lk) (h1 : 0 ≤ rk) (s1 : ls.size ≤ maxLen) (s2 : rs.size ≤ maxLen) (r1 : IntRow .u16 w la l0 c0 lz) (r2 : IntRow .u16 w ra l1 c1 rz) (hi : lk % 6 = 0) (hj : rk % 6 = 0) :
    Calls Try.prog 16 #[.bool st, .int .u8 lk, .bool lb, .float .f64 ln, .string ls, .slice la l0 c0, .int .u8 rk, .bool rb, .float .f64 rn, .string rs, .slice ra l1 c1] w fun e w' => e = .returned (.tuple #[.bool (eqv st 0 0 lb rb ln rn ls rs lz rz).1, .bool (eqv st 0 0 lb rb ln rn ls rs lz rz).2]) ∧ ∃ n, w' = w.drewN n := by
  clear r1 r2 s1 s2
  cases st
  all_goals
    go_enter Try.func16, Try.ntmps16
    go_wp2_with (first | (go_at_call 58; refine (one58 _ _).mono ?_; rintro e w' ⟨rfl, rfl⟩))
    go_ret2
    first | exact ⟨rfl, 0, rfl⟩ | exact ⟨rfl, _, rfl⟩ | (refine ⟨ret2 ?_ ?_, _, rfl⟩ <;> simp [eqv])
set_option maxHeartbeats 2000000 in
theorem mo01 (st : Bool) (lk rk : Int) (lb rb : Bool) (ln rn : Nat) (ls rs : ByteArray) (la ra : Option Addr) (l0 c0 l1 c1 : Nat) (lz rz : List Int) (w : World) (h0 : 0 ≤ lk) (h1 : 0 ≤ rk) (s1 : ls.size ≤ maxLen) (s2 : rs.size ≤ maxLen) (r1 : IntRow .u16 w la l0 c0 lz) (r2 : IntRow .u16 w ra l1 c1 rz) (hi : lk % 6 = 0) (hj : rk % 6 = 1) :
    Calls Try.prog 16 #[.bool st, .int .u8 lk, .bool lb, .float .f64 ln, .string ls, .slice la l0 c0, .int .u8 rk, .bool rb, .float .f64 rn, .string rs, .slice ra l1 c1] w fun e w' => e = .returned (.tuple #[.bool (eqv st 0 1 lb rb ln rn ls rs lz rz).1, .bool (eqv st 0 1 lb rb ln rn ls rs lz rz).2]) ∧ ∃ n, w' = w.drewN n := by
  clear r1 r2 s1 s2
  cases st
  all_goals
    go_enter Try.func16, Try.ntmps16
    go_wp2_with (first | (go_at_call 58; refine (one58 _ _).mono ?_; rintro e w' ⟨rfl, rfl⟩))
    go_ret2
    first | exact ⟨rfl, 0, rfl⟩ | exact ⟨rfl, _, rfl⟩ | (refine ⟨ret2 ?_ ?_, _, rfl⟩ <;> simp [eqv])
set_option maxHeartbeats 2000000 in
theorem mo02 (st : Bool) (lk rk : Int) (lb rb : Bool) (ln rn : Nat) (ls rs : ByteArray) (la ra : Option Addr) (l0 c0 l1 c1 : Nat) (lz rz : List Int) (w : World) (h0 : 0 ≤ lk) (h1 : 0 ≤ rk) (s1 : ls.size ≤ maxLen) (s2 : rs.size ≤ maxLen) (r1 : IntRow .u16 w la l0 c0 lz) (r2 : IntRow .u16 w ra l1 c1 rz) (hi : lk % 6 = 0) (hj : rk % 6 = 2) :
    Calls Try.prog 16 #[.bool st, .int .u8 lk, .bool lb, .float .f64 ln, .string ls, .slice la l0 c0, .int .u8 rk, .bool rb, .float .f64 rn, .string rs, .slice ra l1 c1] w fun e w' => e = .returned (.tuple #[.bool (eqv st 0 2 lb rb ln rn ls rs lz rz).1, .bool (eqv st 0 2 lb rb ln rn ls rs lz rz).2]) ∧ ∃ n, w' = w.drewN n := by
  clear r1 r2 s1 s2
  cases st
  all_goals
    go_enter Try.func16, Try.ntmps16
    go_wp2_with (first | (go_at_call 58; refine (one58 _ _).mono ?_; rintro e w' ⟨rfl, rfl⟩))
    go_ret2
    first | exact ⟨rfl, 0, rfl⟩ | exact ⟨rfl, _, rfl⟩ | (refine ⟨ret2 ?_ ?_, _, rfl⟩ <;> simp [eqv])
set_option maxHeartbeats 2000000 in
theorem mo03 (st : Bool) (lk rk : Int) (lb rb : Bool) (ln rn : Nat) (ls rs : ByteArray) (la ra : Option Addr) (l0 c0 l1 c1 : Nat) (lz rz : List Int) (w : World) (h0 : 0 ≤ lk) (h1 : 0 ≤ rk) (s1 : ls.size ≤ maxLen) (s2 : rs.size ≤ maxLen) (r1 : IntRow .u16 w la l0 c0 lz) (r2 : IntRow .u16 w ra l1 c1 rz) (hi : lk % 6 = 0) (hj : rk % 6 = 3) :
    Calls Try.prog 16 #[.bool st, .int .u8 lk, .bool lb, .float .f64 ln, .string ls, .slice la l0 c0, .int .u8 rk, .bool rb, .float .f64 rn, .string rs, .slice ra l1 c1] w fun e w' => e = .returned (.tuple #[.bool (eqv st 0 3 lb rb ln rn ls rs lz rz).1, .bool (eqv st 0 3 lb rb ln rn ls rs lz rz).2]) ∧ ∃ n, w' = w.drewN n := by
  clear r1 r2 s1 s2
  cases st
  all_goals
    go_enter Try.func16, Try.ntmps16
    go_wp2_with (first | (go_at_call 58; refine (one58 _ _).mono ?_; rintro e w' ⟨rfl, rfl⟩))
    go_ret2
    first | exact ⟨rfl, 0, rfl⟩ | exact ⟨rfl, _, rfl⟩ | (refine ⟨ret2 ?_ ?_, _, rfl⟩ <;> simp [eqv])
set_option maxHeartbeats 2000000 in
theorem mo04 (st : Bool) (lk rk : Int) (lb rb : Bool) (ln rn : Nat) (ls rs : ByteArray) (la ra : Option Addr) (l0 c0 l1 c1 : Nat) (lz rz : List Int) (w : World) (h0 : 0 ≤ lk) (h1 : 0 ≤ rk) (s1 : ls.size ≤ maxLen) (s2 : rs.size ≤ maxLen) (r1 : IntRow .u16 w la l0 c0 lz) (r2 : IntRow .u16 w ra l1 c1 rz) (hi : lk % 6 = 0) (hj : rk % 6 = 4) :
    Calls Try.prog 16 #[.bool st, .int .u8 lk, .bool lb, .float .f64 ln, .string ls, .slice la l0 c0, .int .u8 rk, .bool rb, .float .f64 rn, .string rs, .slice ra l1 c1] w fun e w' => e = .returned (.tuple #[.bool (eqv st 0 4 lb rb ln rn ls rs lz rz).1, .bool (eqv st 0 4 lb rb ln rn ls rs lz rz).2]) ∧ ∃ n, w' = w.drewN n := by
  clear r1 r2 s1 s2
  cases st
  all_goals
    go_enter Try.func16, Try.ntmps16
    go_wp2_with (first | (go_at_call 58; refine (one58 _ _).mono ?_; rintro e w' ⟨rfl, rfl⟩))
    go_ret2
    first | exact ⟨rfl, 0, rfl⟩ | exact ⟨rfl, _, rfl⟩ | (refine ⟨ret2 ?_ ?_, _, rfl⟩ <;> simp [eqv])
set_option maxHeartbeats 2000000 in
theorem mo05 (st : Bool) (lk rk : Int) (lb rb : Bool) (ln rn : Nat) (ls rs : ByteArray) (la ra : Option Addr) (l0 c0 l1 c1 : Nat) (lz rz : List Int) (w : World) (h0 : 0 ≤ lk) (h1 : 0 ≤ rk) (s1 : ls.size ≤ maxLen) (s2 : rs.size ≤ maxLen) (r1 : IntRow .u16 w la l0 c0 lz) (r2 : IntRow .u16 w ra l1 c1 rz) (hi : lk % 6 = 0) (hj : rk % 6 = 5) :
    Calls Try.prog 16 #[.bool st, .int .u8 lk, .bool lb, .float .f64 ln, .string ls, .slice la l0 c0, .int .u8 rk, .bool rb, .float .f64 rn, .string rs, .slice ra l1 c1] w fun e w' => e = .returned (.tuple #[.bool (eqv st 0 5 lb rb ln rn ls rs lz rz).1, .bool (eqv st 0 5 lb rb ln rn ls rs lz rz).2]) ∧ ∃ n, w' = w.drewN n := by
  clear r1 r2 s1 s2
  cases st
  all_goals
    go_enter Try.func16, Try.ntmps16
    go_wp2_with (first | (go_at_call 58; refine (one58 _ _).mono ?_; rintro e w' ⟨rfl, rfl⟩))
    go_ret2
    first | exact ⟨rfl, 0, rfl⟩ | exact ⟨rfl, _, rfl⟩ | (refine ⟨ret2 ?_ ?_, _, rfl⟩ <;> simp [eqv])
set_option maxHeartbeats 2000000 in
theorem mo10 (st : Bool) (lk rk : Int) (lb rb : Bool) (ln rn : Nat) (ls rs : ByteArray) (la ra : Option Addr) (l0 c0 l1 c1 : Nat) (lz rz : List Int) (w : World) (h0 : 0 ≤ lk) (h1 : 0 ≤ rk) (s1 : ls.size ≤ maxLen) (s2 : rs.size ≤ maxLen) (r1 : IntRow .u16 w la l0 c0 lz) (r2 : IntRow .u16 w ra l1 c1 rz) (hi : lk % 6 = 1) (hj : rk % 6 = 0) :
    Calls Try.prog 16 #[.bool st, .int .u8 lk, .bool lb, .float .f64 ln, .string ls, .slice la l0 c0, .int .u8 rk, .bool rb, .float .f64 rn, .string rs, .slice ra l1 c1] w fun e w' => e = .returned (.tuple #[.bool (eqv st 1 0 lb rb ln rn ls rs lz rz).1, .bool (eqv st 1 0 lb rb ln rn ls rs lz rz).2]) ∧ ∃ n, w' = w.drewN n := by
  clear r1 r2 s1 s2
  cases st
  all_goals
    go_enter Try.func16, Try.ntmps16
    go_wp2_with (first | (go_at_call 58; refine (one58 _ _).mono ?_; rintro e w' ⟨rfl, rfl⟩))
    go_ret2
    first | exact ⟨rfl, 0, rfl⟩ | exact ⟨rfl, _, rfl⟩ | (refine ⟨ret2 ?_ ?_, _, rfl⟩ <;> simp [eqv])
set_option maxHeartbeats 2000000 in
theorem mo11 (st : Bool) (lk rk : Int) (lb rb : Bool) (ln rn : Nat) (ls rs : ByteArray) (la ra : Option Addr) (l0 c0 l1 c1 : Nat) (lz rz : List Int) (w : World) (h0 : 0 ≤ lk) (h1 : 0 ≤ rk) (s1 : ls.size ≤ maxLen) (s2 : rs.size ≤ maxLen) (r1 : IntRow .u16 w la l0 c0 lz) (r2 : IntRow .u16 w ra l1 c1 rz) (hi : lk % 6 = 1) (hj : rk % 6 = 1) :
    Calls Try.prog 16 #[.bool st, .int .u8 lk, .bool lb, .float .f64 ln, .string ls, .slice la l0 c0, .int .u8 rk, .bool rb, .float .f64 rn, .string rs, .slice ra l1 c1] w fun e w' => e = .returned (.tuple #[.bool (eqv st 1 1 lb rb ln rn ls rs lz rz).1, .bool (eqv st 1 1 lb rb ln rn ls rs lz rz).2]) ∧ ∃ n, w' = w.drewN n := by
  clear r1 r2 s1 s2
  cases st
  all_goals
    go_enter Try.func16, Try.ntmps16
    go_wp2_with (first | (go_at_call 58; refine (one58 _ _).mono ?_; rintro e w' ⟨rfl, rfl⟩))
    go_ret2
    first | exact ⟨rfl, 0, rfl⟩ | exact ⟨rfl, _, rfl⟩ | (refine ⟨ret2 ?_ ?_, _, rfl⟩ <;> simp [eqv])
set_option maxHeartbeats 2000000 in
theorem mo12 (st : Bool) (lk rk : Int) (lb rb : Bool) (ln rn : Nat) (ls rs : ByteArray) (la ra : Option Addr) (l0 c0 l1 c1 : Nat) (lz rz : List Int) (w : World) (h0 : 0 ≤ lk) (h1 : 0 ≤ rk) (s1 : ls.size ≤ maxLen) (s2 : rs.size ≤ maxLen) (r1 : IntRow .u16 w la l0 c0 lz) (r2 : IntRow .u16 w ra l1 c1 rz) (hi : lk % 6 = 1) (hj : rk % 6 = 2) :
    Calls Try.prog 16 #[.bool st, .int .u8 lk, .bool lb, .float .f64 ln, .string ls, .slice la l0 c0, .int .u8 rk, .bool rb, .float .f64 rn, .string rs, .slice ra l1 c1] w fun e w' => e = .returned (.tuple #[.bool (eqv st 1 2 lb rb ln rn ls rs lz rz).1, .bool (eqv st 1 2 lb rb ln rn ls rs lz rz).2]) ∧ ∃ n, w' = w.drewN n := by
  clear r1 r2 s1 s2
  cases st
  all_goals
    go_enter Try.func16, Try.ntmps16
    go_wp2_with (first | (go_at_call 58; refine (one58 _ _).mono ?_; rintro e w' ⟨rfl, rfl⟩))
    go_ret2
    first | exact ⟨rfl, 0, rfl⟩ | exact ⟨rfl, _, rfl⟩ | (refine ⟨ret2 ?_ ?_, _, rfl⟩ <;> simp [eqv])
set_option maxHeartbeats 2000000 in
theorem mo13 (st : Bool) (lk rk : Int) (lb rb : Bool) (ln rn : Nat) (ls rs : ByteArray) (la ra : Option Addr) (l0 c0 l1 c1 : Nat) (lz rz : List Int) (w : World) (h0 : 0 ≤ lk) (h1 : 0 ≤ rk) (s1 : ls.size ≤ maxLen) (s2 : rs.size ≤ maxLen) (r1 : IntRow .u16 w la l0 c0 lz) (r2 : IntRow .u16 w ra l1 c1 rz) (hi : lk % 6 = 1) (hj : rk % 6 = 3) :
    Calls Try.prog 16 #[.bool st, .int .u8 lk, .bool lb, .float .f64 ln, .string ls, .slice la l0 c0, .int .u8 rk, .bool rb, .float .f64 rn, .string rs, .slice ra l1 c1] w fun e w' => e = .returned (.tuple #[.bool (eqv st 1 3 lb rb ln rn ls rs lz rz).1, .bool (eqv st 1 3 lb rb ln rn ls rs lz rz).2]) ∧ ∃ n, w' = w.drewN n := by
  clear r1 r2 s1 s2
  cases st
  all_goals
    go_enter Try.func16, Try.ntmps16
    go_wp2_with (first | (go_at_call 58; refine (one58 _ _).mono ?_; rintro e w' ⟨rfl, rfl⟩))
    go_ret2
    first | exact ⟨rfl, 0, rfl⟩ | exact ⟨rfl, _, rfl⟩ | (refine ⟨ret2 ?_ ?_, _, rfl⟩ <;> simp [eqv])
set_option maxHeartbeats 2000000 in
theorem mo14 (st : Bool) (lk rk : Int) (lb rb : Bool) (ln rn : Nat) (ls rs : ByteArray) (la ra : Option Addr) (l0 c0 l1 c1 : Nat) (lz rz : List Int) (w : World) (h0 : 0 ≤ lk) (h1 : 0 ≤ rk) (s1 : ls.size ≤ maxLen) (s2 : rs.size ≤ maxLen) (r1 : IntRow .u16 w la l0 c0 lz) (r2 : IntRow .u16 w ra l1 c1 rz) (hi : lk % 6 = 1) (hj : rk % 6 = 4) :
    Calls Try.prog 16 #[.bool st, .int .u8 lk, .bool lb, .float .f64 ln, .string ls, .slice la l0 c0, .int .u8 rk, .bool rb, .float .f64 rn, .string rs, .slice ra l1 c1] w fun e w' => e = .returned (.tuple #[.bool (eqv st 1 4 lb rb ln rn ls rs lz rz).1, .bool (eqv st 1 4 lb rb ln rn ls rs lz rz).2]) ∧ ∃ n, w' = w.drewN n := by
  clear r1 r2 s1 s2
  cases st
  all_goals
    go_enter Try.func16, Try.ntmps16
    go_wp2_with (first | (go_at_call 58; refine (one58 _ _).mono ?_; rintro e w' ⟨rfl, rfl⟩))
    go_ret2
    first | exact ⟨rfl, 0, rfl⟩ | exact ⟨rfl, _, rfl⟩ | (refine ⟨ret2 ?_ ?_, _, rfl⟩ <;> simp [eqv])
set_option maxHeartbeats 2000000 in
theorem mo15 (st : Bool) (lk rk : Int) (lb rb : Bool) (ln rn : Nat) (ls rs : ByteArray) (la ra : Option Addr) (l0 c0 l1 c1 : Nat) (lz rz : List Int) (w : World) (h0 : 0 ≤ lk) (h1 : 0 ≤ rk) (s1 : ls.size ≤ maxLen) (s2 : rs.size ≤ maxLen) (r1 : IntRow .u16 w la l0 c0 lz) (r2 : IntRow .u16 w ra l1 c1 rz) (hi : lk % 6 = 1) (hj : rk % 6 = 5) :
    Calls Try.prog 16 #[.bool st, .int .u8 lk, .bool lb, .float .f64 ln, .string ls, .slice la l0 c0, .int .u8 rk, .bool rb, .float .f64 rn, .string rs, .slice ra l1 c1] w fun e w' => e = .returned (.tuple #[.bool (eqv st 1 5 lb rb ln rn ls rs lz rz).1, .bool (eqv st 1 5 lb rb ln rn ls rs lz rz).2]) ∧ ∃ n, w' = w.drewN n := by
  clear r1 r2 s1 s2
  cases st
  all_goals
    go_enter Try.func16, Try.ntmps16
    go_wp2_with (first | (go_at_call 58; refine (one58 _ _).mono ?_; rintro e w' ⟨rfl, rfl⟩))
    go_ret2
    first | exact ⟨rfl, 0, rfl⟩ | exact ⟨rfl, _, rfl⟩ | (refine ⟨ret2 ?_ ?_, _, rfl⟩ <;> simp [eqv])
set_option maxHeartbeats 2000000 in
theorem mo20 (st : Bool) (lk rk : Int) (lb rb : Bool) (ln rn : Nat) (ls rs : ByteArray) (la ra : Option Addr) (l0 c0 l1 c1 : Nat) (lz rz : List Int) (w : World) (h0 : 0 ≤ lk) (h1 : 0 ≤ rk) (s1 : ls.size ≤ maxLen) (s2 : rs.size ≤ maxLen) (r1 : IntRow .u16 w la l0 c0 lz) (r2 : IntRow .u16 w ra l1 c1 rz) (hi : lk % 6 = 2) (hj : rk % 6 = 0) :
    Calls Try.prog 16 #[.bool st, .int .u8 lk, .bool lb, .float .f64 ln, .string ls, .slice la l0 c0, .int .u8 rk, .bool rb, .float .f64 rn, .string rs, .slice ra l1 c1] w fun e w' => e = .returned (.tuple #[.bool (eqv st 2 0 lb rb ln rn ls rs lz rz).1, .bool (eqv st 2 0 lb rb ln rn ls rs lz rz).2]) ∧ ∃ n, w' = w.drewN n := by
  clear r1 r2 s1 s2
  cases st
  all_goals
    go_enter Try.func16, Try.ntmps16
    go_wp2_with (first | (go_at_call 58; refine (one58 _ _).mono ?_; rintro e w' ⟨rfl, rfl⟩))
    go_ret2
    first | exact ⟨rfl, 0, rfl⟩ | exact ⟨rfl, _, rfl⟩ | (refine ⟨ret2 ?_ ?_, _, rfl⟩ <;> simp [eqv])
set_option maxHeartbeats 2000000 in
theorem mo21 (st : Bool) (lk rk : Int) (lb rb : Bool) (ln rn : Nat) (ls rs : ByteArray) (la ra : Option Addr) (l0 c0 l1 c1 : Nat) (lz rz : List Int) (w : World) (h0 : 0 ≤ lk) (h1 : 0 ≤ rk) (s1 : ls.size ≤ maxLen) (s2 : rs.size ≤ maxLen) (r1 : IntRow .u16 w la l0 c0 lz) (r2 : IntRow .u16 w ra l1 c1 rz) (hi : lk % 6 = 2) (hj : rk % 6 = 1) :
    Calls Try.prog 16 #[.bool st, .int .u8 lk, .bool lb, .float .f64 ln, .string ls, .slice la l0 c0, .int .u8 rk, .bool rb, .float .f64 rn, .string rs, .slice ra l1 c1] w fun e w' => e = .returned (.tuple #[.bool (eqv st 2 1 lb rb ln rn ls rs lz rz).1, .bool (eqv st 2 1 lb rb ln rn ls rs lz rz).2]) ∧ ∃ n, w' = w.drewN n := by
  clear r1 r2 s1 s2
  cases st
  all_goals
    go_enter Try.func16, Try.ntmps16
    go_wp2_with (first | (go_at_call 58; refine (one58 _ _).mono ?_; rintro e w' ⟨rfl, rfl⟩))
    go_ret2
    first | exact ⟨rfl, 0, rfl⟩ | exact ⟨rfl, _, rfl⟩ | (refine ⟨ret2 ?_ ?_, _, rfl⟩ <;> simp [eqv])
set_option maxHeartbeats 2000000 in
theorem mo22 (st : Bool) (lk rk : Int) (lb rb : Bool) (ln rn : Nat) (ls rs : ByteArray) (la ra : Option Addr) (l0 c0 l1 c1 : Nat) (lz rz : List Int) (w : World) (h0 : 0 ≤ lk) (h1 : 0 ≤ rk) (s1 : ls.size ≤ maxLen) (s2 : rs.size ≤ maxLen) (r1 : IntRow .u16 w la l0 c0 lz) (r2 : IntRow .u16 w ra l1 c1 rz) (hi : lk % 6 = 2) (hj : rk % 6 = 2) :
    Calls Try.prog 16 #[.bool st, .int .u8 lk, .bool lb, .float .f64 ln, .string ls, .slice la l0 c0, .int .u8 rk, .bool rb, .float .f64 rn, .string rs, .slice ra l1 c1] w fun e w' => e = .returned (.tuple #[.bool (eqv st 2 2 lb rb ln rn ls rs lz rz).1, .bool (eqv st 2 2 lb rb ln rn ls rs lz rz).2]) ∧ ∃ n, w' = w.drewN n := by
  clear r1 r2 s1 s2
  cases st
  all_goals
    go_enter Try.func16, Try.ntmps16
    go_wp2_with (first | (go_at_call 58; refine (one58 _ _).mono ?_; rintro e w' ⟨rfl, rfl⟩))
    go_ret2
    first | exact ⟨rfl, 0, rfl⟩ | exact ⟨rfl, _, rfl⟩ | (refine ⟨ret2 ?_ ?_, _, rfl⟩ <;> simp [eqv])
set_option maxHeartbeats 2000000 in
theorem mo23 (st : Bool) (lk rk : Int) (lb rb : Bool) (ln rn : Nat) (ls rs : ByteArray) (la ra : Option Addr) (l0 c0 l1 c1 : Nat) (lz rz : List Int) (w : World) (h0 : 0 ≤ lk) (h1 : 0 ≤ rk) (s1 : ls.size ≤ maxLen) (s2 : rs.size ≤ maxLen) (r1 : IntRow .u16 w la l0 c0 lz) (r2 : IntRow .u16 w ra l1 c1 rz) (hi : lk % 6 = 2) (hj : rk % 6 = 3) :
    Calls Try.prog 16 #[.bool st, .int .u8 lk, .bool lb, .float .f64 ln, .string ls, .slice la l0 c0, .int .u8 rk, .bool rb, .float .f64 rn, .string rs, .slice ra l1 c1] w fun e w' => e = .returned (.tuple #[.bool (eqv st 2 3 lb rb ln rn ls rs lz rz).1, .bool (eqv st 2 3 lb rb ln rn ls rs lz rz).2]) ∧ ∃ n, w' = w.drewN n := by
  clear r1 r2 s1 s2
  cases lb <;> cases st
  all_goals
    go_enter Try.func16, Try.ntmps16
    go_wp2_with (first | (go_at_call 58; refine (one58 _ _).mono ?_; rintro e w' ⟨rfl, rfl⟩))
    go_ret2
    first | exact ⟨rfl, 0, rfl⟩ | exact ⟨rfl, _, rfl⟩ | (refine ⟨ret2 ?_ ?_, _, rfl⟩ <;> simp [eqv])
set_option maxHeartbeats 2000000 in
theorem mo24 (st : Bool) (lk rk : Int) (lb rb : Bool) (ln rn : Nat) (ls rs : ByteArray) (la ra : Option Addr) (l0 c0 l1 c1 : Nat) (lz rz : List Int) (w : World) (h0 : 0 ≤ lk) (h1 : 0 ≤ rk) (s1 : ls.size ≤ maxLen) (s2 : rs.size ≤ maxLen) (r1 : IntRow .u16 w la l0 c0 lz) (r2 : IntRow .u16 w ra l1 c1 rz) (hi : lk % 6 = 2) (hj : rk % 6 = 4) :
    Calls Try.prog 16 #[.bool st, .int .u8 lk, .bool lb, .float .f64 ln, .string ls, .slice la l0 c0, .int .u8 rk, .bool rb, .float .f64 rn, .string rs, .slice ra l1 c1] w fun e w' => e = .returned (.tuple #[.bool (eqv st 2 4 lb rb ln rn ls rs lz rz).1, .bool (eqv st 2 4 lb rb ln rn ls rs lz rz).2]) ∧ ∃ n, w' = w.drewN n := by
  clear r1 r2 s1 s2
  cases st
  all_goals
    go_enter Try.func16, Try.ntmps16
    go_wp2_with (first | (go_at_call 58; refine (one58 _ _).mono ?_; rintro e w' ⟨rfl, rfl⟩))
    go_ret2
    first | exact ⟨rfl, 0, rfl⟩ | exact ⟨rfl, _, rfl⟩ | (refine ⟨ret2 ?_ ?_, _, rfl⟩ <;> simp [eqv])
set_option maxHeartbeats 2000000 in
theorem mo25 (st : Bool) (lk rk : Int) (lb rb : Bool) (ln rn : Nat) (ls rs : ByteArray) (la ra : Option Addr) (l0 c0 l1 c1 : Nat) (lz rz : List Int) (w : World) (h0 : 0 ≤ lk) (h1 : 0 ≤ rk) (s1 : ls.size ≤ maxLen) (s2 : rs.size ≤ maxLen) (r1 : IntRow .u16 w la l0 c0 lz) (r2 : IntRow .u16 w ra l1 c1 rz) (hi : lk % 6 = 2) (hj : rk % 6 = 5) :
    Calls Try.prog 16 #[.bool st, .int .u8 lk, .bool lb, .float .f64 ln, .string ls, .slice la l0 c0, .int .u8 rk, .bool rb, .float .f64 rn, .string rs, .slice ra l1 c1] w fun e w' => e = .returned (.tuple #[.bool (eqv st 2 5 lb rb ln rn ls rs lz rz).1, .bool (eqv st 2 5 lb rb ln rn ls rs lz rz).2]) ∧ ∃ n, w' = w.drewN n := by
  clear r1 r2 s1 s2
  cases st
  all_goals
    go_enter Try.func16, Try.ntmps16
    go_wp2_with (first | (go_at_call 58; refine (one58 _ _).mono ?_; rintro e w' ⟨rfl, rfl⟩))
    go_ret2
    first | exact ⟨rfl, 0, rfl⟩ | exact ⟨rfl, _, rfl⟩ | (refine ⟨ret2 ?_ ?_, _, rfl⟩ <;> simp [eqv])
set_option maxHeartbeats 2000000 in
theorem mo30 (st : Bool) (lk rk : Int) (lb rb : Bool) (ln rn : Nat) (ls rs : ByteArray) (la ra : Option Addr) (l0 c0 l1 c1 : Nat) (lz rz : List Int) (w : World) (h0 : 0 ≤ lk) (h1 : 0 ≤ rk) (s1 : ls.size ≤ maxLen) (s2 : rs.size ≤ maxLen) (r1 : IntRow .u16 w la l0 c0 lz) (r2 : IntRow .u16 w ra l1 c1 rz) (hi : lk % 6 = 3) (hj : rk % 6 = 0) :
    Calls Try.prog 16 #[.bool st, .int .u8 lk, .bool lb, .float .f64 ln, .string ls, .slice la l0 c0, .int .u8 rk, .bool rb, .float .f64 rn, .string rs, .slice ra l1 c1] w fun e w' => e = .returned (.tuple #[.bool (eqv st 3 0 lb rb ln rn ls rs lz rz).1, .bool (eqv st 3 0 lb rb ln rn ls rs lz rz).2]) ∧ ∃ n, w' = w.drewN n := by
  clear r1 r2 s1 s2
  cases st
  all_goals
    go_enter Try.func16, Try.ntmps16
    go_wp2_with (first | (go_at_call 58; refine (one58 _ _).mono ?_; rintro e w' ⟨rfl, rfl⟩))
    go_ret2
    first | exact ⟨rfl, 0, rfl⟩ | exact ⟨rfl, _, rfl⟩ | (refine ⟨ret2 ?_ ?_, _, rfl⟩ <;> simp [eqv])
set_option maxHeartbeats 2000000 in
theorem mo31 (st : Bool) (lk rk : Int) (lb rb : Bool) (ln rn : Nat) (ls rs : ByteArray) (la ra : Option Addr) (l0 c0 l1 c1 : Nat) (lz rz : List Int) (w : World) (h0 : 0 ≤ lk) (h1 : 0 ≤ rk) (s1 : ls.size ≤ maxLen) (s2 : rs.size ≤ maxLen) (r1 : IntRow .u16 w la l0 c0 lz) (r2 : IntRow .u16 w ra l1 c1 rz) (hi : lk % 6 = 3) (hj : rk % 6 = 1) :
    Calls Try.prog 16 #[.bool st, .int .u8 lk, .bool lb, .float .f64 ln, .string ls, .slice la l0 c0, .int .u8 rk, .bool rb, .float .f64 rn, .string rs, .slice ra l1 c1] w fun e w' => e = .returned (.tuple #[.bool (eqv st 3 1 lb rb ln rn ls rs lz rz).1, .bool (eqv st 3 1 lb rb ln rn ls rs lz rz).2]) ∧ ∃ n, w' = w.drewN n := by
  clear r1 r2 s1 s2
  cases st
  all_goals
    go_enter Try.func16, Try.ntmps16
    go_wp2_with (first | (go_at_call 58; refine (one58 _ _).mono ?_; rintro e w' ⟨rfl, rfl⟩))
    go_ret2
    first | exact ⟨rfl, 0, rfl⟩ | exact ⟨rfl, _, rfl⟩ | (refine ⟨ret2 ?_ ?_, _, rfl⟩ <;> simp [eqv])
set_option maxHeartbeats 2000000 in
theorem mo32 (st : Bool) (lk rk : Int) (lb rb : Bool) (ln rn : Nat) (ls rs : ByteArray) (la ra : Option Addr) (l0 c0 l1 c1 : Nat) (lz rz : List Int) (w : World) (h0 : 0 ≤ lk) (h1 : 0 ≤ rk) (s1 : ls.size ≤ maxLen) (s2 : rs.size ≤ maxLen) (r1 : IntRow .u16 w la l0 c0 lz) (r2 : IntRow .u16 w ra l1 c1 rz) (hi : lk % 6 = 3) (hj : rk % 6 = 2) :
    Calls Try.prog 16 #[.bool st, .int .u8 lk, .bool lb, .float .f64 ln, .string ls, .slice la l0 c0, .int .u8 rk, .bool rb, .float .f64 rn, .string rs, .slice ra l1 c1] w fun e w' => e = .returned (.tuple #[.bool (eqv st 3 2 lb rb ln rn ls rs lz rz).1, .bool (eqv st 3 2 lb rb ln rn ls rs lz rz).2]) ∧ ∃ n, w' = w.drewN n := by
  clear r1 r2 s1 s2
  cases rb <;> cases st
  all_goals
    go_enter Try.func16, Try.ntmps16
    go_wp2_with (first | (go_at_call 58; refine (one58 _ _).mono ?_; rintro e w' ⟨rfl, rfl⟩))
    go_ret2
    first | exact ⟨rfl, 0, rfl⟩ | exact ⟨rfl, _, rfl⟩ | (refine ⟨ret2 ?_ ?_, _, rfl⟩ <;> simp [eqv])
set_option maxHeartbeats 2000000 in
theorem mo33 (st : Bool) (lk rk : Int) (lb rb : Bool) (ln rn : Nat) (ls rs : ByteArray) (la ra : Option Addr) (l0 c0 l1 c1 : Nat) (lz rz : List Int) (w : World) (h0 : 0 ≤ lk) (h1 : 0 ≤ rk) (s1 : ls.size ≤ maxLen) (s2 : rs.size ≤ maxLen) (r1 : IntRow .u16 w la l0 c0 lz) (r2 : IntRow .u16 w ra l1 c1 rz) (hi : lk % 6 = 3) (hj : rk % 6 = 3) :
    Calls Try.prog 16 #[.bool st, .int .u8 lk, .bool lb, .float .f64 ln, .string ls, .slice la l0 c0, .int .u8 rk, .bool rb, .float .f64 rn, .string rs, .slice ra l1 c1] w fun e w' => e = .returned (.tuple #[.bool (eqv st 3 3 lb rb ln rn ls rs lz rz).1, .bool (eqv st 3 3 lb rb ln rn ls rs lz rz).2]) ∧ ∃ n, w' = w.drewN n := by
  clear r1 r2 s1 s2
  cases st
  all_goals
    go_enter Try.func16, Try.ntmps16
    go_wp2_with (first | (go_at_call 58; refine (one58 _ _).mono ?_; rintro e w' ⟨rfl, rfl⟩))
    go_ret2
    first | exact ⟨rfl, 0, rfl⟩ | exact ⟨rfl, _, rfl⟩ | (refine ⟨ret2 ?_ ?_, _, rfl⟩ <;> simp [eqv])
set_option maxHeartbeats 2000000 in
theorem mo34 (st : Bool) (lk rk : Int) (lb rb : Bool) (ln rn : Nat) (ls rs : ByteArray) (la ra : Option Addr) (l0 c0 l1 c1 : Nat) (lz rz : List Int) (w : World) (h0 : 0 ≤ lk) (h1 : 0 ≤ rk) (s1 : ls.size ≤ maxLen) (s2 : rs.size ≤ maxLen) (r1 : IntRow .u16 w la l0 c0 lz) (r2 : IntRow .u16 w ra l1 c1 rz) (hi : lk % 6 = 3) (hj : rk % 6 = 4) :
    Calls Try.prog 16 #[.bool st, .int .u8 lk, .bool lb, .float .f64 ln, .string ls, .slice la l0 c0, .int .u8 rk, .bool rb, .float .f64 rn, .string rs, .slice ra l1 c1] w fun e w' => e = .returned (.tuple #[.bool (eqv st 3 4 lb rb ln rn ls rs lz rz).1, .bool (eqv st 3 4 lb rb ln rn ls rs lz rz).2]) ∧ ∃ n, w' = w.drewN n := by
  clear r1 r2 s1 s2
  cases st
  all_goals
    go_enter Try.func16, Try.ntmps16
    go_wp2_with (first | (go_at_call 58; refine (one58 _ _).mono ?_; rintro e w' ⟨rfl, rfl⟩))
    go_ret2
    first | exact ⟨rfl, 0, rfl⟩ | exact ⟨rfl, _, rfl⟩ | (refine ⟨ret2 ?_ ?_, _, rfl⟩ <;> simp [eqv])
set_option maxHeartbeats 2000000 in
theorem mo35 (st : Bool) (lk rk : Int) (lb rb : Bool) (ln rn : Nat) (ls rs : ByteArray) (la ra : Option Addr) (l0 c0 l1 c1 : Nat) (lz rz : List Int) (w : World) (h0 : 0 ≤ lk) (h1 : 0 ≤ rk) (s1 : ls.size ≤ maxLen) (s2 : rs.size ≤ maxLen) (r1 : IntRow .u16 w la l0 c0 lz) (r2 : IntRow .u16 w ra l1 c1 rz) (hi : lk % 6 = 3) (hj : rk % 6 = 5) :
    Calls Try.prog 16 #[.bool st, .int .u8 lk, .bool lb, .float .f64 ln, .string ls, .slice la l0 c0, .int .u8 rk, .bool rb, .float .f64 rn, .string rs, .slice ra l1 c1] w fun e w' => e = .returned (.tuple #[.bool (eqv st 3 5 lb rb ln rn ls rs lz rz).1, .bool (eqv st 3 5 lb rb ln rn ls rs lz rz).2]) ∧ ∃ n, w' = w.drewN n := by
  clear r1 r2 s1 s2
  cases st
  all_goals
    go_enter Try.func16, Try.ntmps16
    go_wp2_with (first | (go_at_call 58; refine (one58 _ _).mono ?_; rintro e w' ⟨rfl, rfl⟩))
    go_ret2
    first | exact ⟨rfl, 0, rfl⟩ | exact ⟨rfl, _, rfl⟩ | (refine ⟨ret2 ?_ ?_, _, rfl⟩ <;> simp [eqv])
set_option maxHeartbeats 2000000 in
theorem mo40 (st : Bool) (lk rk : Int) (lb rb : Bool) (ln rn : Nat) (ls rs : ByteArray) (la ra : Option Addr) (l0 c0 l1 c1 : Nat) (lz rz : List Int) (w : World) (h0 : 0 ≤ lk) (h1 : 0 ≤ rk) (s1 : ls.size ≤ maxLen) (s2 : rs.size ≤ maxLen) (r1 : IntRow .u16 w la l0 c0 lz) (r2 : IntRow .u16 w ra l1 c1 rz) (hi : lk % 6 = 4) (hj : rk % 6 = 0) :
    Calls Try.prog 16 #[.bool st, .int .u8 lk, .bool lb, .float .f64 ln, .string ls, .slice la l0 c0, .int .u8 rk, .bool rb, .float .f64 rn, .string rs, .slice ra l1 c1] w fun e w' => e = .returned (.tuple #[.bool (eqv st 4 0 lb rb ln rn ls rs lz rz).1, .bool (eqv st 4 0 lb rb ln rn ls rs lz rz).2]) ∧ ∃ n, w' = w.drewN n := by
  clear r1 r2 s1 s2
  cases st
  all_goals
    go_enter Try.func16, Try.ntmps16
    go_wp2_with (first | (go_at_call 58; refine (one58 _ _).mono ?_; rintro e w' ⟨rfl, rfl⟩))
    go_ret2
    first | exact ⟨rfl, 0, rfl⟩ | exact ⟨rfl, _, rfl⟩ | (refine ⟨ret2 ?_ ?_, _, rfl⟩ <;> simp [eqv])
set_option maxHeartbeats 2000000 in
theorem mo41 (st : Bool) (lk rk : Int) (lb rb : Bool) (ln rn : Nat) (ls rs : ByteArray) (la ra : Option Addr) (l0 c0 l1 c1 : Nat) (lz rz : List Int) (w : World) (h0 : 0 ≤ lk) (h1 : 0 ≤ rk) (s1 : ls.size ≤ maxLen) (s2 : rs.size ≤ maxLen) (r1 : IntRow .u16 w la l0 c0 lz) (r2 : IntRow .u16 w ra l1 c1 rz) (hi : lk % 6 = 4) (hj : rk % 6 = 1) :
    Calls Try.prog 16 #[.bool st, .int .u8 lk, .bool lb, .float .f64 ln, .string ls, .slice la l0 c0, .int .u8 rk, .bool rb, .float .f64 rn, .string rs, .slice ra l1 c1] w fun e w' => e = .returned (.tuple #[.bool (eqv st 4 1 lb rb ln rn ls rs lz rz).1, .bool (eqv st 4 1 lb rb ln rn ls rs lz rz).2]) ∧ ∃ n, w' = w.drewN n := by
  clear r1 r2 s1 s2
  cases st
  all_goals
    go_enter Try.func16, Try.ntmps16
    go_wp2_with (first | (go_at_call 58; refine (one58 _ _).mono ?_; rintro e w' ⟨rfl, rfl⟩))
    go_ret2
    first | exact ⟨rfl, 0, rfl⟩ | exact ⟨rfl, _, rfl⟩ | (refine ⟨ret2 ?_ ?_, _, rfl⟩ <;> simp [eqv])
set_option maxHeartbeats 2000000 in
theorem mo42 (st : Bool) (lk rk : Int) (lb rb : Bool) (ln rn : Nat) (ls rs : ByteArray) (la ra : Option Addr) (l0 c0 l1 c1 : Nat) (lz rz : List Int) (w : World) (h0 : 0 ≤ lk) (h1 : 0 ≤ rk) (s1 : ls.size ≤ maxLen) (s2 : rs.size ≤ maxLen) (r1 : IntRow .u16 w la l0 c0 lz) (r2 : IntRow .u16 w ra l1 c1 rz) (hi : lk % 6 = 4) (hj : rk % 6 = 2) :
    Calls Try.prog 16 #[.bool st, .int .u8 lk, .bool lb, .float .f64 ln, .string ls, .slice la l0 c0, .int .u8 rk, .bool rb, .float .f64 rn, .string rs, .slice ra l1 c1] w fun e w' => e = .returned (.tuple #[.bool (eqv st 4 2 lb rb ln rn ls rs lz rz).1, .bool (eqv st 4 2 lb rb ln rn ls rs lz rz).2]) ∧ ∃ n, w' = w.drewN n := by
  clear r1 r2 s1 s2
  cases st
  all_goals
    go_enter Try.func16, Try.ntmps16
    go_wp2_with (first | (go_at_call 58; refine (one58 _ _).mono ?_; rintro e w' ⟨rfl, rfl⟩))
    go_ret2
    first | exact ⟨rfl, 0, rfl⟩ | exact ⟨rfl, _, rfl⟩ | (refine ⟨ret2 ?_ ?_, _, rfl⟩ <;> simp [eqv])
set_option maxHeartbeats 2000000 in
theorem mo43 (st : Bool) (lk rk : Int) (lb rb : Bool) (ln rn : Nat) (ls rs : ByteArray) (la ra : Option Addr) (l0 c0 l1 c1 : Nat) (lz rz : List Int) (w : World) (h0 : 0 ≤ lk) (h1 : 0 ≤ rk) (s1 : ls.size ≤ maxLen) (s2 : rs.size ≤ maxLen) (r1 : IntRow .u16 w la l0 c0 lz) (r2 : IntRow .u16 w ra l1 c1 rz) (hi : lk % 6 = 4) (hj : rk % 6 = 3) :
    Calls Try.prog 16 #[.bool st, .int .u8 lk, .bool lb, .float .f64 ln, .string ls, .slice la l0 c0, .int .u8 rk, .bool rb, .float .f64 rn, .string rs, .slice ra l1 c1] w fun e w' => e = .returned (.tuple #[.bool (eqv st 4 3 lb rb ln rn ls rs lz rz).1, .bool (eqv st 4 3 lb rb ln rn ls rs lz rz).2]) ∧ ∃ n, w' = w.drewN n := by
  clear r1 r2 s1 s2
  cases st
  all_goals
    go_enter Try.func16, Try.ntmps16
    go_wp2_with (first | (go_at_call 58; refine (one58 _ _).mono ?_; rintro e w' ⟨rfl, rfl⟩))
    go_ret2
    first | exact ⟨rfl, 0, rfl⟩ | exact ⟨rfl, _, rfl⟩ | (refine ⟨ret2 ?_ ?_, _, rfl⟩ <;> simp [eqv])
set_option maxHeartbeats 2000000 in
theorem mo44 (st : Bool) (lk rk : Int) (lb rb : Bool) (ln rn : Nat) (ls rs : ByteArray) (la ra : Option Addr) (l0 c0 l1 c1 : Nat) (lz rz : List Int) (w : World) (h0 : 0 ≤ lk) (h1 : 0 ≤ rk) (s1 : ls.size ≤ maxLen) (s2 : rs.size ≤ maxLen) (r1 : IntRow .u16 w la l0 c0 lz) (r2 : IntRow .u16 w ra l1 c1 rz) (hi : lk % 6 = 4) (hj : rk % 6 = 4) :
    Calls Try.prog 16 #[.bool st, .int .u8 lk, .bool lb, .float .f64 ln, .string ls, .slice la l0 c0, .int .u8 rk, .bool rb, .float .f64 rn, .string rs, .slice ra l1 c1] w fun e w' => e = .returned (.tuple #[.bool (eqv st 4 4 lb rb ln rn ls rs lz rz).1, .bool (eqv st 4 4 lb rb ln rn ls rs lz rz).2]) ∧ ∃ n, w' = w.drewN n := by
  have R1 := Lib.hid fun w => rad56 ls w s1
  have R2 := Lib.hid fun w => rad56 rs w s2
  by_cases hh : ls.toList = rs.toList
  · obtain rfl := toList_inj hh
    have hv : eqv st 4 4 lb rb ln rn ls ls lz rz = (true, true) := by simp [eqv]
    rw [hv]
    clear r1 r2 s1 s2 hh hv
    go_enter Try.func16, Try.ntmps16
    go_wp2_with fail
    go_ret2
    exact ⟨rfl, 0, rfl⟩
  · have hn : (ls.toList == rs.toList) = false := by simpa using hh
    have hv : eqv st 4 4 lb rb ln rn ls rs lz rz = (false, !rad ls && !rad rs) := by simp [eqv, hh]
    rw [hv]
    clear r1 r2 s1 s2 hh hv
    cases hx : rad ls <;> cases hy : rad rs
    all_goals
      rw [hx] at R1
      rw [hy] at R2
      clear hx hy
      go_enter Try.func16, Try.ntmps16
      go_wp2_with (first | (go_at_call 56; first | (with_reducible refine (R1.out _).mono ?_; rintro e w' ⟨rfl, rfl⟩) | (with_reducible refine (R2.out _).mono ?_; rintro e w' ⟨rfl, rfl⟩)))
      go_ret2
      exact ⟨rfl, 0, rfl⟩
set_option maxHeartbeats 2000000 in
theorem mo45 (st : Bool) (lk rk : Int) (lb rb : Bool) (ln rn : Nat) (ls rs : ByteArray) (la ra : Option Addr) (l0 c0 l1 c1 : Nat) (lz rz : List Int) (w : World) (h0 : 0 ≤ lk) (h1 : 0 ≤ rk) (s1 : ls.size ≤ maxLen) (s2 : rs.size ≤ maxLen) (r1 : IntRow .u16 w la l0 c0 lz) (r2 : IntRow .u16 w ra l1 c1 rz) (hi : lk % 6 = 4) (hj : rk % 6 = 5) :
    Calls Try.prog 16 #[.bool st, .int .u8 lk, .bool lb, .float .f64 ln, .string ls, .slice la l0 c0, .int .u8 rk, .bool rb, .float .f64 rn, .string rs, .slice ra l1 c1] w fun e w' => e = .returned (.tuple #[.bool (eqv st 4 5 lb rb ln rn ls rs lz rz).1, .bool (eqv st 4 5 lb rb ln rn ls rs lz rz).2]) ∧ ∃ n, w' = w.drewN n := by
  clear r1 r2 s1 s2
  cases st
  all_goals
    go_enter Try.func16, Try.ntmps16
    go_wp2_with (first | (go_at_call 58; refine (one58 _ _).mono ?_; rintro e w' ⟨rfl, rfl⟩))
    go_ret2
    first | exact ⟨rfl, 0, rfl⟩ | exact ⟨rfl, _, rfl⟩ | (refine ⟨ret2 ?_ ?_, _, rfl⟩ <;> simp [eqv])
set_option maxHeartbeats 2000000 in
theorem mo50 (st : Bool) (lk rk : Int) (lb rb : Bool) (ln rn : Nat) (ls rs : ByteArray) (la ra : Option Addr) (l0 c0 l1 c1 : Nat) (lz rz : List Int) (w : World) (h0 : 0 ≤ lk) (h1 : 0 ≤ rk) (s1 : ls.size ≤ maxLen) (s2 : rs.size ≤ maxLen) (r1 : IntRow .u16 w la l0 c0 lz) (r2 : IntRow .u16 w ra l1 c1 rz) (hi : lk % 6 = 5) (hj : rk % 6 = 0) :
    Calls Try.prog 16 #[.bool st, .int .u8 lk, .bool lb, .float .f64 ln, .string ls, .slice la l0 c0, .int .u8 rk, .bool rb, .float .f64 rn, .string rs, .slice ra l1 c1] w fun e w' => e = .returned (.tuple #[.bool (eqv st 5 0 lb rb ln rn ls rs lz rz).1, .bool (eqv st 5 0 lb rb ln rn ls rs lz rz).2]) ∧ ∃ n, w' = w.drewN n := by
  clear r1 r2 s1 s2
  cases st
  all_goals
    go_enter Try.func16, Try.ntmps16
    go_wp2_with (first | (go_at_call 58; refine (one58 _ _).mono ?_; rintro e w' ⟨rfl, rfl⟩))
    go_ret2
    first | exact ⟨rfl, 0, rfl⟩ | exact ⟨rfl, _, rfl⟩ | (refine ⟨ret2 ?_ ?_, _, rfl⟩ <;> simp [eqv])
set_option maxHeartbeats 2000000 in
theorem mo51 (st : Bool) (lk rk : Int) (lb rb : Bool) (ln rn : Nat) (ls rs : ByteArray) (la ra : Option Addr) (l0 c0 l1 c1 : Nat) (lz rz : List Int) (w : World) (h0 : 0 ≤ lk) (h1 : 0 ≤ rk) (s1 : ls.size ≤ maxLen) (s2 : rs.size ≤ maxLen) (r1 : IntRow .u16 w la l0 c0 lz) (r2 : IntRow .u16 w ra l1 c1 rz) (hi : lk % 6 = 5) (hj : rk % 6 = 1) :
    Calls Try.prog 16 #[.bool st, .int .u8 lk, .bool lb, .float .f64 ln, .string ls, .slice la l0 c0, .int .u8 rk, .bool rb, .float .f64 rn, .string rs, .slice ra l1 c1] w fun e w' => e = .returned (.tuple #[.bool (eqv st 5 1 lb rb ln rn ls rs lz rz).1, .bool (eqv st 5 1 lb rb ln rn ls rs lz rz).2]) ∧ ∃ n, w' = w.drewN n := by
  clear r1 r2 s1 s2
  cases st
  all_goals
    go_enter Try.func16, Try.ntmps16
    go_wp2_with (first | (go_at_call 58; refine (one58 _ _).mono ?_; rintro e w' ⟨rfl, rfl⟩))
    go_ret2
    first | exact ⟨rfl, 0, rfl⟩ | exact ⟨rfl, _, rfl⟩ | (refine ⟨ret2 ?_ ?_, _, rfl⟩ <;> simp [eqv])
set_option maxHeartbeats 2000000 in
theorem mo52 (st : Bool) (lk rk : Int) (lb rb : Bool) (ln rn : Nat) (ls rs : ByteArray) (la ra : Option Addr) (l0 c0 l1 c1 : Nat) (lz rz : List Int) (w : World) (h0 : 0 ≤ lk) (h1 : 0 ≤ rk) (s1 : ls.size ≤ maxLen) (s2 : rs.size ≤ maxLen) (r1 : IntRow .u16 w la l0 c0 lz) (r2 : IntRow .u16 w ra l1 c1 rz) (hi : lk % 6 = 5) (hj : rk % 6 = 2) :
    Calls Try.prog 16 #[.bool st, .int .u8 lk, .bool lb, .float .f64 ln, .string ls, .slice la l0 c0, .int .u8 rk, .bool rb, .float .f64 rn, .string rs, .slice ra l1 c1] w fun e w' => e = .returned (.tuple #[.bool (eqv st 5 2 lb rb ln rn ls rs lz rz).1, .bool (eqv st 5 2 lb rb ln rn ls rs lz rz).2]) ∧ ∃ n, w' = w.drewN n := by
  clear r1 r2 s1 s2
  cases st
  all_goals
    go_enter Try.func16, Try.ntmps16
    go_wp2_with (first | (go_at_call 58; refine (one58 _ _).mono ?_; rintro e w' ⟨rfl, rfl⟩))
    go_ret2
    first | exact ⟨rfl, 0, rfl⟩ | exact ⟨rfl, _, rfl⟩ | (refine ⟨ret2 ?_ ?_, _, rfl⟩ <;> simp [eqv])
set_option maxHeartbeats 2000000 in
theorem mo53 (st : Bool) (lk rk : Int) (lb rb : Bool) (ln rn : Nat) (ls rs : ByteArray) (la ra : Option Addr) (l0 c0 l1 c1 : Nat) (lz rz : List Int) (w : World) (h0 : 0 ≤ lk) (h1 : 0 ≤ rk) (s1 : ls.size ≤ maxLen) (s2 : rs.size ≤ maxLen) (r1 : IntRow .u16 w la l0 c0 lz) (r2 : IntRow .u16 w ra l1 c1 rz) (hi : lk % 6 = 5) (hj : rk % 6 = 3) :
    Calls Try.prog 16 #[.bool st, .int .u8 lk, .bool lb, .float .f64 ln, .string ls, .slice la l0 c0, .int .u8 rk, .bool rb, .float .f64 rn, .string rs, .slice ra l1 c1] w fun e w' => e = .returned (.tuple #[.bool (eqv st 5 3 lb rb ln rn ls rs lz rz).1, .bool (eqv st 5 3 lb rb ln rn ls rs lz rz).2]) ∧ ∃ n, w' = w.drewN n := by
  clear r1 r2 s1 s2
  cases st
  all_goals
    go_enter Try.func16, Try.ntmps16
    go_wp2_with (first | (go_at_call 58; refine (one58 _ _).mono ?_; rintro e w' ⟨rfl, rfl⟩))
    go_ret2
    first | exact ⟨rfl, 0, rfl⟩ | exact ⟨rfl, _, rfl⟩ | (refine ⟨ret2 ?_ ?_, _, rfl⟩ <;> simp [eqv])
set_option maxHeartbeats 2000000 in
theorem mo54 (st : Bool) (lk rk : Int) (lb rb : Bool) (ln rn : Nat) (ls rs : ByteArray) (la ra : Option Addr) (l0 c0 l1 c1 : Nat) (lz rz : List Int) (w : World) (h0 : 0 ≤ lk) (h1 : 0 ≤ rk) (s1 : ls.size ≤ maxLen) (s2 : rs.size ≤ maxLen) (r1 : IntRow .u16 w la l0 c0 lz) (r2 : IntRow .u16 w ra l1 c1 rz) (hi : lk % 6 = 5) (hj : rk % 6 = 4) :
    Calls Try.prog 16 #[.bool st, .int .u8 lk, .bool lb, .float .f64 ln, .string ls, .slice la l0 c0, .int .u8 rk, .bool rb, .float .f64 rn, .string rs, .slice ra l1 c1] w fun e w' => e = .returned (.tuple #[.bool (eqv st 5 4 lb rb ln rn ls rs lz rz).1, .bool (eqv st 5 4 lb rb ln rn ls rs lz rz).2]) ∧ ∃ n, w' = w.drewN n := by
  clear r1 r2 s1 s2
  cases st
  all_goals
    go_enter Try.func16, Try.ntmps16
    go_wp2_with (first | (go_at_call 58; refine (one58 _ _).mono ?_; rintro e w' ⟨rfl, rfl⟩))
    go_ret2
    first | exact ⟨rfl, 0, rfl⟩ | exact ⟨rfl, _, rfl⟩ | (refine ⟨ret2 ?_ ?_, _, rfl⟩ <;> simp [eqv])
set_option maxHeartbeats 2000000 in
theorem mo55 (st : Bool) (lk rk : Int) (lb rb : Bool) (ln rn : Nat) (ls rs : ByteArray) (la ra : Option Addr) (l0 c0 l1 c1 : Nat) (lz rz : List Int) (w : World) (h0 : 0 ≤ lk) (h1 : 0 ≤ rk) (s1 : ls.size ≤ maxLen) (s2 : rs.size ≤ maxLen) (r1 : IntRow .u16 w la l0 c0 lz) (r2 : IntRow .u16 w ra l1 c1 rz) (hi : lk % 6 = 5) (hj : rk % 6 = 5) :
    Calls Try.prog 16 #[.bool st, .int .u8 lk, .bool lb, .float .f64 ln, .string ls, .slice la l0 c0, .int .u8 rk, .bool rb, .float .f64 rn, .string rs, .slice ra l1 c1] w fun e w' => e = .returned (.tuple #[.bool (eqv st 5 5 lb rb ln rn ls rs lz rz).1, .bool (eqv st 5 5 lb rb ln rn ls rs lz rz).2]) ∧ ∃ n, w' = w.drewN n := by
  have HE := Lib.hid (eq57 la l0 c0 lz ra l1 c1 rz w r1 r2)
  clear r1 r2 s1 s2
  go_enter Try.func16, Try.ntmps16
  go_wp2_with fail
  refine HE.out.mono ?_
  rintro e w' ⟨rfl, m, rfl⟩
  go_wp2_with fail
  go_ret2
  exact ⟨rfl, _, rfl⟩
theorem mo_any (st : Bool) (lk rk : Int) (lb rb : Bool) (ln rn : Nat) (ls rs : ByteArray) (la ra : Option Addr) (l0 c0 l1 c1 : Nat) (lz rz : List Int) (w : World) (h0 : 0 ≤ lk) (h1 : 0 ≤ rk) (s1 : ls.size ≤ maxLen) (s2 : rs.size ≤ maxLen) (r1 : IntRow .u16 w la l0 c0 lz) (r2 : IntRow .u16 w ra l1 c1 rz) :
    Calls Try.prog 16 #[.bool st, .int .u8 lk, .bool lb, .float .f64 ln, .string ls, .slice la l0 c0, .int .u8 rk, .bool rb, .float .f64 rn, .string rs, .slice ra l1 c1] w fun e w' => e = .returned (.tuple #[.bool (eqv st (lk % 6) (rk % 6) lb rb ln rn ls rs lz rz).1, .bool (eqv st (lk % 6) (rk % 6) lb rb ln rn ls rs lz rz).2]) ∧ ∃ n, w' = w.drewN n := by
  have hc : lk % 6 = 0 ∨ lk % 6 = 1 ∨ lk % 6 = 2 ∨ lk % 6 = 3 ∨ lk % 6 = 4 ∨ lk % 6 = 5 := by omega
  have hd : rk % 6 = 0 ∨ rk % 6 = 1 ∨ rk % 6 = 2 ∨ rk % 6 = 3 ∨ rk % 6 = 4 ∨ rk % 6 = 5 := by omega
  rcases hc with h | h | h | h | h | h <;> rcases hd with h' | h' | h' | h' | h' | h'
  · rw [h, h']; exact mo00 st lk rk lb rb ln rn ls rs la ra l0 c0 l1 c1 lz rz w h0 h1 s1 s2 r1 r2 h h'
  · rw [h, h']; exact mo01 st lk rk lb rb ln rn ls rs la ra l0 c0 l1 c1 lz rz w h0 h1 s1 s2 r1 r2 h h'
  · rw [h, h']; exact mo02 st lk rk lb rb ln rn ls rs la ra l0 c0 l1 c1 lz rz w h0 h1 s1 s2 r1 r2 h h'
  · rw [h, h']; exact mo03 st lk rk lb rb ln rn ls rs la ra l0 c0 l1 c1 lz rz w h0 h1 s1 s2 r1 r2 h h'
  · rw [h, h']; exact mo04 st lk rk lb rb ln rn ls rs la ra l0 c0 l1 c1 lz rz w h0 h1 s1 s2 r1 r2 h h'
  · rw [h, h']; exact mo05 st lk rk lb rb ln rn ls rs la ra l0 c0 l1 c1 lz rz w h0 h1 s1 s2 r1 r2 h h'
  · rw [h, h']; exact mo10 st lk rk lb rb ln rn ls rs la ra l0 c0 l1 c1 lz rz w h0 h1 s1 s2 r1 r2 h h'
  · rw [h, h']; exact mo11 st lk rk lb rb ln rn ls rs la ra l0 c0 l1 c1 lz rz w h0 h1 s1 s2 r1 r2 h h'
  · rw [h, h']; exact mo12 st lk rk lb rb ln rn ls rs la ra l0 c0 l1 c1 lz rz w h0 h1 s1 s2 r1 r2 h h'
  · rw [h, h']; exact mo13 st lk rk lb rb ln rn ls rs la ra l0 c0 l1 c1 lz rz w h0 h1 s1 s2 r1 r2 h h'
  · rw [h, h']; exact mo14 st lk rk lb rb ln rn ls rs la ra l0 c0 l1 c1 lz rz w h0 h1 s1 s2 r1 r2 h h'
  · rw [h, h']; exact mo15 st lk rk lb rb ln rn ls rs la ra l0 c0 l1 c1 lz rz w h0 h1 s1 s2 r1 r2 h h'
  · rw [h, h']; exact mo20 st lk rk lb rb ln rn ls rs la ra l0 c0 l1 c1 lz rz w h0 h1 s1 s2 r1 r2 h h'
  · rw [h, h']; exact mo21 st lk rk lb rb ln rn ls rs la ra l0 c0 l1 c1 lz rz w h0 h1 s1 s2 r1 r2 h h'
  · rw [h, h']; exact mo22 st lk rk lb rb ln rn ls rs la ra l0 c0 l1 c1 lz rz w h0 h1 s1 s2 r1 r2 h h'
  · rw [h, h']; exact mo23 st lk rk lb rb ln rn ls rs la ra l0 c0 l1 c1 lz rz w h0 h1 s1 s2 r1 r2 h h'
  · rw [h, h']; exact mo24 st lk rk lb rb ln rn ls rs la ra l0 c0 l1 c1 lz rz w h0 h1 s1 s2 r1 r2 h h'
  · rw [h, h']; exact mo25 st lk rk lb rb ln rn ls rs la ra l0 c0 l1 c1 lz rz w h0 h1 s1 s2 r1 r2 h h'
  · rw [h, h']; exact mo30 st lk rk lb rb ln rn ls rs la ra l0 c0 l1 c1 lz rz w h0 h1 s1 s2 r1 r2 h h'
  · rw [h, h']; exact mo31 st lk rk lb rb ln rn ls rs la ra l0 c0 l1 c1 lz rz w h0 h1 s1 s2 r1 r2 h h'
  · rw [h, h']; exact mo32 st lk rk lb rb ln rn ls rs la ra l0 c0 l1 c1 lz rz w h0 h1 s1 s2 r1 r2 h h'
  · rw [h, h']; exact mo33 st lk rk lb rb ln rn ls rs la ra l0 c0 l1 c1 lz rz w h0 h1 s1 s2 r1 r2 h h'
  · rw [h, h']; exact mo34 st lk rk lb rb ln rn ls rs la ra l0 c0 l1 c1 lz rz w h0 h1 s1 s2 r1 r2 h h'
  · rw [h, h']; exact mo35 st lk rk lb rb ln rn ls rs la ra l0 c0 l1 c1 lz rz w h0 h1 s1 s2 r1 r2 h h'
  · rw [h, h']; exact mo40 st lk rk lb rb ln rn ls rs la ra l0 c0 l1 c1 lz rz w h0 h1 s1 s2 r1 r2 h h'
  · rw [h, h']; exact mo41 st lk rk lb rb ln rn ls rs la ra l0 c0 l1 c1 lz rz w h0 h1 s1 s2 r1 r2 h h'
  · rw [h, h']; exact mo42 st lk rk lb rb ln rn ls rs la ra l0 c0 l1 c1 lz rz w h0 h1 s1 s2 r1 r2 h h'
  · rw [h, h']; exact mo43 st lk rk lb rb ln rn ls rs la ra l0 c0 l1 c1 lz rz w h0 h1 s1 s2 r1 r2 h h'
  · rw [h, h']; exact mo44 st lk rk lb rb ln rn ls rs la ra l0 c0 l1 c1 lz rz w h0 h1 s1 s2 r1 r2 h h'
  · rw [h, h']; exact mo45 st lk rk lb rb ln rn ls rs la ra l0 c0 l1 c1 lz rz w h0 h1 s1 s2 r1 r2 h h'
  · rw [h, h']; exact mo50 st lk rk lb rb ln rn ls rs la ra l0 c0 l1 c1 lz rz w h0 h1 s1 s2 r1 r2 h h'
  · rw [h, h']; exact mo51 st lk rk lb rb ln rn ls rs la ra l0 c0 l1 c1 lz rz w h0 h1 s1 s2 r1 r2 h h'
  · rw [h, h']; exact mo52 st lk rk lb rb ln rn ls rs la ra l0 c0 l1 c1 lz rz w h0 h1 s1 s2 r1 r2 h h'
  · rw [h, h']; exact mo53 st lk rk lb rb ln rn ls rs la ra l0 c0 l1 c1 lz rz w h0 h1 s1 s2 r1 r2 h h'
  · rw [h, h']; exact mo54 st lk rk lb rb ln rn ls rs la ra l0 c0 l1 c1 lz rz w h0 h1 s1 s2 r1 r2 h h'
  · rw [h, h']; exact mo55 st lk rk lb rb ln rn ls rs la ra l0 c0 l1 c1 lz rz w h0 h1 s1 s2 r1 r2 h h'
end Go.Proofs.Ytflfeffbckleaaa.lits
