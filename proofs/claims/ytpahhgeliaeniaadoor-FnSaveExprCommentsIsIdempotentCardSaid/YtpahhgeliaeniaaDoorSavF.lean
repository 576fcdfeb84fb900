/- The contracts of the wrapper round 'saveExprCommentsHere' and of the bound that is looked at first. No conditions beyond the hypotheses. -/
import Derived.Test.YtpahhgeliaeniaaDoorSavE
namespace Go.Proofs.YtpahhgeliaeniaaDoor.sav
open Go.ChangeShapes Go.WideShapes Go.ChangeAt Go.RowKit Go.Mine Go.Maps
set_option linter.unusedVariables false
set_option linter.unusedSimpArgs false
set_option maxRecDepth 100000

set_option maxHeartbeats 2000000 in
theorem idle7 (p : Nat) (w : World) (h : ∀ w', Below w.heap.size w w' → Calls Tryd.prog 10 #[.pointer (some ⟨p, 0, none⟩)] w' (Idle w')) :
    Calls Tryd.prog 7 #[.pointer (some ⟨p, 0, none⟩)] w (Idle w) := by
  have hA : Below w.heap.size w (w.alloc (.cells #[.int .i32 0] 28)) := (Below.refl _ _).alloc (Nat.le_refl _) _
  have H := Lib.hid (h _ hA)
  have HA := Lib.hid hA
  clear h hA
  go_enter Tryd.func7, Tryd.ntmps7
  go_wp2_with fail
  refine H.out.mono ?_
  rintro e w2 ⟨rfl, hb⟩
  have hB := (Blk.new w #[.int .i32 0] 28).below hb
  have h3 := hB.cell 0
  have h4 := hB.free 0
  have h6 := (hB.set 0 (.int .i32 0)).cell 0
  simp at h3 h6
  have HB := Lib.hid (below2 HA.out hb)
  clear hb hB
  go_wp2_with fail
  exact bodyPost_ret (v := .agg #[.int .i32 0]) (by simp [results, Tryd.results7, go_sem, h6]; try (first | exact ⟨rfl, rfl⟩ | rfl)) rfl ⟨rfl, HB.out.setCell (Nat.le_refl _) _⟩
set_option maxHeartbeats 2000000 in
theorem saved7 (p m n g : Nat) (c : ByteArray) (f : Nat → Nat × Nat) (N : Nat) (D : DataW Value) (w : World) (hp : p < w.heap.size) (hm : m < w.heap.size)
    (h : ∀ w', Below w.heap.size w w' → Calls Tryd.prog 10 #[.pointer (some ⟨p, 0, none⟩)] w' (Saved p m n g c f N D w')) :
    Calls Tryd.prog 7 #[.pointer (some ⟨p, 0, none⟩)] w (Saved p m n g c f N D w) := by
  have hA : Below w.heap.size w (w.alloc (.cells #[.int .i32 0] 28)) := (Below.refl _ _).alloc (Nat.le_refl _) _
  have H := Lib.hid (h _ hA)
  have HA := Lib.hid hA
  clear h hA
  go_enter Tryd.func7, Tryd.ntmps7
  go_wp2_with fail
  refine H.out.mono ?_
  rintro e w2 ⟨S, rfl, hown, hS, hP, hss, hge, hbb⟩
  have hz : (w.alloc (.cells #[.int .i32 0] 28)).heap.size = w.heap.size + 1 := by simp
  rw [hz] at hge hbb
  have hB := (Blk.new w #[.int .i32 0] 28).same hss (by show ¬ (w.heap.size = p ∨ w.heap.size = m); omega)
  have h3 := hB.cell 0
  have h4 := hB.free 0
  have h6 := (hB.set 0 (.int .i32 0)).cell 0
  simp at h3 h6
  have hs3 : Same (· = w.heap.size) w2 (w2.setCell ⟨w.heap.size, 0, none⟩ (.int .i32 0)) := Same.setCell (X := (· = w.heap.size)) (p := ⟨w.heap.size, 0, none⟩) (Same.refl _ _) rfl _
  have HQ : Hid (Saved p m n g c f N D w (.returned (.agg #[.int .i32 0])) (w2.setCell ⟨w.heap.size, 0, none⟩ (.int .i32 0))) := Lib.hid
    ⟨S, rfl, Owns.same hown hs3 (by show ¬ m = w.heap.size; omega), hS.same hs3 (by show ¬ S = w.heap.size; omega), hP.same hs3 (by show ¬ p = w.heap.size; omega),
      ((Same.of_below HA.out).trans hss).setNew (p := ⟨w.heap.size, 0, none⟩) (Nat.le_refl _) _, by omega,
      fun B hp hm hw => ((HA.out.mono hw).trans (hbb B hp hm (by omega))).setCell (p := ⟨w.heap.size, 0, none⟩) hw _⟩
  clear hown hS hP hss hge hbb hB hs3
  go_wp2_with fail
  exact bodyPost_ret (v := .agg #[.int .i32 0]) (by simp [results, Tryd.results7, go_sem, h6]; try (first | exact ⟨rfl, rfl⟩ | rfl)) rfl HQ.out

def Bytes (l0 l1 l2 : Nat) (w : World) (e : Ending) (w' : World) : Prop := ∃ b : Bool, e = .returned (.bool b) ∧ w = w'
set_option maxHeartbeats 4000000 in
theorem bytes4 (s : ByteArray) (a1 a2 : Option Addr) (l1 l2 c1 c2 : Nat) (b : Bool) (w : World) (m0 : s.size ≤ 9223372036854775807) (m1 : l1 ≤ 9223372036854775807) (m2 : l2 ≤ 9223372036854775807) :
    Calls Tryd.prog 4 #[.string s, .slice a1 l1 c1, .slice a2 l2 c2, .bool b] w (Bytes s.size l1 l2 w) := by
  have hno : ∀ b, Bytes s.size l1 l2 w (.returned (.bool b)) w := fun b => ⟨b, rfl, rfl⟩
  have HN := Lib.hid hno
  clear hno
  by_cases h0 : s.size ≤ 1048576
  case neg =>
    go_enter Tryd.func4, Tryd.ntmps4
    go_wp2
    all_goals (go_ret; exact HN.out _)
  by_cases h1 : l1 ≤ 1048576
  case neg =>
    go_enter Tryd.func4, Tryd.ntmps4
    go_wp2
    all_goals (go_ret; exact HN.out _)
  by_cases h2 : l2 ≤ 1048576
  case neg =>
    go_enter Tryd.func4, Tryd.ntmps4
    go_wp2
    all_goals (go_ret; exact HN.out _)
  go_enter Tryd.func4, Tryd.ntmps4
  go_wp2
  all_goals (go_ret; exact HN.out _)
end Go.Proofs.YtpahhgeliaeniaaDoor.sav
