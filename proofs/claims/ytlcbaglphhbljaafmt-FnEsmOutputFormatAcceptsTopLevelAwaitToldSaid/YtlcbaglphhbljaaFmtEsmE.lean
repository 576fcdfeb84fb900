/- The contract of 'markSyntaxFeature' at top-level await, where the target supports it. No conditions beyond the hypotheses. -/
import Derived.Test.YtlcbaglphhbljaaFmtEsmD
import Derived.Stop.CallBack
import Derived.Stop.IfaceNil
import Derived.Stop.JoinedAt
import Derived.Stop.Texts
import Derived.Stop.JoinedTold
import Derived.SizedLaws
import Derived.Laws.BitsAllLaws
import Derived.Deep.DeepCutAuto
namespace Go.Proofs.YtlcbaglphhbljaaFmt.es
open Go.RowKit Go.Kit Go.Extern.Stop Go.Stop Go.Extern Go.Mine
set_option linter.unusedVariables false
set_option linter.unusedSimpArgs false
set_option maxRecDepth 100000

@[go_sem] theorem call15 (args : Array Value) (w : World) : (callFunc 15 args).run Tryf.prog w = ((FmtStop.sprintf #[9, 331] #[9] args).run Tryf.prog w).andThen fun v w' => .ok (.value v) w' :=
  run_callFunc_extern Tryf.func15 (by kernel_rfl) (by kernel_rfl) (by kernel_rfl) (by kernel_rfl) args w
@[go_sem] theorem guardOk (name : String) (w : World) : (FmtStop.guard name).run Tryf.prog w = .ok () w := by kernel_rfl
@[go_sem] theorem fmtA1 : FmtStop.printed? ⟨([84, 111, 112, 45, 108, 101, 118, 101, 108, 32, 97, 119, 97, 105, 116, 32, 105, 115, 32, 99, 117, 114, 114, 101, 110, 116, 108, 121, 32, 110, 111, 116, 32, 115].append [117, 112, 112, 111, 114, 116, 101, 100, 32, 119, 105, 116, 104, 32, 116, 104, 101, 32, 37, 113, 32, 111, 117, 116, 112, 117, 116, 32, 102, 111, 114, 109, 97, 116]).toArray⟩ 1 = some [(0, 113, false)] := by kernel_rfl
@[go_sem] theorem fmtAr1 (w : World) : (FmtDoors.printed ⟨([84, 111, 112, 45, 108, 101, 118, 101, 108, 32, 97, 119, 97, 105, 116, 32, 105, 115, 32, 99, 117, 114, 114, 101, 110, 116, 108, 121, 32, 110, 111, 116, 32, 115].append [117, 112, 112, 111, 114, 116, 101, 100, 32, 119, 105, 116, 104, 32, 116, 104, 101, 32, 37, 113, 32, 111, 117, 116, 112, 117, 116, 32, 102, 111, 114, 109, 97, 116]).toArray⟩ 1).run Tryf.prog w = .ok [(0, 113, false)] w := by kernel_rfl
@[go_sem] theorem fmtB1 : FmtStop.printed? ⟨([84, 111, 112, 45, 108, 101, 118, 101, 108, 32, 97, 119, 97, 105, 116, 32, 105, 115, 32, 99, 117, 114, 114, 101, 110, 116, 108, 121, 32, 110, 111, 116, 32, 115].append [117, 112, 112, 111, 114, 116, 101, 100, 32, 119, 105, 116, 104, 32, 116, 104, 101, 32, 37, 113, 32, 111, 117, 116, 112, 117, 116, 32, 102, 111, 114, 109, 97, 116]).toArray⟩ 0 = some [] := by kernel_rfl
@[go_sem] theorem fmtBr1 (w : World) : (FmtDoors.printed ⟨([84, 111, 112, 45, 108, 101, 118, 101, 108, 32, 97, 119, 97, 105, 116, 32, 105, 115, 32, 99, 117, 114, 114, 101, 110, 116, 108, 121, 32, 110, 111, 116, 32, 115].append [117, 112, 112, 111, 114, 116, 101, 100, 32, 119, 105, 116, 104, 32, 116, 104, 101, 32, 37, 113, 32, 111, 117, 116, 112, 117, 116, 32, 102, 111, 114, 109, 97, 116]).toArray⟩ 0).run Tryf.prog w = .ok [] w := by kernel_rfl
@[go_sem] theorem fmtA2 : FmtStop.printed? ⟨#[84, 111, 112, 45, 108, 101, 118, 101, 108, 32, 97, 119, 97, 105, 116, 32, 105, 115, 32, 99, 117, 114, 114, 101, 110, 116, 108, 121, 32, 110, 111, 116, 32, 115, 117, 112, 112, 111, 114, 116, 101, 100, 32, 119, 105, 116, 104, 32, 116, 104, 101, 32, 37, 113, 32, 111, 117, 116, 112, 117, 116, 32, 102, 111, 114, 109, 97, 116]⟩ 1 = some [(0, 113, false)] := by kernel_rfl
@[go_sem] theorem fmtAr2 (w : World) : (FmtDoors.printed ⟨#[84, 111, 112, 45, 108, 101, 118, 101, 108, 32, 97, 119, 97, 105, 116, 32, 105, 115, 32, 99, 117, 114, 114, 101, 110, 116, 108, 121, 32, 110, 111, 116, 32, 115, 117, 112, 112, 111, 114, 116, 101, 100, 32, 119, 105, 116, 104, 32, 116, 104, 101, 32, 37, 113, 32, 111, 117, 116, 112, 117, 116, 32, 102, 111, 114, 109, 97, 116]⟩ 1).run Tryf.prog w = .ok [(0, 113, false)] w := by kernel_rfl
@[go_sem] theorem fmtB2 : FmtStop.printed? ⟨#[84, 111, 112, 45, 108, 101, 118, 101, 108, 32, 97, 119, 97, 105, 116, 32, 105, 115, 32, 99, 117, 114, 114, 101, 110, 116, 108, 121, 32, 110, 111, 116, 32, 115, 117, 112, 112, 111, 114, 116, 101, 100, 32, 119, 105, 116, 104, 32, 116, 104, 101, 32, 37, 113, 32, 111, 117, 116, 112, 117, 116, 32, 102, 111, 114, 109, 97, 116]⟩ 0 = some [] := by kernel_rfl
@[go_sem] theorem fmtBr2 (w : World) : (FmtDoors.printed ⟨#[84, 111, 112, 45, 108, 101, 118, 101, 108, 32, 97, 119, 97, 105, 116, 32, 105, 115, 32, 99, 117, 114, 114, 101, 110, 116, 108, 121, 32, 110, 111, 116, 32, 115, 117, 112, 112, 111, 114, 116, 101, 100, 32, 119, 105, 116, 104, 32, 116, 104, 101, 32, 37, 113, 32, 111, 117, 116, 112, 117, 116, 32, 102, 111, 114, 109, 97, 116]⟩ 0).run Tryf.prog w = .ok [] w := by kernel_rfl
def shape9 : List UInt8 := [12, 6, 0, 0, 0, 0, 0, 0, 0, 115, 116, 114, 105, 110, 103]
@[go_sem] theorem op113 (name : String) (x : ByteArray) (w : World) : (FmtStop.operand name false 113 false (.iface 9 (.string x))).run Tryf.prog w = .ok (shape9, FmtStop.pack x.data.toList) w := by kernel_rfl
@[go_sem] theorem strict9 (name : String) (x : ByteArray) (w : World) : (FmtStop.strict name (.iface 9 (.string x))).run Tryf.prog w = .ok (shape9, FmtStop.pack x.data.toList) w := by kernel_rfl
theorem tla_bit (u : Int) (h1 : 0 ≤ u) (h2 : u < 18446744073709551616) : bits .and .u64 (bits .andNot .u64 u 144115188075855872) 144115188075855872 = 0 := by
  rw [u64_andNot u 144115188075855872 h1 h2 (by decide) (by decide)]
  have h3 : (u.toNat &&& (18446744073709551615 - (144115188075855872 : Int).toNat)) < 18446744073709551616 := Nat.lt_of_le_of_lt Nat.and_le_left (by omega)
  rw [u64_and _ 144115188075855872 (by omega) (by omega) (by decide) (by decide), Int.toNat_natCast, Nat.and_assoc]
  have h4 : ((18446744073709551615 - (144115188075855872 : Int).toNat) &&& (144115188075855872 : Int).toNat) = 0 := by decide
  rw [h4, Nat.and_zero]
  rfl
theorem c12 (u : Int) (w : World) (h : bits .and .u64 u 144115188075855872 = 0) : Calls Tryf.prog 12 #[.int .u64 u, .int .u64 144115188075855872] w fun e w' => e = .returned (.bool false) ∧ w = w' := by
  go_enter Tryf.func12, Tryf.ntmps12
  go_wp2
  go_ret
  exact ⟨by simp [h], rfl⟩
theorem c13 (f : Int) (w : World) : Calls Tryf.prog 13 #[.int .u8 f] w fun e w' => e = .returned (.bool (f == 0 || f == 3)) ∧ w = w' := by
  by_cases h0 : f = 0
  · subst h0
    go_enter Tryf.func13, Tryf.ntmps13
    go_wp2
    go_ret
    exact ⟨rfl, rfl⟩
  · by_cases h3 : f = 3
    · subst h3
      go_enter Tryf.func13, Tryf.ntmps13
      go_wp2
      go_ret
      exact ⟨rfl, rfl⟩
    · have e0 : (f == 0) = false := by simpa using h0
      have e3 : (f == 3) = false := by simpa using h3
      go_enter Tryf.func13, Tryf.ntmps13
      go_wp2
      go_ret
      exact ⟨by simp [e0, e3], rfl⟩
theorem c16 (f : Int) (w : World) (hf : f = 1 ∨ f = 2) : Calls Tryf.prog 16 #[.int .u8 f] w fun e w' => (∃ s : ByteArray, e = .returned (.string s)) ∧ w = w' := by
  rcases hf with rfl | rfl
  all_goals
    go_enter Tryf.func16, Tryf.ntmps16
    go_wp2
    go_ret
    exact ⟨⟨_, rfl⟩, rfl⟩
set_option maxHeartbeats 4000000 in
theorem c9N (p n : Nat) (f u : Int) (C : Array Value) (w : World) (hf : f = 0 ∨ f = 3) (hu : bits .and .u64 u 144115188075855872 = 0) (hb : Blk w p C 165) (hp : Par n f u C) :
    Calls Tryf.prog 9 #[.pointer (some ⟨p, 0, none⟩), .int .u64 144115188075855872, .agg #[.int .i32 0, .int .i32 0]] w fun e w' => e = .returned (.bool false) ∧ Below w.heap.size w w' := by
  have n36 := (hb.cell 36).trans hp.fm
  have n23 := (hb.cell 23).trans hp.un
  have fl := hb.lt
  have fl1 : p < w.heap.size + 1 := by omega
  have hz : (f == 0 || f == 3) = true := by rcases hf with rfl | rfl <;> rfl
  clear hb hp
  go_enter Tryf.func9, Tryf.ntmps9
  go_wp2_with (first | (go_at_call 12; refine (c12 _ _ hu).mono ?_; rintro e w1 ⟨rfl, rfl⟩) | (go_at_call 13; refine (c13 _ _).mono ?_; rintro e w1 ⟨rfl, rfl⟩; rw [hz]))
  go_ret
  exact ⟨rfl, (Below.refl _ _).alloc (Nat.le_refl _) _⟩
end Go.Proofs.YtlcbaglphhbljaaFmt.es
