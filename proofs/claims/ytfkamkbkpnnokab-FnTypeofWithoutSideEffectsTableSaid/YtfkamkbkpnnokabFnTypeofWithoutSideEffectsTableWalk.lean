/- The walk of the law 'FnTypeofWithoutSideEffectsTable': it returns true and leaves what was there as it was. No conditions. -/
import Derived.Test.YtfkamkbkpnnokabRows
import Derived.Test.YtfkamkbkpnnokabLib
import Derived.Test.YtfkamkbkpnnokabAsserts
import Derived.Test.YtfkamkbkpnnokabClones
import Derived.Test.YtfkamkbkpnnokabTypeof
import Derived.Outline
namespace Go.Proofs.Ytfkamkbkpnnokab.fnTypeofWithoutSideEffectsTable
open Go.ChangeShapes Go.WideShapes Go.ChangeAt Go.RowKit Go.Mine
set_option linter.unusedVariables false
set_option maxRecDepth 100000

def blk (z : List Int) (k : Nat) : Bool := (z.take k).any fun c => c % 3 == 2
def rS (b : Bool) (k : Int) : ByteArray := if b then ⟨#[]⟩ else tyS k
def rB (b : Bool) (k : Int) : Bool := if b then false else tyB k
theorem blk_succ (z : List Int) (k : Nat) (h : k < z.length) : blk z (k + 1) = (blk z k || z[k] % 3 == 2) := by
  unfold blk; rw [List.take_succ_eq_append_getElem h, List.any_append]; simp

/-- What holds at the head of each round. -/
def Rel (a0 : Int) (z : List Int) (b : Option Addr) (W : World) (n pe : Nat) (k : Nat) (wr : World) : Prop :=
  ∃ T v, Blk wr pe #[.iface T v, .int .i32 0] 28 ∧ Says Try.prog (· = pe) 42 #[.iface T v] (.tuple #[.string (rS (blk z k) a0), .bool (rB (blk z k) a0)]) wr ∧ IntRow .u8 wr b n n z ∧ Below pe W wr

theorem set2 (a b x y : Value) : ((#[a, b] : Array Value).setIfInBounds 0 x).setIfInBounds 1 y = #[x, y] := by simp
theorem rel_step {a0 : Int} {z : List Int} {b : Option Addr} {W : World} {n pe k : Nat} {wr w' : World} {T' : Nat} {v' : Value}
    (hbl : ∀ x, b = some x → x.block ≠ pe) (h1 : Blk w' pe #[.iface T' v', .int .i32 0] 28) (h3 : IntRow .u8 wr b n n z) (h4 : Below pe W w')
    (h2 : Says Try.prog (· = pe) 42 #[.iface T' v'] (.tuple #[.string (rS (blk z (k + 1)) a0), .bool (rB (blk z (k + 1)) a0)]) w')
    (hs : Same (· = pe) wr w') : Rel a0 z b W n pe (k + 1) w' :=
  ⟨T', v', h1, h2, h3.same hs hbl, h4⟩
/-- The world behind a round: the variable turned to a new node. -/
def nxt (wr : World) (pe : Nat) (C : Array Value) (t T' : Nat) : World := ((wr.setCell ⟨pe, 0, none⟩ (.iface T' (.pointer (some ⟨wr.heap.size, 0, none⟩)))).setCell ⟨pe, 1, none⟩ (.int .i32 0)).alloc (.cells C t)
theorem size_set (w : World) (a : Addr) (v : Value) : (w.setCell a v).heap.size = w.heap.size := by simp [World.setCell]
theorem nxt_same (wr : World) (pe : Nat) (C : Array Value) (t T' : Nat) : Same (· = pe) wr (nxt wr pe C t T') := by
  unfold nxt
  refine Same.alloc (Same.setCell (p := ⟨pe, 1, none⟩) (Same.setCell (p := ⟨pe, 0, none⟩) (Same.refl _ _) ?_ _) ?_ _) _
  · rfl
  · rfl
theorem nxt_blk {wr : World} {pe : Nat} {D : Value} (C : Array Value) (t T' : Nat) (h1 : Blk wr pe #[D, .int .i32 0] 28) : Blk (nxt wr pe C t T') pe #[.iface T' (.pointer (some ⟨wr.heap.size, 0, none⟩)), .int .i32 0] 28 := by
  unfold nxt
  have h := (h1.set 0 (.iface T' (.pointer (some ⟨wr.heap.size, 0, none⟩)))).set 1 (.int .i32 0)
  rw [set2] at h
  exact h.alloc _
theorem nxt_node (wr : World) (pe : Nat) (C : Array Value) (t T' : Nat) : Blk (nxt wr pe C t T') wr.heap.size C t := by
  unfold nxt
  have h := Blk.new ((wr.setCell ⟨pe, 0, none⟩ (.iface T' (.pointer (some ⟨wr.heap.size, 0, none⟩)))).setCell ⟨pe, 1, none⟩ (.int .i32 0)) C t
  rw [size_set, size_set] at h
  exact h
theorem nxt_below {W wr : World} {pe : Nat} (C : Array Value) (t T' : Nat) (h : pe < wr.heap.size) (h4 : Below pe W wr) : Below pe W (nxt wr pe C t T') := by
  unfold nxt
  exact ((h4.setCell (Nat.le_refl _) _).setCell (Nat.le_refl _) _).alloc (by rw [size_set, size_set]; omega) _

theorem walk (a0 : Int) (a1 : Option Addr) (len1 cap1 : Nat) (z1 : List Int) (w : World) (w0 : (Lit.int .u8 a0).wf = true) (w1 : IntRow .u8 w a1 len1 cap1 z1) :
    Calls Try.prog 8 #[.int .u8 a0, .slice a1 len1 cap1] w fun e w' => e = .returned (.bool true) ∧ Below w.heap.size w w' := by
  obtain ⟨b0, b1⟩ := bounds_u8 w0
  have hl : len1 ≤ maxLen := Nat.le_trans w1.2.1 w1.2.2.1
  have m0 := hl
  unfold maxLen at m0
  have H1 := Lib.hid w1
  clear w0 w1
  go_enter Try.func8, Try.ntmps8
  go_wp2_with fail
  refine (bytes_any _ _ _ _ _ hl).mono ?_
  rintro e w' ⟨⟨r, rfl⟩, rfl⟩
  cases r with
  | false =>
    go_wp2_with fail
    go_ret
    exact ⟨rfl, Below.refl _ _⟩
  | true =>
    go_wp2_with fail
    all_goals try (go_ret; exact ⟨rfl, Below.refl _ _⟩)
    have q0 : len1 ≤ 4096 := by go_light; omega
    refine (clone40 _ _ _ z1 _ H1.out (by omega)).mono ?_
    rintro e w1 ⟨b, rfl, r0, y1, y2, hb1⟩
    have R0 := Lib.hid r0
    have B1 := Lib.hid hb1
    have Y2 := Lib.hid y2
    clear r0 y1 y2 hb1 hl
    go_wp2_with fail
    refine (leaf_any _ _ b0 b1).mono ?_
    rintro e w2 ⟨T, v, rfl, hb2, hsay⟩
    have hsay2 := hsay (· = w2.heap.size)
    have Y3 : ∀ x, b = some x → x.block ≠ w2.heap.size := fun x hx => by have := (Y2.out x hx).2.2.2; have := hb2.size; omega
    have B2 := Lib.hid (below2 B1.out hb2)
    have R1 := Lib.hid (R0.out.below hb2)
    have HY := Lib.hid Y3
    have HS := Lib.hid hsay2
    clear hsay hsay2 Y3 hb2
    go_wp2_with fail
    go_loopw [6, 7] (fun s i wr => ∃ k : Nat, k ≤ len1 ∧ i = .int .i64 k ∧ s = .bool (blk z1 k) ∧ Rel a0 z1 b w2 len1 w2.heap.size k wr) (fun _ i _ => len1 - (intOf i).toNat)
    case atStart => exact ⟨0, Nat.zero_le _, rfl, rfl, T, v, Blk.new _ _ _, HS.out.later (Same.of_below ((Below.refl _ _).alloc (Nat.le_refl _) _)), R1.out.below ((Below.refl _ _).alloc (Nat.le_refl _) _), (Below.refl _ _).alloc (Nat.le_refl _) _⟩
    case round =>
      obtain ⟨k, hk, rfl, rfl, T2, v2, k1, k2, k3, k4⟩ := hrel
      have K1 := Lib.hid k1
      have K2 := Lib.hid k2
      have K3 := Lib.hid k3
      have K4 := Lib.hid k4
      have d0 : wr.cell? ⟨w2.heap.size, 0, none⟩ = some (.iface T2 v2) := k1.cell 0
      have d1 : wr.cell? ⟨w2.heap.size, 1, none⟩ = some (.int .i32 0) := k1.cell 1
      have f0 := k1.free 0
      have f1 := k1.free 1
      have hpe := k1.lt
      clear k1 k2 k3 k4
      by_cases hlt : k < len1
      · obtain ⟨bb, oo, eb, hbb, hcb⟩ := K3.out.at hlt
        obtain ⟨x, hx⟩ : ∃ x, x = z1.getD k 0 := ⟨_, rfl⟩
        rw [← hx] at hcb
        have q : k < z1.length := by rw [K3.out.1]; exact hlt
        have ex : x = z1[k] := by rw [hx]; simp [q]
        have bx := bounds_u8 (K3.out.2.2.2.1 z1[k] (List.getElem_mem q))
        rw [← ex] at bx
        obtain ⟨bx0, bx1⟩ := bx
        have EX := Lib.hid (blk_succ z1 k q)
        rw [← ex] at EX
        clear hx ex q
        subst eb
        have hc : x % 3 = 0 ∨ x % 3 = 1 ∨ x % 3 = 2 := by omega
        rcases hc with h | h | h
        · have eb : blk z1 (k + 1) = blk z1 k := by rw [EX.out, h]; simp
          have EB := Lib.hid eb
          clear eb
          go_wp2
          go_roundw
          case rel =>
            go_light
            have hs := nxt_same wr w2.heap.size #[Value.iface T2 v2, Value.int IntKind.i32 0, Value.string { data := #[] }] 64 62
            exact ⟨k + 1, by omega, by go_num, by rw [EB.out], rel_step (T' := 62) HY.out (nxt_blk _ 64 62 K1.out) K3.out (nxt_below _ 64 62 hpe K4.out) (by rw [EB.out]; exact ty_inl (Nat.ne_of_gt hpe) (K2.out.later hs) ((nxt_node _ _ _ _ _).cell 0)) hs⟩
          case measure => simp [intOf]; omega
        · have eb : blk z1 (k + 1) = blk z1 k := by rw [EX.out, h]; simp
          have EB := Lib.hid eb
          clear eb
          go_wp2
          go_roundw
          case rel =>
            go_light
            have hs := nxt_same wr w2.heap.size #[Value.iface T2 v2, Value.int IntKind.i32 0, Value.int IntKind.u8 1] 68 65
            exact ⟨k + 1, by omega, by go_num, by rw [EB.out], rel_step (T' := 65) HY.out (nxt_blk _ 68 65 K1.out) K3.out (nxt_below _ 68 65 hpe K4.out) (by rw [EB.out]; exact ty_ann1 (Nat.ne_of_gt hpe) (K2.out.later hs) ((nxt_node _ _ _ _ _).cell 0) ((nxt_node _ _ _ _ _).cell 2)) hs⟩
          case measure => simp [intOf]; omega
        · have eb : blk z1 (k + 1) = true := by rw [EX.out, h]; simp
          have EB := Lib.hid eb
          clear eb
          go_wp2
          go_roundw
          case rel =>
            go_light
            have hs := nxt_same wr w2.heap.size #[Value.iface T2 v2, Value.int IntKind.i32 0, Value.int IntKind.u8 0] 68 65
            exact ⟨k + 1, by omega, by go_num, by rw [EB.out], rel_step (T' := 65) HY.out (nxt_blk _ 68 65 K1.out) K3.out (nxt_below _ 68 65 hpe K4.out) (by rw [EB.out]; exact ty_ann0 (Nat.ne_of_gt hpe) ((nxt_node _ _ _ _ _).cell 2)) hs⟩
          case measure => simp [intOf]; omega
      · have e : k = len1 := by omega
        subst e
        cases hbk : blk z1 k with
        | true =>
          rw [hbk] at K2
          have K5 : Hid (Says Try.prog (· = w2.heap.size) 42 #[.iface T2 v2] (.tuple #[.string ⟨#[]⟩, .bool false]) wr) := K2
          clear K2 hbk
          go_wp2_with fail
          refine (K5.out _ (Same.refl _ _)).mono ?_
          rintro e w3 ⟨rfl, hb3⟩
          have B3 := Lib.hid (B2.out.trans ((K4.out.mono B2.out.size).trans (hb3.mono (by have := B2.out.size; omega))))
          clear hb3
          go_wp2_with fail
          go_ret
          exact ⟨rfl, B3.out⟩
        | false =>
          rw [hbk] at K2
          obtain ⟨s, hs⟩ : ∃ s, s = tyS a0 := ⟨_, rfl⟩
          obtain ⟨ok, hok⟩ : ∃ ok, ok = tyB a0 := ⟨_, rfl⟩
          have K5 : Hid (Says Try.prog (· = w2.heap.size) 42 #[.iface T2 v2] (.tuple #[.string s, .bool ok]) wr) := by rw [hs, hok]; exact K2
          have HW : Hid (∀ w, Calls Try.prog 43 #[.int .u8 a0] w fun e w' => e = .returned (.tuple #[.string s, .bool ok]) ∧ w = w') := by rw [hs, hok]; exact fun w => want_any a0 w b0 b1
          clear K2 hbk hs hok
          go_wp2_with fail
          refine (K5.out _ (Same.refl _ _)).mono ?_
          rintro e w3 ⟨rfl, hb3⟩
          have B3 := Lib.hid (B2.out.trans ((K4.out.mono B2.out.size).trans (hb3.mono (by have := B2.out.size; omega))))
          clear hb3
          go_wp2_with fail
          refine (HW.out _).mono ?_
          rintro e w' ⟨rfl, rfl⟩
          go_wp2_with fail
          go_ret
          exact ⟨rfl, B3.out⟩
end Go.Proofs.Ytfkamkbkpnnokab.fnTypeofWithoutSideEffectsTable
