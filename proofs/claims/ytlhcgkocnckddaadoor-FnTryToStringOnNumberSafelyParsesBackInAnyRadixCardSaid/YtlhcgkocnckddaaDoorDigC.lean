/- The contracts of 'isPowerOfTwo', 'TrailingZeros' and the plain side of 'formatBits': the row of 65 bytes. No conditions beyond the hypotheses. -/
import Derived.Test.YtlhcgkocnckddaaDoorDigP
import Derived.Laws.BitsAllLaws
import Derived.Laws.IdiomStrings
import Derived.Lib.LaidTab
namespace Go.Proofs.YtlhcgkocnckddaaDoor.dig
open Go.ChangeShapes Go.WideShapes Go.ChangeAt Go.RowKit Go.Mine
set_option linter.unusedVariables false
set_option linter.unusedSimpArgs false
set_option maxRecDepth 100000

def txt (b u : Nat) : List UInt8 := (digs b u).map ch
theorem txt_big {b u : Nat} (hb : 2 ≤ b) (h : b ≤ u) : txt b u = txt b (u / b) ++ [ch (u % b)] := by unfold txt; rw [digs_big hb h]; simp
theorem txt_small {b u : Nat} (h : u < b) : txt b u = [ch u] := by unfold txt; rw [digs_small h]; rfl
theorem txt_len (b : Nat) (hb : 2 ≤ b) (u : Nat) (h : u ≤ 2147483648) : 1 ≤ (txt b u).length ∧ (txt b u).length ≤ 32 := by
  unfold txt
  rw [List.length_map]
  exact digs_len b hb 31 u (by omega)
def isP (b : Nat) : Bool := b == 2 || b == 4 || b == 8 || b == 16 || b == 32
/-- The row of 65 bytes. -/
structure Arr (w : World) (R : Nat) (G : Nat → Int) : Prop where
  cell : ∀ t, t < 65 → w.cell? ⟨R, t, none⟩ = some (.int .u8 (G t))
  free : ∀ t, t < 65 → w.frozen? ⟨R, t, none⟩ = false
  lt : R < w.heap.size
def upd (G : Nat → Int) (i : Nat) (z : Int) : Nat → Int := fun t => if t = i then z else G t
def Fits (G : Nat → Int) (bs : List UInt8) : Prop := bs.length ≤ 65 ∧ ∀ j (h : j < bs.length), G (65 - bs.length + j) = ((bs[j]).toNat : Int)
theorem Fits.nil (G : Nat → Int) : Fits G [] := ⟨by simp, fun j h => by simp at h⟩
theorem Fits.cons {G : Nat → Int} {bs : List UInt8} (h : Fits G bs) (hl : bs.length < 65) (c : UInt8) : Fits (upd G (65 - bs.length - 1) (c.toNat : Int)) (c :: bs) := by
  refine ⟨by simp; omega, fun j hj => ?_⟩
  unfold upd
  cases j with
  | zero =>
    simp only [List.length_cons]
    rw [if_pos (by omega)]
    rfl
  | succ j =>
    simp only [List.length_cons] at hj ⊢
    rw [if_neg (by omega)]
    have := h.2 j (by omega)
    rw [show 65 - (bs.length + 1) + (j + 1) = 65 - bs.length + j by omega, this]
    rfl
theorem Arr.set {w : World} {R : Nat} {G : Nat → Int} (h : Arr w R G) (i : Nat) (hi : i < 65) (z : Int) : Arr (w.setCell ⟨R, i, none⟩ (.int .u8 z)) R (upd G i z) := by
  refine ⟨fun t ht => ?_, fun t ht => ?_, by simp; exact h.lt⟩
  · unfold upd
    by_cases e : t = i
    · subst e
      rw [if_pos rfl]
      have := h.cell t ht
      simp [go_sem, this]
    · rw [if_neg e]
      have := h.cell t ht
      simp [go_sem, this, e]
  · have := h.free t ht
    simp [go_sem, this]
theorem Arr.drew {w : World} {R : Nat} {G : Nat → Int} (h : Arr w R G) : Arr w.drew R G := ⟨h.cell, h.free, h.lt⟩
def D36 : ByteArray := "0123456789abcdefghijklmnopqrstuvwxyz".toUTF8
theorem D36_size : D36.size = 36 := by decide +kernel
theorem D36_all : ∀ d : Fin 36, D36.data.toList.getD d.val 0 = ch d.val := by decide +kernel
theorem idx36 {P : Program} (t : TypeId) (ht : P.underlying t = some .string) (k : IntKind) (z : Int) (d : Nat) (hz : z = (d : Int)) (hd : d < 36) (w : World) :
    (Instr.index t (.string D36) (.int k z)).run P w = .ok (.int .u8 ((ch d).toNat : Int)) w := by
  subst hz
  rw [run_index_string w t D36 k _ ht, dif_pos ⟨by omega, by rw [D36_size]; omega⟩]
  have e : ((d : Int)).toNat = d := by omega
  simp only [e]
  have h1 := D36_all ⟨d, hd⟩
  simp only at h1
  have h2 : D36[d]'(by rw [D36_size]; exact hd) = D36.data.toList.getD d 0 := Lib.getD_at D36 d (by rw [D36_size]; exact hd)
  rw [h2, h1]
set_option maxHeartbeats 1000000 in
theorem isPow (b : Nat) (hb : 2 ≤ b ∧ b ≤ 36) (w : World) : Calls Tryd.prog 20 #[.int .i64 b] w fun e w' => e = .returned (.bool (isP b)) ∧ w = w' := by
  obtain ⟨d, hd, rfl⟩ : ∃ d, d < 35 ∧ b = d + 2 := ⟨b - 2, by omega, by omega⟩
  have all : ∀ d : Fin 35, (bits .and .i64 ((d.val + 2 : Nat) : Int) (((d.val + 2 : Nat) : Int) - 1) == 0) = isP (d.val + 2) := by decide +kernel
  have h := all ⟨d, hd⟩
  simp only at h
  generalize hz : d + 2 = z at *
  generalize isP z = r at *
  clear all
  go_enter Tryd.func20, Tryd.ntmps20
  go_wp2_with fail
  go_ret
  exact ⟨rfl, rfl⟩
/-- The five cells of the table of 'TrailingZeros64' that are read. -/
structure Tz (w : World) : Prop where
  c1 : w.cell? ⟨3, 1, none⟩ = some (.int .u8 1)
  c2 : w.cell? ⟨3, 3, none⟩ = some (.int .u8 2)
  c3 : w.cell? ⟨3, 7, none⟩ = some (.int .u8 3)
  c4 : w.cell? ⟨3, 15, none⟩ = some (.int .u8 4)
  c5 : w.cell? ⟨3, 31, none⟩ = some (.int .u8 5)
set_option maxHeartbeats 1000000 in
theorem tz64_2 (w : World) (h : Tz w) : Calls Tryd.prog 23 #[.int .u64 2] w fun e w' => e = .returned (.int .i64 1) ∧ w = w' := by
  have hc := h.c1
  have h1 : bits .and .u64 2 (IntKind.u64.wrap (-2)) = 2 := by decide +kernel
  have h2 : IntKind.u64.wrap (2 * 285870213051353865) / 288230376151711744 = 1 := by decide +kernel
  clear h
  go_enter Tryd.func23, Tryd.ntmps23
  go_wp2_with fail
  go_ret
  exact ⟨rfl, rfl⟩
theorem tz_2 (w : World) (h : Tz w) : Calls Tryd.prog 21 #[.int .u64 2] w fun e w' => e = .returned (.int .i64 1) ∧ w = w' := by
  have H := Lib.hid (tz64_2 w h)
  clear h
  go_enter Tryd.func21, Tryd.ntmps21
  go_wp2_with fail
  refine H.out.mono ?_
  rintro e w' ⟨rfl, rfl⟩
  go_wp2_with fail
  go_ret
  exact ⟨rfl, rfl⟩
set_option maxHeartbeats 1000000 in
theorem tz64_4 (w : World) (h : Tz w) : Calls Tryd.prog 23 #[.int .u64 4] w fun e w' => e = .returned (.int .i64 2) ∧ w = w' := by
  have hc := h.c2
  have h1 : bits .and .u64 4 (IntKind.u64.wrap (-4)) = 4 := by decide +kernel
  have h2 : IntKind.u64.wrap (4 * 285870213051353865) / 288230376151711744 = 3 := by decide +kernel
  clear h
  go_enter Tryd.func23, Tryd.ntmps23
  go_wp2_with fail
  go_ret
  exact ⟨rfl, rfl⟩
theorem tz_4 (w : World) (h : Tz w) : Calls Tryd.prog 21 #[.int .u64 4] w fun e w' => e = .returned (.int .i64 2) ∧ w = w' := by
  have H := Lib.hid (tz64_4 w h)
  clear h
  go_enter Tryd.func21, Tryd.ntmps21
  go_wp2_with fail
  refine H.out.mono ?_
  rintro e w' ⟨rfl, rfl⟩
  go_wp2_with fail
  go_ret
  exact ⟨rfl, rfl⟩
set_option maxHeartbeats 1000000 in
theorem tz64_8 (w : World) (h : Tz w) : Calls Tryd.prog 23 #[.int .u64 8] w fun e w' => e = .returned (.int .i64 3) ∧ w = w' := by
  have hc := h.c3
  have h1 : bits .and .u64 8 (IntKind.u64.wrap (-8)) = 8 := by decide +kernel
  have h2 : IntKind.u64.wrap (8 * 285870213051353865) / 288230376151711744 = 7 := by decide +kernel
  clear h
  go_enter Tryd.func23, Tryd.ntmps23
  go_wp2_with fail
  go_ret
  exact ⟨rfl, rfl⟩
theorem tz_8 (w : World) (h : Tz w) : Calls Tryd.prog 21 #[.int .u64 8] w fun e w' => e = .returned (.int .i64 3) ∧ w = w' := by
  have H := Lib.hid (tz64_8 w h)
  clear h
  go_enter Tryd.func21, Tryd.ntmps21
  go_wp2_with fail
  refine H.out.mono ?_
  rintro e w' ⟨rfl, rfl⟩
  go_wp2_with fail
  go_ret
  exact ⟨rfl, rfl⟩
set_option maxHeartbeats 1000000 in
theorem tz64_16 (w : World) (h : Tz w) : Calls Tryd.prog 23 #[.int .u64 16] w fun e w' => e = .returned (.int .i64 4) ∧ w = w' := by
  have hc := h.c4
  have h1 : bits .and .u64 16 (IntKind.u64.wrap (-16)) = 16 := by decide +kernel
  have h2 : IntKind.u64.wrap (16 * 285870213051353865) / 288230376151711744 = 15 := by decide +kernel
  clear h
  go_enter Tryd.func23, Tryd.ntmps23
  go_wp2_with fail
  go_ret
  exact ⟨rfl, rfl⟩
theorem tz_16 (w : World) (h : Tz w) : Calls Tryd.prog 21 #[.int .u64 16] w fun e w' => e = .returned (.int .i64 4) ∧ w = w' := by
  have H := Lib.hid (tz64_16 w h)
  clear h
  go_enter Tryd.func21, Tryd.ntmps21
  go_wp2_with fail
  refine H.out.mono ?_
  rintro e w' ⟨rfl, rfl⟩
  go_wp2_with fail
  go_ret
  exact ⟨rfl, rfl⟩
set_option maxHeartbeats 1000000 in
theorem tz64_32 (w : World) (h : Tz w) : Calls Tryd.prog 23 #[.int .u64 32] w fun e w' => e = .returned (.int .i64 5) ∧ w = w' := by
  have hc := h.c5
  have h1 : bits .and .u64 32 (IntKind.u64.wrap (-32)) = 32 := by decide +kernel
  have h2 : IntKind.u64.wrap (32 * 285870213051353865) / 288230376151711744 = 31 := by decide +kernel
  clear h
  go_enter Tryd.func23, Tryd.ntmps23
  go_wp2_with fail
  go_ret
  exact ⟨rfl, rfl⟩
theorem tz_32 (w : World) (h : Tz w) : Calls Tryd.prog 21 #[.int .u64 32] w fun e w' => e = .returned (.int .i64 5) ∧ w = w' := by
  have H := Lib.hid (tz64_32 w h)
  clear h
  go_enter Tryd.func21, Tryd.ntmps21
  go_wp2_with fail
  refine H.out.mono ?_
  rintro e w' ⟨rfl, rfl⟩
  go_wp2_with fail
  go_ret
  exact ⟨rfl, rfl⟩
end Go.Proofs.YtlhcgkocnckddaaDoor.dig
