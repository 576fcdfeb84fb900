/- The contracts of 'HashCombine' and 'HashCombineString'. No conditions beyond their hypotheses. -/
import Derived.Test.YtiejadamfgbidaaRows
import Derived.Test.YtiejadamfgbidaaLib
import Derived.Lib.OthersKept
import Derived.Lib.DecodeN
import Derived.Outline
namespace Go.Proofs.Ytiejadamfgbidaa.dup
open Go.ChangeShapes Go.WideShapes Go.ChangeAt Go.RowKit Go.Mine
set_option linter.unusedVariables false
set_option maxRecDepth 100000

def hc (a b : Int) : Int := bits BinOp.xor IntKind.u32 a ((b + 2654435769 + a * 64 + a / 4) % 4294967296)
theorem hc58 (a b : Int) (w : World) : Calls Try.prog 58 #[.int .u32 a, .int .u32 b] w fun e w' => e = .returned (.int .u32 (hc a b)) ∧ w' = w := by
  go_enter Try.func58, Try.ntmps58
  go_wp2
  go_ret
  exact ⟨rfl, rfl⟩
/-- The runes of a string from pos on, combined. -/
def strH (s : ByteArray) : Nat → Nat → Int → Int
  | 0, _, h => h
  | f + 1, pos, h => if pos < s.size then strH s f (pos + (Utf8.decode s pos).2) (hc h ((Utf8.decode s pos).1 : Int)) else h
def hcs (h : Int) (s : ByteArray) : Int := strH s (s.size + 1) 0 (hc h (s.size : Int))
theorem strH_end (s : ByteArray) (f pos : Nat) (h : Int) (hp : ¬ pos < s.size) : strH s f pos h = h := by
  cases f with
  | zero => rfl
  | succ f => simp [strH, hp]
theorem iter_at (w : World) (s : ByteArray) : (w.iter s 0).heap[w.heap.size]? = some (.stringIter s 0) := World.iter_heap w s 0
theorem conts1 (n b0 b1 b2 b3 : Nat) : 1 ≤ (Lib.decodeN n b0 b1 b2 b3).2 := by
  unfold Lib.decodeN
  repeat' split
  all_goals simp
set_option maxHeartbeats 1000000 in
theorem hcs60 (h : Int) (s : ByteArray) (w : World) (hs : s.size ≤ 1048576) : Calls Try.prog 60 #[.int .u32 h, .string s] w fun e w' => e = .returned (.int .u32 (hcs h s)) ∧ Below w.heap.size w w' := by
  have C := Lib.hid hc58
  obtain ⟨r, hr⟩ : ∃ r, r = hcs h s := ⟨_, rfl⟩
  rw [← hr]
  obtain ⟨g0, hg0⟩ : ∃ g0, g0 = hc h (s.size : Int) := ⟨_, rfl⟩
  have HR : Hid (strH s (s.size + 1) 0 g0 = r) := by
    show strH s (s.size + 1) 0 g0 = r
    rw [hr, hg0]; rfl
  have C0 : Hid (∀ w, Calls Try.prog 58 #[.int .u32 h, .int .u32 (s.size : Int)] w fun e w' => e = .returned (.int .u32 g0) ∧ w' = w) := by
    rw [hg0]
    exact fun w => hc58 _ _ w
  clear hr hg0
  go_enter Try.func60, Try.ntmps60
  go_wp2_with (first | (go_at_call 58; refine (C0.out _).mono ?_; rintro e w' ⟨rfl, rfl⟩))
  go_loopg [0] (s.size + 1) (fun gf s0 wx => ∃ (pos : Nat) (acc : Int), s0 = .int .u32 acc ∧ wx.heap[w'.heap.size]? = some (.stringIter s pos) ∧ Below w'.heap.size w' wx ∧ Hid (strH s gf pos acc = r) ∧ s.size < pos + gf)
  case atStart => exact ⟨0, _, rfl, iter_at _ s, (Below.refl _ _).alloc (Nat.le_refl _) _, HR, by omega⟩
  case round =>
    obtain ⟨pos, acc, rfl, hit, hbw, hH, hfu⟩ := hrel
    by_cases hlt : pos < s.size
    · obtain ⟨g', rfl⟩ : ∃ g', gk = g' + 1 := ⟨gk - 1, by omega⟩
      have hnx : ∀ ty, (Instr.next (.pointer (some ⟨w'.heap.size, 0, none⟩)) true ty).run Try.prog wr = _ := fun ty => Lib.run_next_any_at wr _ s pos ty hit hlt
      have hK1 : 1 ≤ (Utf8.decode s pos).2 := by rw [Lib.decode_at]; exact conts1 _ _ _ _ _
      have hR1 := decode_le s pos
      have hst : strH s g' (pos + (Utf8.decode s pos).2) (hc acc ((Utf8.decode s pos).1 : Int)) = r := by
        have h := hH.out
        simp only [strH, hlt, if_true] at h
        exact h
      obtain ⟨K, hK⟩ : ∃ K, (Utf8.decode s pos).2 = K := ⟨_, rfl⟩
      obtain ⟨R, hR⟩ : ∃ R : Int, ((Utf8.decode s pos).1 : Int) = R := ⟨_, rfl⟩
      have hR0 : 0 ≤ R := by omega
      have hR2 : R ≤ 2147483647 := by omega
      rw [hR, hK] at hnx hst
      rw [hK] at hK1
      have HS := Lib.hid hst
      have hit2 := Lib.hid (Lib.iterAt_heap wr _ s pos (pos + K) hit)
      have hbw2 := Lib.hid (Lib.below_iterAt hbw (k := w'.heap.size) (Nat.le_refl _) s (pos + K))
      clear hst hH hR hK hR1 hit hbw
      go_wp2_with (first | (go_at_call 58; refine (C.out _ _ _).mono ?_; rintro e w2 ⟨rfl, rfl⟩))
      go_roundg g'
      case measure => omega
      case rel => exact ⟨pos + K, _, rfl, hit2.out, hbw2.out, HS, by omega⟩
    · have hnx : ∀ ty, (Instr.next (.pointer (some ⟨w'.heap.size, 0, none⟩)) true ty).run Try.prog wr = _ := fun ty => Lib.run_next_end_at wr _ s pos ty hit hlt
      have HE := Lib.hid (strH_end s gk pos acc hlt)
      go_wp2_with fail
      go_ret
      exact ⟨ret_int (by rw [← hH.out, HE.out]), hbw⟩
end Go.Proofs.Ytiejadamfgbidaa.dup
