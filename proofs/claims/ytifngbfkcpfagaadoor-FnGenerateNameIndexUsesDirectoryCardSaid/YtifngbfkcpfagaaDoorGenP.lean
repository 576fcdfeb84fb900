/- Plain facts on 'EnsureValidIdentifier' and on the split-and-join model: both give one fold over the bytes. No program in sight. -/
import Derived.Laws.RangeAny
import Derived.Laws.BytesArg
import Derived.Lib.DecodeN
namespace Go.Proofs.YtifngbfkcpfagaaDoor.gen
set_option linter.unusedVariables false

def isL (c : Int) : Bool := (decide (97 ≤ c) && decide (c ≤ 122)) || (decide (65 ≤ c) && decide (c ≤ 90))
def isD (c : Int) : Bool := decide (48 ≤ c) && decide (c ≤ 57)
/-- One byte, or one rune: the output so far, and whether a gap is owed. -/
def stp (x : List Int × Bool) (c : Int) : List Int × Bool :=
  if isL c || (!x.1.isEmpty && isD c) then ((if x.2 then x.1 ++ [95] else x.1) ++ [c], false) else if x.1.isEmpty then x else (x.1, true)
def by8 (s : ByteArray) (i : Nat) : Int := if h : i < s.size then (s[i].toNat : Int) else 0
/-- Behind the first k bytes. -/
def st (s : ByteArray) : Nat → List Int × Bool
  | 0 => ([], false)
  | k + 1 => stp (st s k) (by8 s k)
theorem by8_eq {s : ByteArray} {i : Nat} (h : i < s.size) : by8 s i = (s[i].toNat : Int) := by simp [by8, h]
theorem by8_rng (s : ByteArray) (i : Nat) : 0 ≤ by8 s i ∧ by8 s i ≤ 255 := by
  unfold by8
  split
  · have := s[i].toNat_lt; omega
  · omega
theorem stp_len (x : List Int × Bool) (c : Int) : (stp x c).1.length + (if (stp x c).2 then 1 else 0) ≤ x.1.length + (if x.2 then 1 else 0) + 1 := by
  unfold stp
  split
  · cases x.2 <;> simp
  · split
    · omega
    · cases x.2 <;> simp
theorem st_len (s : ByteArray) : ∀ k, (st s k).1.length + (if (st s k).2 then 1 else 0) ≤ k
  | 0 => by simp [st]
  | k + 1 => by
    have h1 := stp_len (st s k) (by8 s k)
    have h2 := st_len s k
    have e : st s (k + 1) = stp (st s k) (by8 s k) := rfl
    rw [e]
    omega
/-- A gap is owed only behind something. -/
theorem st_gap (s : ByteArray) : ∀ k, (st s k).1 = [] → (st s k).2 = false
  | 0 => fun _ => rfl
  | k + 1 => fun h => by
    simp only [st] at h ⊢
    unfold stp at h ⊢
    split at h
    · exact absurd h (by split <;> simp)
    · rename_i h1
      rw [if_neg h1]
      split at h
      · rename_i h2
        rw [if_pos h2]
        exact st_gap s k h
      · rename_i h2
        simp only at h
        rw [h] at h2
        simp at h2
theorem stp_high {x : List Int × Bool} {c : Int} (h : 128 ≤ c) : stp x c = if x.1.isEmpty then x else (x.1, true) := by
  have h1 : isL c = false := by unfold isL; simp; omega
  have h2 : isD c = false := by unfold isD; simp; omega
  unfold stp
  simp [h1, h2]
theorem get_byte (s : ByteArray) (i : Nat) (h : i < s.size) : s.get! i = s[i]'h := by
  simp [ByteArray.get!, getElem!_pos, h]
  rfl
theorem conts (n b0 b1 b2 b3 : Nat) :
    (2 ≤ (Lib.decodeN n b0 b1 b2 b3).2 → b1 / 64 = 2 ∧ 1 < n) ∧ (3 ≤ (Lib.decodeN n b0 b1 b2 b3).2 → b2 / 64 = 2 ∧ 2 < n) ∧ (4 ≤ (Lib.decodeN n b0 b1 b2 b3).2 → b3 / 64 = 2 ∧ 3 < n) ∧ (Lib.decodeN n b0 b1 b2 b3).2 ≤ 4 := by
  unfold Lib.decodeN
  repeat' split
  all_goals (simp only; omega)
/-- High bytes alone: one step, however many. -/
theorem st_high (s : ByteArray) (pos : Nat) : ∀ d, (∀ i, pos ≤ i → i < pos + (d + 1) → 128 ≤ by8 s i) → st s (pos + (d + 1)) = stp (st s pos) 128
  | 0, h => by
    show stp (st s pos) (by8 s pos) = _
    rw [stp_high (h pos (Nat.le_refl _) (by omega)), stp_high (Int.le_refl _)]
  | d + 1, h => by
    show stp (st s (pos + (d + 1))) (by8 s (pos + (d + 1))) = _
    rw [st_high s pos d (fun i h1 h2 => h i h1 (by omega)), stp_high (h _ (by omega) (by omega)), stp_high (Int.le_refl 128)]
    by_cases e : (st s pos).1.isEmpty
    · rw [if_pos e, if_pos e]
    · rw [if_neg e]
      simp [e]
/-- A step of the decoder does to the fold what its rune does. -/
theorem step_rune (s : ByteArray) (pos : Nat) (h : pos < s.size) :
    1 ≤ (Utf8.decode s pos).2 ∧ pos + (Utf8.decode s pos).2 ≤ s.size ∧ st s (pos + (Utf8.decode s pos).2) = stp (st s pos) ((Utf8.decode s pos).1 : Int) := by
  by_cases ha : (s[pos]'h).toNat < 128
  · rw [decode_ascii s pos h ha]
    refine ⟨Nat.le_refl _, by show pos + 1 ≤ _; omega, ?_⟩
    show stp (st s pos) (by8 s pos) = _
    rw [by8_eq h]
  · have hh := decode_high s pos h (by omega)
    have hc := conts (s.size - pos) (s.get! pos).toNat (s.get! (pos + 1)).toNat (s.get! (pos + 2)).toNat (s.get! (pos + 3)).toNat
    rw [← Lib.decode_at] at hc
    obtain ⟨c1, c2, c3, c4⟩ := hc
    generalize (Utf8.decode s pos).2 = K at *
    generalize (Utf8.decode s pos).1 = R at *
    have hsz : pos + K ≤ s.size := by omega
    refine ⟨hh.2, hsz, ?_⟩
    obtain ⟨d, rfl⟩ : ∃ d, K = d + 1 := ⟨K - 1, by omega⟩
    rw [st_high s pos d (fun i h1 h2 => ?_), stp_high (show (128 : Int) ≤ (R : Int) by omega), stp_high (Int.le_refl _)]
    have q : i < s.size := by omega
    rw [by8_eq q]
    have hb := get_byte s i q
    have : i = pos ∨ i = pos + 1 ∨ i = pos + 2 ∨ i = pos + 3 := by omega
    rcases this with rfl | rfl | rfl | rfl
    · omega
    · have := (c1 (by omega)).1; rw [hb] at this; omega
    · have := (c2 (by omega)).1; rw [hb] at this; omega
    · have := (c3 (by omega)).1; rw [hb] at this; omega
/-- What both functions answer. -/
def outOf (s : ByteArray) : List Int := if (st s s.size).1 = [] then [95] else (st s s.size).1

/-- What the loop over the runes has collected when pos bytes are read. -/
def Inv (s : ByteArray) (pos : Nat) (l : List Int) (g : Bool) : Prop := pos ≤ s.size ∧ st s pos = (l, g)
theorem inv_start (s : ByteArray) : Inv s 0 [] false := ⟨Nat.zero_le _, rfl⟩
theorem inv_len {s : ByteArray} {pos : Nat} {l : List Int} {g : Bool} (h : Inv s pos l g) : l.length ≤ s.size := by
  have h1 := st_len s pos
  rw [h.2] at h1
  have := h.1
  simp only at h1
  omega
def ltrI (c : Int) : Prop := (97 ≤ c ∧ c ≤ 122) ∨ (65 ≤ c ∧ c ≤ 90)
def digI (c : Int) : Prop := 48 ≤ c ∧ c ≤ 57
def alnI (c : Int) : Prop := ltrI c ∨ digI c
theorem isL_iff (c : Int) : isL c = true ↔ ltrI c := by unfold isL ltrI; simp
theorem isD_iff (c : Int) : isD c = true ↔ digI c := by unfold isD digI; simp
theorem inv_skip0 {s : ByteArray} {pos : Nat} {g : Bool} (h : pos < s.size) (hi : Inv s pos [] g) (hl : ¬ ltrI ((Utf8.decode s pos).1 : Int)) : Inv s (pos + (Utf8.decode s pos).2) [] g := by
  obtain ⟨h1, h2, h3⟩ := step_rune s pos h
  refine ⟨h2, ?_⟩
  rw [h3, hi.2]
  have : isL ((Utf8.decode s pos).1 : Int) = false := by rw [← Bool.not_eq_true, isL_iff]; exact hl
  simp [stp, this]
theorem inv_skip {s : ByteArray} {pos : Nat} {l : List Int} {g : Bool} (h : pos < s.size) (hi : Inv s pos l g) (hl : 0 < l.length) (hn : ¬ alnI ((Utf8.decode s pos).1 : Int)) : Inv s (pos + (Utf8.decode s pos).2) l true := by
  obtain ⟨h1, h2, h3⟩ := step_rune s pos h
  refine ⟨h2, ?_⟩
  rw [h3, hi.2]
  have e1 : isL ((Utf8.decode s pos).1 : Int) = false := by rw [← Bool.not_eq_true, isL_iff]; exact fun h => hn (.inl h)
  have e2 : isD ((Utf8.decode s pos).1 : Int) = false := by rw [← Bool.not_eq_true, isD_iff]; exact fun h => hn (.inr h)
  have e3 : l.isEmpty = false := by cases l <;> simp at hl ⊢
  simp [stp, e1, e2, e3]
theorem inv_first {s : ByteArray} {pos : Nat} {g : Bool} (h : pos < s.size) (hi : Inv s pos [] g) (hl : ltrI ((Utf8.decode s pos).1 : Int)) : g = false ∧ Inv s (pos + (Utf8.decode s pos).2) [((Utf8.decode s pos).1 : Int)] false := by
  obtain ⟨h1, h2, h3⟩ := step_rune s pos h
  have hg : g = false := by have := st_gap s pos (by rw [hi.2]); rw [hi.2] at this; exact this
  refine ⟨hg, h2, ?_⟩
  rw [h3, hi.2, hg]
  simp [stp, (isL_iff _).2 hl]
theorem inv_app {s : ByteArray} {pos : Nat} {l : List Int} (h : pos < s.size) (hi : Inv s pos l false) (h0 : 0 < l.length) (hl : alnI ((Utf8.decode s pos).1 : Int)) : Inv s (pos + (Utf8.decode s pos).2) (l ++ [((Utf8.decode s pos).1 : Int)]) false := by
  obtain ⟨h1, h2, h3⟩ := step_rune s pos h
  refine ⟨h2, ?_⟩
  rw [h3, hi.2]
  have e3 : l.isEmpty = false := by cases l <;> simp at h0 ⊢
  have e : (isL ((Utf8.decode s pos).1 : Int) || (!l.isEmpty && isD ((Utf8.decode s pos).1 : Int))) = true := by
    rcases hl with hl | hl
    · simp [(isL_iff _).2 hl]
    · simp [(isD_iff _).2 hl, e3]
  unfold stp
  dsimp only
  rw [if_pos e]
  rfl
theorem inv_gap {s : ByteArray} {pos : Nat} {l : List Int} (h : pos < s.size) (hi : Inv s pos l true) (h0 : 0 < l.length) (hl : alnI ((Utf8.decode s pos).1 : Int)) : Inv s (pos + (Utf8.decode s pos).2) (l ++ [95] ++ [((Utf8.decode s pos).1 : Int)]) false := by
  obtain ⟨h1, h2, h3⟩ := step_rune s pos h
  refine ⟨h2, ?_⟩
  rw [h3, hi.2]
  have e3 : l.isEmpty = false := by cases l <;> simp at h0 ⊢
  have e : (isL ((Utf8.decode s pos).1 : Int) || (!l.isEmpty && isD ((Utf8.decode s pos).1 : Int))) = true := by
    rcases hl with hl | hl
    · simp [(isL_iff _).2 hl]
    · simp [(isD_iff _).2 hl, e3]
  unfold stp
  dsimp only
  rw [if_pos e]
  rfl
end Go.Proofs.YtifngbfkcpfagaaDoor.gen
