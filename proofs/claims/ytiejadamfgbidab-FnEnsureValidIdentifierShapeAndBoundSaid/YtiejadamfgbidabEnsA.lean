/- Plain facts on the bytes of a string and its runes, for 'EnsureValidIdentifier': which bytes are ASCII letters, and what the loop's output looks like. No program in sight. -/
import Derived.Laws.RangeAny
import Derived.Laws.BytesArg
import Derived.Lib.DecodeN
namespace Go.Proofs.Ytiejadamfgbidab.ens
set_option linter.unusedVariables false

def ltrI (c : Int) : Prop := (97 ≤ c ∧ c ≤ 122) ∨ (65 ≤ c ∧ c ≤ 90)
def digI (c : Int) : Prop := 48 ≤ c ∧ c ≤ 57
def alnI (c : Int) : Prop := ltrI c ∨ digI c
/-- A letter stands among the first k bytes. -/
def hasL (s : ByteArray) (k : Nat) : Prop := ∃ i, ∃ h : i < s.size, i < k ∧ ltrI (s[i].toNat : Int)

theorem hasL_zero (s : ByteArray) : ¬ hasL s 0 := by rintro ⟨i, h, hk, _⟩; omega
theorem hasL_mono {s : ByteArray} {j k : Nat} (h : j ≤ k) : hasL s j → hasL s k := by rintro ⟨i, q, hi, hl⟩; exact ⟨i, q, by omega, hl⟩
theorem hasL_succ (s : ByteArray) (k : Nat) (h : k < s.size) : hasL s (k + 1) ↔ hasL s k ∨ ltrI (s[k].toNat : Int) := by
  constructor
  · rintro ⟨i, q, hi, hl⟩
    by_cases e : i = k
    · subst e; exact .inr hl
    · exact .inl ⟨i, q, by omega, hl⟩
  · rintro (⟨i, q, hi, hl⟩ | hl)
    · exact ⟨i, q, by omega, hl⟩
    · exact ⟨k, h, by omega, hl⟩

theorem get_byte (s : ByteArray) (i : Nat) (h : i < s.size) : s.get! i = s[i]'h := by
  simp [ByteArray.get!, getElem!_pos, h]
  rfl

theorem conts (n b0 b1 b2 b3 : Nat) :
    (2 ≤ (Lib.decodeN n b0 b1 b2 b3).2 → b1 / 64 = 2 ∧ 1 < n) ∧ (3 ≤ (Lib.decodeN n b0 b1 b2 b3).2 → b2 / 64 = 2 ∧ 2 < n) ∧ (4 ≤ (Lib.decodeN n b0 b1 b2 b3).2 → b3 / 64 = 2 ∧ 3 < n) ∧ (Lib.decodeN n b0 b1 b2 b3).2 ≤ 4 := by
  unfold Lib.decodeN
  repeat' split
  all_goals (simp only; omega)
/-- A step of the decoder: its width, and that a rune's bytes hold a letter just if the rune is one. -/
theorem step_rune (s : ByteArray) (pos : Nat) (h : pos < s.size) :
    1 ≤ (Utf8.decode s pos).2 ∧ pos + (Utf8.decode s pos).2 ≤ s.size ∧ (hasL s (pos + (Utf8.decode s pos).2) ↔ hasL s pos ∨ ltrI ((Utf8.decode s pos).1 : Int)) := by
  by_cases ha : (s[pos]'h).toNat < 128
  · rw [decode_ascii s pos h ha]
    refine ⟨Nat.le_refl _, by show pos + 1 ≤ _; omega, ?_⟩
    exact hasL_succ s pos h
  · have hh := decode_high s pos h (by omega)
    have hc := conts (s.size - pos) (s.get! pos).toNat (s.get! (pos + 1)).toNat (s.get! (pos + 2)).toNat (s.get! (pos + 3)).toNat
    rw [← Lib.decode_at] at hc
    obtain ⟨c1, c2, c3, c4⟩ := hc
    generalize (Utf8.decode s pos).2 = K at *
    generalize (Utf8.decode s pos).1 = R at *
    refine ⟨hh.2, by omega, ?_⟩
    constructor
    · rintro ⟨i, q, hi, hl⟩
      by_cases e : i < pos
      · exact .inl ⟨i, q, e, hl⟩
      · exfalso
        have hb := get_byte s i q
        have : i = pos ∨ i = pos + 1 ∨ i = pos + 2 ∨ i = pos + 3 := by omega
        unfold ltrI at hl
        rcases this with rfl | rfl | rfl | rfl
        · omega
        · have := (c1 (by omega)).1; rw [hb] at this; omega
        · have := (c2 (by omega)).1; rw [hb] at this; omega
        · have := (c3 (by omega)).1; rw [hb] at this; omega
    · rintro (hl | hl)
      · exact hasL_mono (by omega) hl
      · exfalso; unfold ltrI at hl; omega

/-- No two underscores in a row. -/
def NoDbl (l : List Int) : Prop := ∀ i : Nat, l[i + 1]? = some 95 → l[i]? ≠ some 95
def Good (l : List Int) : Prop := (∃ c, l[0]? = some c ∧ ltrI c) ∧ (∃ c, l[l.length - 1]? = some c ∧ alnI c) ∧ (∀ c ∈ l, c = 95 ∨ alnI c) ∧ NoDbl l
theorem Good.pos {l : List Int} (h : Good l) : 0 < l.length := by
  obtain ⟨⟨c, h, _⟩, _⟩ := h
  cases l with
  | nil => simp at h
  | cons a r => simp
theorem good_one (c : Int) (h : ltrI c) : Good [c] := by
  refine ⟨⟨c, rfl, h⟩, ⟨c, rfl, .inl h⟩, fun x hx => ?_, fun i h1 h2 => ?_⟩
  · simp at hx; subst hx; exact .inr (.inl h)
  · simp at h1
theorem good_app {l : List Int} (h : Good l) (c : Int) (hc : alnI c) : Good (l ++ [c]) := by
  have hp := h.pos
  obtain ⟨⟨c0, h0, h1⟩, ⟨c2, h2, h3⟩, h4, h5⟩ := h
  refine ⟨⟨c0, by rw [List.getElem?_append_left hp]; exact h0, h1⟩, ⟨c, by simp, hc⟩, fun x hx => ?_, fun i e1 e2 => ?_⟩
  · rcases List.mem_append.1 hx with hx | hx
    · exact h4 x hx
    · simp at hx; subst hx; exact .inr hc
  · by_cases q : i + 1 < l.length
    · rw [List.getElem?_append_left q] at e1
      rw [List.getElem?_append_left (by omega)] at e2
      exact h5 i e1 e2
    · by_cases q2 : i + 1 = l.length
      · rw [List.getElem?_append_right (by omega), q2] at e1
        simp at e1
        subst e1
        unfold alnI ltrI digI at hc
        omega
      · rw [List.getElem?_eq_none (by simp; omega)] at e1
        cases e1
theorem good_gap {l : List Int} (h : Good l) (c : Int) (hc : alnI c) : Good (l ++ [95] ++ [c]) := by
  have hp := h.pos
  obtain ⟨⟨c0, h0, h1⟩, ⟨c2, h2, h3⟩, h4, h5⟩ := h
  refine ⟨⟨c0, by rw [List.append_assoc, List.getElem?_append_left hp]; exact h0, h1⟩, ⟨c, by simp, hc⟩, fun x hx => ?_, fun i e1 e2 => ?_⟩
  · simp only [List.mem_append, List.mem_singleton] at hx
    rcases hx with (hx | hx) | hx
    · exact h4 x hx
    · exact .inl hx
    · subst hx; exact .inr hc
  · rw [List.append_assoc] at e1 e2
    have hn : ¬ c = 95 := by unfold alnI ltrI digI at hc; omega
    by_cases q : i + 1 < l.length
    · rw [List.getElem?_append_left q] at e1
      rw [List.getElem?_append_left (by omega)] at e2
      exact h5 i e1 e2
    · by_cases q2 : i + 1 = l.length
      · rw [List.getElem?_append_left (by omega)] at e2
        rw [show i = l.length - 1 by omega, h2] at e2
        simp only [Option.some.injEq] at e2
        subst e2
        unfold alnI ltrI digI at h3
        omega
      · by_cases q3 : i + 1 = l.length + 1
        · rw [List.getElem?_append_right (by omega), q3] at e1
          simp at e1
          exact hn e1
        · rw [List.getElem?_eq_none (by simp; omega)] at e1
          cases e1

/-- What the loop has collected when pos bytes are read: l, and whether a gap is owed. -/
def Inv (s : ByteArray) (pos : Nat) (l : List Int) (g : Bool) : Prop :=
  pos ≤ s.size ∧ ((l = [] ∧ g = false ∧ ¬ hasL s pos) ∨ (hasL s pos ∧ Good l ∧ l.length + (if g then 1 else 0) ≤ pos))
theorem inv_start (s : ByteArray) : Inv s 0 [] false := ⟨Nat.zero_le _, .inl ⟨rfl, rfl, hasL_zero s⟩⟩
theorem inv_skip0 {s : ByteArray} {pos : Nat} {g : Bool} (h : pos < s.size) (hi : Inv s pos [] g) (hl : ¬ ltrI ((Utf8.decode s pos).1 : Int)) : Inv s (pos + (Utf8.decode s pos).2) [] g := by
  obtain ⟨h1, h2, h3⟩ := step_rune s pos h
  rcases hi.2 with ⟨_, hg, hn⟩ | ⟨_, hG, _⟩
  · exact ⟨h2, .inl ⟨rfl, hg, fun hh => by rcases h3.1 hh with hh | hh <;> contradiction⟩⟩
  · exact absurd hG.pos (by simp)
theorem inv_skip {s : ByteArray} {pos : Nat} {l : List Int} {g : Bool} (h : pos < s.size) (hi : Inv s pos l g) (hl : 0 < l.length) : Inv s (pos + (Utf8.decode s pos).2) l true := by
  obtain ⟨h1, h2, h3⟩ := step_rune s pos h
  rcases hi.2 with ⟨rfl, hg, hn⟩ | ⟨hh, hG, hs⟩
  · simp at hl
  · refine ⟨h2, .inr ⟨hasL_mono (by omega) hh, hG, ?_⟩⟩
    cases g <;> simp at * <;> omega
theorem inv_first {s : ByteArray} {pos : Nat} {g : Bool} {c : Int} (h : pos < s.size) (hi : Inv s pos [] g) (hc : c = ((Utf8.decode s pos).1 : Int)) (hl : ltrI c) : g = false ∧ Inv s (pos + (Utf8.decode s pos).2) [c] false := by
  obtain ⟨h1, h2, h3⟩ := step_rune s pos h
  rcases hi.2 with ⟨_, hg, hn⟩ | ⟨_, hG, _⟩
  · exact ⟨hg, h2, .inr ⟨h3.2 (.inr (hc ▸ hl)), good_one c hl, by simp; omega⟩⟩
  · exact absurd hG.pos (by simp)
theorem inv_app {s : ByteArray} {pos : Nat} {l : List Int} {c : Int} (h : pos < s.size) (hi : Inv s pos l false) (h0 : 0 < l.length) (hl : alnI c) : Inv s (pos + (Utf8.decode s pos).2) (l ++ [c]) false := by
  obtain ⟨h1, h2, h3⟩ := step_rune s pos h
  rcases hi.2 with ⟨rfl, hg, hn⟩ | ⟨hh, hG, hs⟩
  · simp at h0
  · exact ⟨h2, .inr ⟨hasL_mono (by omega) hh, good_app hG c hl, by simp at *; omega⟩⟩
theorem inv_gap {s : ByteArray} {pos : Nat} {l : List Int} {c : Int} (h : pos < s.size) (hi : Inv s pos l true) (h0 : 0 < l.length) (hl : alnI c) : Inv s (pos + (Utf8.decode s pos).2) (l ++ [95] ++ [c]) false := by
  obtain ⟨h1, h2, h3⟩ := step_rune s pos h
  rcases hi.2 with ⟨rfl, hg, hn⟩ | ⟨hh, hG, hs⟩
  · simp at h0
  · exact ⟨h2, .inr ⟨hasL_mono (by omega) hh, good_gap hG c hl, by simp at *; omega⟩⟩
end Go.Proofs.Ytiejadamfgbidab.ens
