/- Plain laws of the digits of a number at a base. No conditions beyond the hypotheses. -/
import Derived.Test.YtlhcgkocnckddaaDoorLib
import Derived.Test.YtlhcgkocnckddaaDoorRows
import Derived.Lib.ItoaNum
import Derived.Lib.ItoaMem
namespace Go.Proofs.YtlhcgkocnckddaaDoor.dig
set_option linter.unusedVariables false
/-- A digit's character. -/
def ch (d : Nat) : UInt8 := if d < 10 then UInt8.ofNat (48 + d) else UInt8.ofNat (87 + d)
theorem ch_toNat (d : Nat) (h : d < 36) : (ch d).toNat = if d < 10 then 48 + d else 87 + d := by
  unfold ch
  split
  · rw [UInt8.toNat_ofNat']; omega
  · rw [UInt8.toNat_ofNat']; omega
/-- The digits of u at base b, the greatest first. -/
def digs (b u : Nat) : List Nat := if h : 2 ≤ b ∧ b ≤ u then digs b (u / b) ++ [u % b] else [u]
termination_by u
decreasing_by exact Nat.div_lt_self (by omega) (by omega)
theorem digs_big {b u : Nat} (hb : 2 ≤ b) (h : b ≤ u) : digs b u = digs b (u / b) ++ [u % b] := by rw [digs, dif_pos ⟨hb, h⟩]
theorem digs_small {b u : Nat} (h : u < b) : digs b u = [u] := by rw [digs, dif_neg (by omega)]
def val (b : Nat) (ds : List Nat) : Nat := ds.foldl (fun v d => v * b + d) 0
theorem val_snoc (b : Nat) (ds : List Nat) (d : Nat) : val b (ds ++ [d]) = val b ds * b + d := by unfold val; rw [List.foldl_append]; rfl
theorem val_digs (b : Nat) (hb : 2 ≤ b) (u : Nat) : val b (digs b u) = u := by
  induction u using Nat.strongRecOn with
  | ind u ih =>
    by_cases h : b ≤ u
    · rw [digs_big hb h, val_snoc, ih (u / b) (Nat.div_lt_self (by omega) (by omega))]
      exact Nat.div_add_mod' u b
    · rw [digs_small (by omega)]
      simp [val]
theorem digs_lt (b : Nat) (hb : 2 ≤ b) (u : Nat) : ∀ d ∈ digs b u, d < b := by
  induction u using Nat.strongRecOn with
  | ind u ih =>
    by_cases h : b ≤ u
    · rw [digs_big hb h]
      intro d hd
      rcases List.mem_append.1 hd with h1 | h1
      · exact ih (u / b) (Nat.div_lt_self (by omega) (by omega)) d h1
      · simp at h1; subst h1; exact Nat.mod_lt _ (by omega)
    · rw [digs_small (by omega)]
      intro d hd
      simp at hd
      omega
theorem digs_len (b : Nat) (hb : 2 ≤ b) (k : Nat) : ∀ u, u < 2 ^ (k + 1) → 1 ≤ (digs b u).length ∧ (digs b u).length ≤ k + 1 := by
  induction k with
  | zero =>
    intro u hu
    rw [digs_small (by simp at hu; omega)]
    simp
  | succ k ih =>
    intro u hu
    by_cases h : b ≤ u
    · rw [digs_big hb h, List.length_append]
      have h1 : u / b ≤ u / 2 := Nat.div_le_div_left hb (by decide)
      have h2 : u / 2 < 2 ^ (k + 1) := by rw [Nat.div_lt_iff_lt_mul (by decide), ← Nat.pow_succ]; exact hu
      have := ih (u / b) (by omega)
      simp
      omega
    · rw [digs_small (by omega)]
      simp
/-- No zero stands in front. -/
theorem digs_head (b : Nat) (hb : 2 ≤ b) (u : Nat) (hu : 0 < u) : ∃ d l, digs b u = d :: l ∧ 0 < d := by
  induction u using Nat.strongRecOn with
  | ind u ih =>
    by_cases h : b ≤ u
    · obtain ⟨d, l, h1, h2⟩ := ih (u / b) (Nat.div_lt_self (by omega) (by omega)) (Nat.div_pos h (by omega))
      rw [digs_big hb h, h1]
      exact ⟨d, l ++ [u % b], rfl, h2⟩
    · rw [digs_small (by omega)]
      exact ⟨u, [], rfl, hu⟩
theorem val_mono (b : Nat) (hb : 1 ≤ b) : ∀ (l : List Nat) (v : Nat), v ≤ l.foldl (fun v d => v * b + d) v := by
  intro l
  induction l with
  | nil => intro v; exact Nat.le_refl _
  | cons d l ih =>
    intro v
    have h1 : v * 1 ≤ v * b := Nat.mul_le_mul_left v hb
    exact Nat.le_trans (by omega) (ih (v * b + d))
theorem val_take (b : Nat) (hb : 1 ≤ b) (ds : List Nat) (k : Nat) : val b (ds.take k) ≤ val b ds := by
  have h := val_mono b hb (ds.drop k) (val b (ds.take k))
  have e : val b ds = (ds.drop k).foldl (fun v d => v * b + d) (val b (ds.take k)) := by
    unfold val
    rw [← List.foldl_append, List.take_append_drop]
  rw [e]
  exact h
theorem val_take_succ (b : Nat) (ds : List Nat) (k : Nat) (h : k < ds.length) : val b (ds.take (k + 1)) = val b (ds.take k) * b + ds[k] := by
  rw [List.take_succ_eq_append_getElem h, val_snoc]
theorem dec_eq (u : Nat) : Lib.decDigits u = (digs 10 u).map ch := by
  induction u using Nat.strongRecOn with
  | ind u ih =>
    by_cases h : u < 10
    · rw [Lib.decDigits, dif_pos h, digs_small h]
      simp [ch, h]
    · rw [Lib.decDigits, dif_neg h, digs_big (by decide) (by omega), ih (u / 10) (by omega)]
      have : u % 10 < 10 := by omega
      simp [ch, this]
/-- The text of an integer. -/
def str (b : Nat) (n : Int) : List UInt8 := if n < 0 then 45 :: (digs b n.natAbs).map ch else (digs b n.natAbs).map ch
theorem itoa_eq (n : Int) : Lib.itoa n = str 10 n := by
  unfold Lib.itoa str
  by_cases h : n < 0
  · rw [if_pos h, if_pos h, dec_eq]
  · rw [if_neg h, if_neg h, dec_eq]
    have : n.toNat = n.natAbs := by omega
    rw [this]
end Go.Proofs.YtlhcgkocnckddaaDoor.dig
