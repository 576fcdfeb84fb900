/- Plain law: what fmt writes for '%q' tells the text: two texts with one quotation are one text. No program in sight. -/
import Derived.Stop.FmtQuoteTie
import Derived.Lib.MapLaws
import Derived.Laws.RangeAny
namespace Go.Proofs.YtbknmeggdhaliaaFmt.tag
open Go.Lib
set_option linter.unusedVariables false

/-- The number that a hexadecimal digit says. -/
def hexV (c : Int) : Nat := if c < 58 then (c - 48).toNat else (c - 87).toNat
def hexN (l : List Int) : Nat := l.foldl (fun a c => a * 16 + hexV c) 0
theorem hexV_digit (x : Nat) (h : x < 16) : hexV (hexDigit x) = x := by
  unfold hexV hexDigit
  split
  · split <;> omega
  · split <;> omega
theorem hexN_two (r : Nat) (h : r < 256) : hexN [hexDigit (r / 16), hexDigit (r % 16)] = r := by
  simp only [hexN, List.foldl_cons, List.foldl_nil]
  rw [hexV_digit _ (by omega), hexV_digit _ (by omega)]
  omega
theorem hexN_four (r : Nat) (h : r < 65536) : hexN (hexDigits r 4) = r := by
  simp only [hexN, hexDigits, List.foldl_cons, List.foldl_nil]
  rw [hexV_digit _ (by omega), hexV_digit _ (by omega), hexV_digit _ (by omega), hexV_digit _ (by omega)]
  omega
theorem hexN_eight (r : Nat) (h : r < 4294967296) : hexN (hexDigits r 8) = r := by
  simp only [hexN, hexDigits, List.foldl_cons, List.foldl_nil]
  rw [hexV_digit _ (by omega), hexV_digit _ (by omega), hexV_digit _ (by omega), hexV_digit _ (by omega), hexV_digit _ (by omega), hexV_digit _ (by omega), hexV_digit _ (by omega), hexV_digit _ (by omega)]
  omega

/-- The way back: what a quotation says, one mark after the other, up to the closing quote. -/
def unq : Nat → List Int → List UInt8
  | 0, _ => []
  | _ + 1, [] => []
  | n + 1, c :: r =>
    if c = 34 then [] else if c ≠ 92 then c.toNat.toUInt8 :: unq n r
    else match r with
      | [] => []
      | d :: q =>
        if d = 120 then (hexN (q.take 2)).toUInt8 :: unq n (q.drop 2)
        else if d = 117 then encodeRune (hexN (q.take 4) : Nat) ++ unq n (q.drop 4)
        else if d = 85 then encodeRune (hexN (q.take 8) : Nat) ++ unq n (q.drop 8)
        else if d = 97 then 7 :: unq n q else if d = 98 then 8 :: unq n q else if d = 102 then 12 :: unq n q else if d = 110 then 10 :: unq n q
        else if d = 114 then 13 :: unq n q else if d = 116 then 9 :: unq n q else if d = 118 then 11 :: unq n q
        else d.toNat.toUInt8 :: unq n q

/-- A piece of a quotation that says the bytes b. -/
def Seg (m : List Int) (b : List UInt8) : Prop := ∃ k, 1 ≤ k ∧ k ≤ m.length ∧ ∀ n R, unq (n + k) (m ++ R) = b ++ unq n R

theorem seg_plain : ∀ m : List Int, m ≠ [] → (∀ x ∈ m, x ≠ 34 ∧ x ≠ 92) → Seg m (m.map fun x => x.toNat.toUInt8)
  | [], h, _ => absurd rfl h
  | [c], _, hx => by
    obtain ⟨h1, h2⟩ := hx c (by simp)
    refine ⟨1, Nat.le_refl _, by simp, fun n R => ?_⟩
    simp [unq, h1, h2]
  | c :: d :: r, _, hx => by
    obtain ⟨h1, h2⟩ := hx c (by simp)
    obtain ⟨k, k1, k2, hk⟩ := seg_plain (d :: r) (by simp) (fun x hx' => hx x (List.mem_cons_of_mem _ hx'))
    refine ⟨k + 1, by omega, by simp only [List.length_cons] at k2 ⊢; omega, fun n R => ?_⟩
    have e := hk n R
    rw [show n + (k + 1) = n + k + 1 from rfl]
    simp only [List.cons_append, List.map_cons] at e ⊢
    rw [← e]
    simp [unq, h1, h2]
theorem seg_x (x y : Int) (b : UInt8) (h : (hexN [x, y]).toUInt8 = b) : Seg [92, 120, x, y] [b] := by
  refine ⟨1, Nat.le_refl _, by simp, fun n R => ?_⟩
  simp [unq, h]
theorem seg_u (ds : List Int) (b : List UInt8) (hl : ds.length = 4) (h : encodeRune (hexN ds : Nat) = b) : Seg (92 :: 117 :: ds) b := by
  refine ⟨1, Nat.le_refl _, by simp, fun n R => ?_⟩
  have e1 : (ds ++ R).take 4 = ds := by rw [List.take_append_of_le_length (by omega), List.take_of_length_le (by omega)]
  have e2 : (ds ++ R).drop 4 = R := by rw [← hl, List.drop_left]
  simp [unq, e1, e2, h]
theorem seg_U (ds : List Int) (b : List UInt8) (hl : ds.length = 8) (h : encodeRune (hexN ds : Nat) = b) : Seg (92 :: 85 :: ds) b := by
  refine ⟨1, Nat.le_refl _, by simp, fun n R => ?_⟩
  have e1 : (ds ++ R).take 8 = ds := by rw [List.take_append_of_le_length (by omega), List.take_of_length_le (by omega)]
  have e2 : (ds ++ R).drop 8 = R := by rw [← hl, List.drop_left]
  simp [unq, e1, e2, h]
theorem seg_esc (d : Int) (b : UInt8) (h : ∀ n R, unq (n + 1) (92 :: d :: R) = b :: unq n R) : Seg [92, d] [b] :=
  ⟨1, Nat.le_refl _, by simp, fun n R => h n R⟩

theorem enc_marks (r : Nat) (h1 : r ≠ 34) (h2 : r ≠ 92) : ∀ x ∈ encodeRuneZ (r : Int), x ≠ 34 ∧ x ≠ 92 := by
  intro x hx
  unfold encodeRuneZ at hx
  split at hx
  · simp only [List.mem_singleton] at hx; omega
  split at hx
  · simp only [List.mem_cons, List.not_mem_nil, or_false] at hx; omega
  split at hx
  · simp only [List.mem_cons, List.not_mem_nil, or_false] at hx; omega
  split at hx
  · simp only [List.mem_cons, List.not_mem_nil, or_false] at hx; omega
  · simp only [List.mem_cons, List.not_mem_nil, or_false] at hx; omega

/-- A rune's mark says the rune's own bytes. -/
theorem seg_rune (T : PrintTabs) (r : Nat) (hr : r ≤ 2147483647) : Seg (escRune T (r : Int)) (encodeRune (r : Int)) := by
  unfold escRune
  by_cases c0 : (r : Int) = 34 ∨ (r : Int) = 92
  · rw [if_pos c0]
    have : r = 34 ∨ r = 92 := by omega
    rcases this with rfl | rfl
    · exact seg_esc 34 34 (fun n R => by simp [unq])
    · exact seg_esc 92 92 (fun n R => by simp [unq])
  rw [if_neg c0]
  by_cases c1 : isPrintR T (r : Int) = true
  · rw [if_pos c1]
    exact seg_plain _ (fun e => by have := (encodeRuneZ_length (r : Int)).1; rw [e] at this; simp at this) (enc_marks r (by omega) (by omega))
  rw [if_neg c1]
  by_cases k7 : r = 7
  · subst k7; exact seg_esc 97 7 (fun n R => by simp [unq])
  by_cases k8 : r = 8
  · subst k8; exact seg_esc 98 8 (fun n R => by simp [unq])
  by_cases k12 : r = 12
  · subst k12; exact seg_esc 102 12 (fun n R => by simp [unq])
  by_cases k10 : r = 10
  · subst k10; exact seg_esc 110 10 (fun n R => by simp [unq])
  by_cases k13 : r = 13
  · subst k13; exact seg_esc 114 13 (fun n R => by simp [unq])
  by_cases k9 : r = 9
  · subst k9; exact seg_esc 116 9 (fun n R => by simp [unq])
  by_cases k11 : r = 11
  · subst k11; exact seg_esc 118 11 (fun n R => by simp [unq])
  rw [if_neg (by omega), if_neg (by omega), if_neg (by omega), if_neg (by omega), if_neg (by omega), if_neg (by omega), if_neg (by omega)]
  by_cases c9 : (r : Int) < 32 ∨ (r : Int) = 127
  · rw [if_pos c9, Int.toNat_natCast]
    have e : encodeRune (r : Int) = [r.toUInt8] := by
      unfold encodeRune
      rw [encodeRuneZ_one (by omega) (by omega)]
      simp
    rw [e]
    exact seg_x _ _ _ (by rw [hexN_two r (by omega)])
  rw [if_neg c9]
  by_cases c10 : validRune (r : Int) = false
  · rw [if_pos c10]
    refine seg_u _ _ rfl ?_
    rw [hexN_four 65533 (by omega)]
    have hb : (r : Int) < 0 ∨ (55296 ≤ (r : Int) ∧ (r : Int) ≤ 57343) ∨ 1114111 < (r : Int) := by
      simp [validRune] at c10
      omega
    unfold encodeRune
    rw [encodeRuneZ_bad hb]
    rfl
  rw [if_neg c10, Int.toNat_natCast]
  by_cases c11 : (r : Int) < 65536
  · rw [if_pos c11]
    exact seg_u _ _ rfl (by rw [hexN_four r (by omega)])
  · rw [if_neg c11]
    exact seg_U _ _ rfl (by rw [hexN_eight r (by omega)])

/-- One round of the quotation, at the head of a list. -/
def stepL (T : PrintTabs) (l : List UInt8) : List Int :=
  if (decodeL l).2 = 1 ∧ (decodeL l).1 = 65533 then [92, 120, hexDigit ((l.getD 0 0).toNat / 16), hexDigit ((l.getD 0 0).toNat % 16)] else escRune T ((decodeL l).1 : Int)
def qL (T : PrintTabs) : Nat → List UInt8 → List Int
  | 0, _ => []
  | f + 1, l => if l = [] then [] else stepL T l ++ qL T f (l.drop (decodeL l).2)
theorem seg_step (T : PrintTabs) (l : List UInt8) (hne : l ≠ []) : Seg (stepL T l) (l.take (decodeL l).2) := by
  unfold stepL
  by_cases h : (decodeL l).2 = 1 ∧ (decodeL l).1 = 65533
  · rw [if_pos h, h.1, takeA l (List.length_pos_iff.2 hne)]
    have := (l.getD 0 0).toNat_lt
    exact seg_x _ _ _ (by rw [hexN_two _ (by omega)]; simp)
  · rw [if_neg h, ← encode_decode l hne (fun e => h ⟨e.2, e.1⟩)]
    exact seg_rune T _ (decode_le _ _)
theorem unq_qL (T : PrintTabs) : ∀ (f : Nat) (l : List UInt8) (n : Nat), l.length ≤ f → (qL T f l).length + 1 ≤ n → unq n (qL T f l ++ [34]) = l
  | 0, l, n, hl, hn => by
    have : l = [] := List.length_eq_zero_iff.1 (by omega)
    subst this
    obtain ⟨m, rfl⟩ : ∃ m, n = m + 1 := ⟨n - 1, by omega⟩
    simp [qL, unq]
  | f + 1, l, n, hl, hn => by
    by_cases hne : l = []
    · subst hne
      obtain ⟨m, rfl⟩ : ∃ m, n = m + 1 := ⟨n - 1, by omega⟩
      simp [qL, unq]
    · unfold qL at hn ⊢
      rw [if_neg hne] at hn ⊢
      obtain ⟨k, k1, k2, hk⟩ := seg_step T l hne
      rw [List.length_append] at hn
      obtain ⟨m, rfl⟩ : ∃ m, n = m + k := ⟨n - k, by omega⟩
      have hw := decodeL_width l
      rw [List.append_assoc, hk, unq_qL T f _ m (by rw [List.length_drop]; omega) (by omega), List.take_append_drop]

theorem size_arr (l : List UInt8) : (ByteArray.mk l.toArray).size = l.length := by simp [ByteArray.size]
theorem get_arr (l : List UInt8) : (ByteArray.mk l.toArray).get! 0 = l.getD 0 0 := by
  show l.toArray[0]! = l.getD 0 0
  cases l
  · rfl
  · simp
theorem extract_arr (l : List UInt8) (k : Nat) : (ByteArray.mk l.toArray).extract k (ByteArray.mk l.toArray).size = ByteArray.mk (l.drop k).toArray := by
  apply ByteArray.ext
  rw [ByteArray.data_extract, size_arr]
  apply Array.toList_inj.1
  simp
  exact List.take_of_length_le (by simp)
theorem quoteFrom_list (T : PrintTabs) : ∀ (f : Nat) (l : List UInt8), quoteFrom T f ⟨l.toArray⟩ = qL T f l
  | 0, _ => rfl
  | f + 1, l => by
    unfold quoteFrom qL
    rw [size_arr]
    by_cases h : l = []
    · subst h; simp
    · have h' : 0 < l.length := List.length_pos_iff.2 h
      have ee := extract_arr l (Utf8.decode ⟨l.toArray⟩ 0).2
      rw [size_arr] at ee
      rw [if_pos h', if_neg h, ee, quoteFrom_list T f]
      congr 1
      unfold quoteStep stepL
      rw [get_arr]
      rfl
theorem nums_inj : ∀ {a b : List UInt8}, Go.Extern.FmtText.nums a = Go.Extern.FmtText.nums b → a = b
  | [], [], _ => rfl
  | [], _ :: _, h => by simp [Go.Extern.FmtText.nums] at h
  | _ :: _, [], h => by simp [Go.Extern.FmtText.nums] at h
  | x :: a, y :: b, h => by
    simp only [Go.Extern.FmtText.nums, List.map_cons, List.cons.injEq] at h
    obtain ⟨h1, h2⟩ := h
    have e : x = y := UInt8.toNat_inj.1 (by omega)
    rw [e, nums_inj h2]
/-- Two texts with one quotation are one text. -/
theorem quote_inj {a b : List UInt8} (h : Go.Extern.FmtText.quote false a = Go.Extern.FmtText.quote false b) : a = b := by
  have h2 := congrArg Go.Extern.FmtText.nums h
  rw [Go.Extern.FmtText.quote_eq, Go.Extern.FmtText.quote_eq] at h2
  unfold quoteZ at h2
  rw [size_arr, size_arr, quoteFrom_list, quoteFrom_list] at h2
  have h3 := (List.cons.inj h2).2
  have ua := unq_qL Go.Extern.FmtText.tabs a.length a ((qL Go.Extern.FmtText.tabs a.length a).length + 1) (Nat.le_refl _) (Nat.le_refl _)
  have el : (qL Go.Extern.FmtText.tabs a.length a).length = (qL Go.Extern.FmtText.tabs b.length b).length := by
    have := congrArg List.length h3
    simpa using this
  have ub := unq_qL Go.Extern.FmtText.tabs b.length b ((qL Go.Extern.FmtText.tabs a.length a).length + 1) (Nat.le_refl _) (by omega)
  rw [← ua, h3, ub]
end Go.Proofs.YtbknmeggdhaliaaFmt.tag
