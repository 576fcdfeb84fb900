/- The walk of the law 'FnIsEvalOrArgumentsRefusesExtensionsAndCase': it returns true and leaves what was there as it was. No conditions. -/
import Derived.Test.YtfkamkbkpnnokaaRows
import Derived.Test.YtfkamkbkpnnokaaLib
import Derived.Laws.IdiomStrings
namespace Go.Proofs.Ytfkamkbkpnnokaa.fnIsEvalOrArgumentsRefusesExtensionsAndCase
open Go.ChangeShapes Go.WideShapes Go.ChangeAt Go.RowKit Go.Mine
set_option linter.unusedVariables false

def isE (l : List UInt8) : Bool := l == [101, 118, 97, 108] || l == [97, 114, 103, 117, 109, 101, 110, 116, 115]
def upB (c : UInt8) : UInt8 := if 97 ≤ c ∧ c ≤ 122 then c - 32 else c

theorem isE_ext (s t : List UInt8) (h : isE s = true) (ht : t ≠ []) : isE (s ++ t) = false := by
  simp only [isE, Bool.or_eq_true, beq_iff_eq] at h
  rcases h with rfl | rfl
  · cases t with
    | nil => exact absurd rfl ht
    | cons x xs => simp [isE]
  · cases t with
    | nil => exact absurd rfl ht
    | cons x xs => simp [isE]
theorem isE_up (s : List UInt8) (h : isE s = true) : isE (s.map upB) = false := by
  simp only [isE, Bool.or_eq_true, beq_iff_eq] at h
  rcases h with rfl | rfl <;> decide

theorem bytes_any (a b : ByteArray) (w : World) (ha : a.size ≤ maxLen) (hb : b.size ≤ maxLen) : Calls Try.prog 14 #[.string a, .string b] w fun e w' => (∃ r : Bool, e = .returned (.bool r)) ∧ w = w' := by
  unfold maxLen at ha hb
  go_enter Try.func14, Try.ntmps14
  go_wp2
  all_goals
    go_ret
    exact ⟨⟨_, rfl⟩, rfl⟩

theorem is_yes (s : ByteArray) (w : World) (h : isE s.toList = true) : Calls Try.prog 15 #[.string s] w fun e w' => e = .returned (.bool true) ∧ w = w' := by
  have H := Lib.hid h
  clear h
  go_enter Try.func15, Try.ntmps15
  go_wp2
  all_goals
    go_ret
    exact ⟨ret_bool2 (by first | rfl | exact H.out), rfl⟩
theorem is_no (s : ByteArray) (w : World) (h : isE s.toList = false) : Calls Try.prog 15 #[.string s] w fun e w' => e = .returned (.bool false) ∧ w = w' := by
  have H := Lib.hid h
  clear h
  go_enter Try.func15, Try.ntmps15
  go_wp2
  all_goals
    go_ret
    first
      | exact ⟨ret_bool2 H.out, rfl⟩
      | (have h := H.out; rename_i ht; rw [ht] at h; exact absurd h (by decide))

theorem up_yes {c : UInt8} (h1 : (97 : Int) ≤ (c.toNat : Int)) (h2 : (c.toNat : Int) ≤ 122) : ((upB c).toNat : Int) = (c.toNat : Int) - 97 + 65 := by
  unfold upB
  rw [if_pos ⟨by rw [UInt8.le_iff_toNat_le]; simpa using (by omega : 97 ≤ c.toNat), by rw [UInt8.le_iff_toNat_le]; simpa using (by omega : c.toNat ≤ 122)⟩]
  rw [UInt8.toNat_sub_of_le _ _ (by rw [UInt8.le_iff_toNat_le]; simp; omega)]
  simp; omega
theorem up_no {c : UInt8} (h : ¬ ((97 : Int) ≤ (c.toNat : Int) ∧ (c.toNat : Int) ≤ 122)) : upB c = c := by
  unfold upB
  rw [if_neg]
  rintro ⟨h1, h2⟩
  rw [UInt8.le_iff_toNat_le] at h1 h2
  simp at h1 h2
  omega
theorem ret_string {a b : ByteArray} (h : a = b) : Ending.returned (.string a) = .returned (.string b) := by rw [h]
def val (c : UInt8) : Value := .int .u8 (c.toNat : Int)

theorem upper_any (s : ByteArray) (w : World) (hs : s.size ≤ 1048576) : Calls Try.prog 16 #[.string s] w fun e w' => e = .returned (.string ⟨(s.data.toList.map upB).toArray⟩) ∧ Below w.heap.size w w' := by
  obtain ⟨L, hL⟩ : ∃ L, L = s.data.toList.map upB := ⟨_, rfl⟩
  have hlen : L.length = s.size := by rw [hL]; simp
  have hmk := run_make_row' 37 5 (.int .u8 0) 1 Try.underlying37 (by kernel_rfl) rfl .i64 .i64 s.size (by omega) (by omega)
  have fs := fill_start (L.map val) (.int .u8 0)
  rw [List.length_map, hlen] at fs
  rw [fs] at hmk
  have hcv : ∀ w' : World, w' = w.alloc (.cells (fillTo (L.map val) (.int .u8 0) s.size) 5) → (convert 37 9 (.slice (some ⟨w.heap.size, 0, none⟩) s.size s.size)).run Try.prog w' = .ok (.string ⟨L.toArray⟩) w' := by
    rintro w' rfl
    have := run_convert_bytes_back (P := Try.prog) (w.alloc (.cells (fillTo (L.map val) (.int .u8 0) s.size) 5)) 37 9 5 ⟨w.heap.size, 0, none⟩ s.size L Try.underlying37 Try.underlying5 Try.underlying9 (fun j hj => by
      have fe := fill_end (L.map val) (.int .u8 0)
      rw [List.length_map, hlen] at fe
      have e2 : (Addr.mk w.heap.size 0 none).add j = ⟨w.heap.size, j, none⟩ := by
        by_cases h0 : j = 0
        · subst h0; simp [Addr.add]
        · simp [Addr.add, h0]
      rw [fe, e2]
      simp [go_sem, hj, val])
    rw [hlen] at this
    exact this
  have Hcv := Lib.hid hcv
  have HL := Lib.hid hL
  have Hlen := Lib.hid hlen
  clear hL hlen fs hcv
  go_enter Try.func16, Try.ntmps16
  go_wp2
  go_loopw [4] (fun i wr => ∃ k : Nat, k ≤ s.size ∧ i = .int .i64 k ∧ wr = w.alloc (.cells (fillTo (L.map val) (.int .u8 0) k) 5)) (fun i _ => s.size - (intOf i).toNat)
  case atStart => exact ⟨0, Nat.zero_le _, rfl, rfl⟩
  case round =>
    obtain ⟨k, hk, rfl, rfl⟩ := hrel
    clear hmk
    by_cases hlt : k < s.size
    · have hkl : k < L.length := by rw [Hlen.out]; exact hlt
      have hv : L[k] = upB s[k] := by
        have h := HL.out
        subst h
        simp
        rfl
      have hsz := fill_size (L.map val) (.int .u8 0) (k := k) (by simp; omega)
      rw [List.length_map, Hlen.out] at hsz
      have hfs := Lib.hid (fill_set (zs := L.map val) (z := .int .u8 0) (v := val (upB s[k])) (k := k) (by simpa using hkl) (by simp [hkl, hv]))
      clear hkl hv
      go_wp2
      all_goals
        go_roundw
        case rel =>
          refine ⟨k + 1, by omega, by go_num, ?_⟩
          rw [← hfs.out]
          go_light
          first
            | rw [show val (upB s[k]) = .int .u8 ((s[k].toNat : Int) - 97 + 65) by unfold val; rw [up_yes ‹_› ‹_›]]
            | rw [show val (upB s[k]) = .int .u8 (s[k].toNat : Int) by unfold val; rw [up_no (by omega)]]
        case measure => simp [intOf]; omega
    · have e : k = s.size := by omega
      subst e
      have hcv := Hcv.out _ rfl
      go_wp2
      go_ret
      exact ⟨ret_string (by rw [HL.out]), (Below.refl _ _).alloc (Nat.le_refl _) _⟩

theorem isE_app (a b : ByteArray) (h : isE a.toList = true) (hne : b.data.toList ≠ []) : isE (a ++ b).toList = false := by
  rw [ByteArray.toList_eq, ByteArray.data_append, Array.toList_append]
  rw [ByteArray.toList_eq] at h
  exact isE_ext _ _ h hne
theorem isE_upper (a : ByteArray) (h : isE a.toList = true) : isE (ByteArray.mk (a.data.toList.map upB).toArray).toList = false := by
  rw [ByteArray.toList_eq] at h ⊢
  exact isE_up _ h

theorem walk (a0 : ByteArray) (a1 : ByteArray) (w : World) (w0 : a0.size ≤ maxLen) (w1 : a1.size ≤ maxLen) :
    Calls Try.prog 5 #[.string a0, .string a1] w fun e w' => e = .returned (.bool true) ∧ Below w.heap.size w w' := by
  have s0 := w0
  have s1 := w1
  unfold maxLen at w0 w1
  go_enter Try.func5, Try.ntmps5
  go_wp2_with fail
  refine (bytes_any a0 a1 _ s0 s1).mono ?_
  rintro e w' ⟨⟨r, rfl⟩, rfl⟩
  cases r with
  | false =>
    go_wp2_with fail
    go_ret
    exact ⟨rfl, Below.refl _ _⟩
  | true =>
    by_cases hE : isE a0.toList = true
    · go_wp2_with fail
      all_goals try (go_ret; exact ⟨rfl, Below.refl _ _⟩)
      have hE' := Lib.hid hE
      have q0 : a0.size ≤ 1048576 := by go_light; omega
      have hne : a1.data.toList ≠ [] := by
        have h : ((a1.size : Int) == 0) = false := by assumption
        intro h2
        have : a1.size = 0 := by rw [← ByteArray.size_data, ← Array.length_toList, h2]; rfl
        rw [this] at h
        simp at h
      have H1 := Lib.hid (isE_app a0 a1 hE hne)
      have H2 := Lib.hid (isE_upper a0 hE)
      clear hE hne
      refine (is_yes a0 _ hE'.out).mono ?_
      rintro e w' ⟨rfl, rfl⟩
      go_wp2_with fail
      refine (is_no _ _ H1.out).mono ?_
      rintro e w' ⟨rfl, rfl⟩
      go_wp2_with fail
      refine (upper_any _ _ q0).mono ?_
      rintro e w1 ⟨rfl, hb⟩
      have B := Lib.hid hb
      clear hb
      go_wp2_with fail
      refine (is_no _ _ H2.out).mono ?_
      rintro e w' ⟨rfl, rfl⟩
      go_wp2_with fail
      go_ret
      exact ⟨rfl, B.out⟩
    · have hE' := Lib.hid (Bool.eq_false_iff.2 hE)
      clear hE
      go_wp2_with fail
      all_goals try (go_ret; exact ⟨rfl, Below.refl _ _⟩)
      refine (is_no a0 _ hE'.out).mono ?_
      rintro e w' ⟨rfl, rfl⟩
      go_wp2_with fail
      go_ret
      exact ⟨rfl, Below.refl _ _⟩
end Go.Proofs.Ytfkamkbkpnnokaa.fnIsEvalOrArgumentsRefusesExtensionsAndCase
