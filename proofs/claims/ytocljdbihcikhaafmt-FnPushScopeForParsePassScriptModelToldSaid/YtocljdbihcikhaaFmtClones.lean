/- The contracts of the copy functions of this seat. No conditions beyond their hypotheses. -/
import Derived.Test.YtocljdbihcikhaaFmtRows
import Derived.Test.YtocljdbihcikhaaFmtLib
namespace Go.Proofs.YtocljdbihcikhaaFmt
open Go.ChangeShapes Go.WideShapes Go.ChangeAt Go.RowKit Go.Mine
set_option linter.unusedVariables false

theorem clone5_some (b off : Nat) (s : Option Nat) (len cap : Nat) (zs : List Int) (w : World) (hz : zs.length = len) (hl : len ≤ 1099511627776) (hlc : len ≤ cap) (hb : 0 < len → s = none ∧ b < w.heap.size)
    (hc : ∀ i, i < len → w.cell? ⟨b, off + i, none⟩ = some (.int .u8 (zs.getD i 0))) :
    Calls Tryf.prog 5 #[.slice (some ⟨b, off, s⟩) len cap] w fun e w' => e = .returned (.slice (some ⟨w.heap.size, 0, none⟩) len len) ∧ w' = w.alloc (.cells (zs.map (.int .u8)).toArray 5) := by
  subst hz
  have hmk := run_make_row' 22 5 (.int .u8 0) 1 Tryf.underlying22 (by kernel_rfl) rfl .i64 .i64 zs.length (by omega) (by omega)
  have hnil := fun w => Lib.run_eql_slice_nil (P := Tryf.prog) w 22 5 (some ⟨b, off, s⟩) zs.length cap 0 0 Tryf.underlying22
  have fs := fill_start (zs.map (.int .u8)) (.int .u8 0)
  rw [List.length_map] at fs
  rw [fs] at hmk
  have Hc := Lib.hid hc
  clear hc fs
  go_enter Tryf.func5, Tryf.ntmps5
  go_wp2
  go_loopw [4] (fun i wr => ∃ k : Nat, k ≤ zs.length ∧ i = .int .i64 k ∧ wr = w.alloc (.cells (fillTo (zs.map (.int .u8)) (.int .u8 0) k) 5)) (fun i _ => zs.length - (intOf i).toNat)
  case atStart => exact ⟨0, Nat.zero_le _, rfl, rfl⟩
  case round =>
    obtain ⟨k, hk, rfl, rfl⟩ := hrel
    clear hmk
    by_cases hlt : k < zs.length
    · obtain ⟨rfl, hb⟩ := hb (by omega)
      have c0 := Hc.out k hlt
      have hsz := fill_size (zs.map (.int .u8)) (.int .u8 0) (k := k) (by simp; omega)
      have hfs := Lib.hid (fill_set (zs := zs.map (.int .u8)) (z := .int .u8 0) (v := .int .u8 zs[k]) (k := k) (by simpa using hlt) (by simp [hlt]))
      rw [List.length_map] at hsz
      have hne : b ≠ w.heap.size := by omega
      go_wp2
      go_roundw
      case rel => exact ⟨k + 1, by omega, by go_num, by rw [hfs.out]⟩
      case measure => simp [intOf]; omega
    · have e : k = zs.length := by omega
      subst e
      go_wp2
      go_ret
      have fe := fill_end (zs.map (.int .u8)) (.int .u8 0)
      rw [List.length_map] at fe
      exact ⟨rfl, by rw [fe]⟩

theorem clone5 (a : Option Addr) (len cap : Nat) (zs : List Int) (w : World) (h : RowOf (.int .u8) 0 (fun n : Int => (Lit.int .u8 n).wf = true) w a len cap zs) (hl : len ≤ 1099511627776) :
    Calls Tryf.prog 5 #[.slice a len cap] w (Cloned (.int .u8) 0 (fun n : Int => (Lit.int .u8 n).wf = true) w a len zs) := by
  have h0 := h
  obtain ⟨h1, h2, h3, h4, h5⟩ := h
  rcases h5 with ⟨rfl, rfl, rfl⟩ | ⟨b, off, s, rfl, h6, h7⟩
  · have hnil := fun w => Lib.run_eql_slice_nil (P := Tryf.prog) w 22 5 none 0 0 0 0 Tryf.underlying22
    have H0 := Lib.hid h0
    clear h0 h1 h4
    go_enter Tryf.func5, Tryf.ntmps5
    go_wp2
    go_ret
    exact ⟨none, rfl, H0.out, Iff.rfl, (fun x hx => by cases hx), Below.refl _ _⟩
  · refine (clone5_some b off s len cap zs w h1 hl h2 h6 h7).mono fun e w' ⟨he, hw⟩ => ?_
    subst he
    subst hw
    subst h1
    exact ⟨_, rfl, rowOf_new _ _ _ _ _ _ (by unfold maxLen; omega) h4, ⟨fun h => by simp at h, fun h => by simp at h⟩, (fun x hx => by cases hx; exact ⟨Nat.le_refl _, rfl, rfl, by simp⟩), (Below.refl _ _).alloc (Nat.le_refl _) _⟩

end Go.Proofs.YtocljdbihcikhaaFmt
