/- The law's three maps: what the loops that fill them keep. No conditions beyond the hypotheses. -/
import Derived.Test.YtecmikfefohloaaSrtB
namespace Go.Proofs.Ytecmikfefohloaa.srt
open Go.ChangeShapes Go.WideShapes Go.ChangeAt Go.RowKit Go.Mine Go.Maps Go.Sort
set_option linter.unusedVariables false
set_option linter.unusedSimpArgs false
set_option maxRecDepth 100000

theorem makeMap_hint (w : World) (k : IntKind) (n : Int) : (Instr.makeMap 26 (some (.int k n))).run Try.prog w = .ok (.map (some w.heap.size)) (w.alloc (.map #[] 0)) := by
  simp [Instr.makeMap, run_underlying Try.underlying26, asInt, asIntOf, Result.andThen]
/-- The map in block b holds the keys of S, n of them at the most. -/
def MapIs (wr : World) (b n : Nat) (S : List UInt8 → Prop) : Prop := ∃ D : DataW Unit, wr.ownsMap Try.prog 9 R0 b n D ∧ HasIs D S
theorem MapIs.new (w : World) : MapIs (w.alloc (.map #[] 0)) w.heap.size 0 (fun _ => False) := ⟨_, World.ownsMap_made _ _ _ _, hasIs_nil⟩
theorem MapIs.below {w w' : World} {b n : Nat} {S : List UInt8 → Prop} (h : MapIs w b n S) (hb : Below w.heap.size w w') : MapIs w' b n S := by
  obtain ⟨D, h1, h2⟩ := h
  exact ⟨D, h1.kept ⟨hb.os, hb.tape, hb.output, hb.size, fun k hk _ => hb.block k hk⟩ (row := none) (by simp), h2⟩
theorem MapIs.drewN {w : World} {b n : Nat} {S : List UInt8 → Prop} (h : MapIs w b n S) (m : Nat) : MapIs (w.drewN m) b n S := h.below (below_drewN' m)
theorem MapIs.congr {w : World} {b n : Nat} {S T : List UInt8 → Prop} (h : MapIs w b n S) (e : ∀ x, S x ↔ T x) : MapIs w b n T := by
  obtain ⟨D, h1, h2⟩ := h
  exact ⟨D, h1, fun x => (h2 x).trans (e x)⟩
def bs (s : ByteArray) : List UInt8 := s.data.toList
def Keyz (S : List UInt8 → Prop) (n : Nat) (w : World) (e : Ending) (w' : World) : Prop :=
  ∃ (g cap : Nat) (ss : List (List UInt8)), e = .returned (.slice (some ⟨g, 0, none⟩) ss.length cap) ∧ (ss.Nodup ∧ ∀ x, x ∈ ss ↔ S x) ∧ ss.length ≤ n ∧ SRow w.heap.size w' g cap ss.length (ss.mergeSort (fun x y => decide (x ≤ y))) ∧ Below w.heap.size w w'
theorem sorted_of {w : World} {b n : Nat} {S : List UInt8 → Prop} (h : MapIs w b n S) (hn : n ≤ 70000) : Calls Try.prog 9 #[.map (some b)] w (Keyz S n w) := by
  obtain ⟨D, h1, h2⟩ := h
  refine (keys_any b n D w h1 (Nat.le_trans h1.size_le hn)).mono ?_
  rintro e w' ⟨g, cap, ss, he, ⟨hk, hs⟩, hr, hb⟩
  exact ⟨g, cap, ss, he, ⟨hk.1, fun x => (hk.2 x).trans (h2 x)⟩, Nat.le_trans hs h1.size_le, ⟨List.length_mergeSort _, hr⟩, hb⟩
theorem sortedZ {w : World} {b n : Nat} {S : List UInt8 → Prop} (h : MapIs w b n S) (hn : n ≤ 70000) : Calls Try.prog 7 #[.map (some b)] w (Keyz S n w) := by
  have H := Lib.hid (sorted_of h hn)
  clear h
  go_enter Try.func7, Try.ntmps7
  go_wp2_with fail
  refine H.out.mono ?_
  rintro e w' ⟨g, cap, ss, rfl, h1, h2, h3, h4⟩
  have K : Hid (Keyz S n w (.returned (.slice (some ⟨g, 0, none⟩) ss.length cap)) w') := ⟨g, cap, ss, rfl, h1, h2, h3, h4⟩
  clear h1 h2 h3 h4
  go_wp2_with fail
  go_ret
  exact K.out
theorem same_sorted {S : List UInt8 → Prop} {s1 s2 : List (List UInt8)} (h1 : s1.Nodup ∧ ∀ x, x ∈ s1 ↔ S x) (h2 : s2.Nodup ∧ ∀ x, x ∈ s2 ↔ S x) : s1.mergeSort (fun x y => decide (x ≤ y)) = s2.mergeSort (fun x y => decide (x ≤ y)) ∧ s1.length = s2.length := by
  have hp : s1.Perm s2 := (List.perm_ext_iff_of_nodup h1.1 h2.1).2 (fun x => by rw [h1.2, h2.2])
  exact ⟨mergeSort_of_perm hp, hp.length_eq⟩
/-- The keys ahead of place k; the keys from place k on. -/
def Fst (z : List ByteArray) (k : Nat) (x : List UInt8) : Prop := ∃ j, j < k ∧ bs (z.getD j ByteArray.empty) = x
def Lst (z : List ByteArray) (l k : Nat) (x : List UInt8) : Prop := ∃ j, k ≤ j ∧ j < l ∧ bs (z.getD j ByteArray.empty) = x
theorem fst_succ (z : List ByteArray) (k : Nat) (x : List UInt8) : (x = bs (z.getD k ByteArray.empty) ∨ Fst z k x) ↔ Fst z (k + 1) x := by
  constructor
  · rintro (h | ⟨j, hj, h⟩)
    · exact ⟨k, by omega, h.symm⟩
    · exact ⟨j, by omega, h⟩
  · rintro ⟨j, hj, h⟩
    by_cases e : j = k
    · subst e; exact .inl h.symm
    · exact .inr ⟨j, by omega, h⟩
theorem lst_pred (z : List ByteArray) (l k : Nat) (hk : k < l) (x : List UInt8) : (x = bs (z.getD k ByteArray.empty) ∨ Lst z l (k + 1) x) ↔ Lst z l k x := by
  constructor
  · rintro (h | ⟨j, hj, hl, h⟩)
    · exact ⟨k, Nat.le_refl _, hk, h.symm⟩
    · exact ⟨j, by omega, hl, h⟩
  · rintro ⟨j, hj, hl, h⟩
    by_cases e : j = k
    · subst e; exact .inl h.symm
    · exact .inr ⟨j, by omega, hl, h⟩
theorem lst_fst (z : List ByteArray) (l : Nat) (x : List UInt8) : Lst z l 0 x ↔ Fst z l x := ⟨fun ⟨j, _, h, e⟩ => ⟨j, h, e⟩, fun ⟨j, h, e⟩ => ⟨j, Nat.zero_le _, h, e⟩⟩
theorem mapIs_put {w w' : World} {b n : Nat} {S : List UInt8 → Prop} {D : DataW Unit} (h1 : w.ownsMap Try.prog 9 R0 b n D) (h2 : HasIs D S) (y : List UInt8) (d : DataW Unit) (h : w'.ownsMap Try.prog 9 R0 b (n + 1) (D.put (.string y) d)) : MapIs w' b (n + 1) (fun x => x = y ∨ S x) :=
  ⟨_, h, hasIs_put h2 h1.isMap y d⟩
end Go.Proofs.Ytecmikfefohloaa.srt
