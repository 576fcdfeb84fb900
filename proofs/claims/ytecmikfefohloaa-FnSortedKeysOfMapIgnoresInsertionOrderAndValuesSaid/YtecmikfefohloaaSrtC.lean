/- Sets of keys as maps: plain steps. No conditions beyond the hypotheses. -/
import Derived.Test.YtecmikfefohloaaSrtA
namespace Go.Proofs.Ytecmikfefohloaa.srt
open Go.ChangeShapes Go.WideShapes Go.ChangeAt Go.RowKit Go.Mine Go.Maps Go.Sort
set_option linter.unusedVariables false
set_option linter.unusedSimpArgs false

def HasIs {H : Type} (D : DataW H) (S : List UInt8 → Prop) : Prop := ∀ x, Maps.has D (.string x) = true ↔ S x
theorem hasIs_nil {H : Type} : HasIs (DataW.map ([] : List (Lit × DataW H))) (fun _ => False) := fun x => by simp [Maps.has]
theorem hasIs_put {H : Type} {D : DataW H} {S : List UInt8 → Prop} (h : HasIs D S) (hD : IsMap D) (y : List UInt8) (d : DataW H) : HasIs (D.put (.string y) d) (fun x => x = y ∨ S x) := fun x => by
  by_cases e : x = y
  · subst e
    rw [has_put_same hD (by first | trivial | simp [WideAt.IsKeyLit])]
    simp
  · rw [has_put_other (by intro h; injection h with h; exact e h), h x]
    simp [e]
theorem keysOf_eq {H : Type} {D1 D2 : DataW H} {S : List UInt8 → Prop} (h1 : HasIs D1 S) (h2 : HasIs D2 S) {s1 s2 : List (List UInt8)} (k1 : KeysOf D1 s1) (k2 : KeysOf D2 s2) :
    s1.mergeSort (fun x y => decide (x ≤ y)) = s2.mergeSort (fun x y => decide (x ≤ y)) := by
  have hp : s1.Perm s2 := (List.perm_ext_iff_of_nodup k1.1 k2.1).2 (fun x => by rw [k1.2, k2.2, h1 x, h2 x])
  exact mergeSort_of_perm hp
theorem mem_sorted {s : List (List UInt8)} (x : List UInt8) : x ∈ s.mergeSort (fun x y => decide (x ≤ y)) ↔ x ∈ s := List.mem_mergeSort
end Go.Proofs.Ytecmikfefohloaa.srt
