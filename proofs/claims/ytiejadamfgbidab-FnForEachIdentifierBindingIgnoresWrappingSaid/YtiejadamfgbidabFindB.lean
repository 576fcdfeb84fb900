/- The contract of 'findIdentifiers' on every binding tree. No conditions beyond its hypotheses. -/
import Derived.Test.YtiejadamfgbidabFindA
namespace Go.Proofs.Ytiejadamfgbidab.find
open Go.ChangeShapes Go.WideShapes Go.ChangeAt Go.RowKit Go.Mine
set_option linter.unusedVariables false
set_option maxRecDepth 100000

def FH (B : Nat) (S : Nat → Prop) (w0 : World) (T p : Nat) (l : Int) (ls : List (Nat × Int)) : Prop :=
  ∀ (w : World) (v : Value) (n : Nat) (xs : List Value), Kp S w0 w → B ≤ w.heap.size → w.ownsRow B 61 4 v n xs → (∀ b, v.ownBlock = some b → ¬ S b) → (∀ b, S b → b < w.heap.size) → n + ls.length ≤ 20000 →
    Calls Try.prog 40 #[.agg #[.iface T (ptr p), .int .i32 l], v] w (Fnd B v n xs ls w)
theorem flat_le {α : Type} (ls : Nat → List α) {k m : Nat} (h : k < m) : ((List.range k).flatMap ls).length + (ls k).length ≤ ((List.range m).flatMap ls).length := by
  induction m with
  | zero => omega
  | succ m ih =>
    rw [List.range_succ, List.flatMap_append, List.length_append]
    by_cases e : k = m
    · subst e; simp
    · have := ih (by omega); omega
theorem flat_succ {α : Type} (ls : Nat → List α) (k : Nat) : (List.range (k + 1)).flatMap ls = (List.range k).flatMap ls ++ ls k := by rw [List.range_succ, List.flatMap_append]; simp
/-- What the callee at a kid asks for, off the loop's relation. -/
theorem kid_ready {B : Nat} {S : Nat → Prop} {w0 w wr : World} {T q : Nat} {lo : Int} {l1 : List (Nat × Int)} {v v' : Value} {n : Nat} {xs : List Value} {ls : List (Nat × Int)} (ih : FH B S w0 T q lo ls) (hK : Kp S w0 w) (hB : B ≤ w.heap.size)
    (hne : ∀ b, v.ownBlock = some b → ¬ S b) (hS : ∀ b, S b → b < w.heap.size) (F : Fd B v n xs l1 w v' wr) (hn : n + (l1.length + ls.length) ≤ 20000) (o : Obj) :
    Calls Try.prog 40 #[.agg #[.iface T (ptr q), .int .i32 lo], v'] (wr.alloc o) fun e w3 => ∃ a3 n3 c3, e = .returned (.slice a3 n3 c3) ∧ Fd B v n xs (l1 ++ ls) w (.slice a3 n3 c3) w3 := by
  have hKw : Kp S w0 wr := hK.same F.same (fun b hb hx => hne b hx hb) hS
  refine (ih (wr.alloc o) v' (n + l1.length) (xs ++ l1.flatMap dec) (fun b hb => ?_) ?_ (F.own.alloc o) (fun b hb hs => ?_) (fun b hb => ?_) (by omega)).mono ?_
  · rw [Below.heap_alloc _ _ _ (Nat.lt_of_lt_of_le (hS b hb) F.same.1)]
    exact hKw b hb
  · have := F.same.1; simp; omega
  · rcases F.blk b hb with e | e
    · exact hne b e hs
    · have := hS b hs; omega
  · have := hS b hb; have := F.same.1; simp; omega
  · rintro e w3 ⟨v3, rfl, h3⟩
    obtain ⟨a3, c3, rfl⟩ := own_form h3.own
    exact ⟨a3, _, c3, rfl, F.trans (h3.pre ((Below.refl _ _).alloc (Nat.le_refl _) _) (Nat.le_trans hB F.same.1))⟩
theorem kp_loop {B : Nat} {S : Nat → Prop} {w0 w wr : World} {v v' : Value} {n : Nat} {xs : List Value} {l1 : List (Nat × Int)} (hK : Kp S w0 w) (hne : ∀ b, v.ownBlock = some b → ¬ S b) (hS : ∀ b, S b → b < w.heap.size) (F : Fd B v n xs l1 w v' wr) {R : Nat} {C : Array Value} {t : TypeId} (hR : S R) (hb : Blk w0 R C t) : Blk wr R C t :=
  (hK.same F.same (fun b hb hx => hne b hx hb) hS R hR).trans hb
set_option maxHeartbeats 2000000 in
theorem find_arr (B : Nat) (S : Nat → Prop) (w0 : World) (p : Nat) (l : Int) (R m c : Nat) (C : Array Value) (T q : Nat → Nat) (lo : Nat → Int) (ls : Nat → List (Nat × Int)) (hp : S p) (hR : S R) (hm : m ≤ 8) (hc : w0.cell? ⟨p, 0, none⟩ = some (.slice (some ⟨R, 0, none⟩) m c)) (hb : Blk w0 R C 73)
    (hk : ∀ i, i < m → C[i * 5]? = some (.iface (T i) (ptr (q i))) ∧ C[i * 5 + 1]? = some (.int .i32 (lo i)) ∧ C[i * 5 + 2]? = some .nilIface ∧ C[i * 5 + 3]? = some (.int .i32 0) ∧ C[i * 5 + 4]? = some (.int .i32 0))
    (ih : ∀ i, i < m → FH B S w0 (T i) (q i) (lo i) (ls i)) : FH B S w0 68 p l ((List.range m).flatMap ls) := by
  intro w v n xs hK hB ho hne hS hn
  obtain ⟨a, cc, rfl⟩ := own_form ho
  have cw : w.cell? ⟨p, 0, none⟩ = some (.slice (some ⟨R, 0, none⟩) m c) := (cell_of_block (hK p hp) 0).trans hc
  have hl := cell_lt cw
  have hl1 := Nat.lt_succ_of_lt hl
  have F0 := Lib.hid (((Fd.refl ho).post ((Below.refl _ _).alloc (Nat.le_refl _) (.cells #[.iface 68 (.pointer (some ⟨p, 0, none⟩)), .int .i32 l] 59)) hB))
  have KR := Lib.hid (fun (k : Nat) (hlt : k < m) (v' : Value) (wr : World) (o : Obj) (F : Fd B (.slice a n cc) n xs ((List.range k).flatMap ls) w v' wr) => kid_ready (ih k hlt) hK hB hne hS F (by have := flat_le ls hlt; omega) o)
  have BR := Lib.hid (fun (k : Nat) (v' : Value) (wr : World) (F : Fd B (.slice a n cc) n xs ((List.range k).flatMap ls) w v' wr) => kp_loop hK hne hS F hR hb)
  have HC := Lib.hid hk
  clear ih hK hB hne hS hn ho hc hb hk hp hR
  unfold ptr
  go_enter Try.func40, Try.ntmps40
  go_wp2_with fail
  go_loopw [30, 1] (fun i s wr => ∃ k : Nat, k ≤ m ∧ i = .int .i64 k ∧ ∃ a' n' c', s = .slice a' n' c' ∧ Hid (Fd B (.slice a n cc) n xs ((List.range k).flatMap ls) w (.slice a' n' c') wr)) (fun i _ _ => m - (intOf i).toNat)
  case atStart => exact ⟨0, Nat.zero_le _, rfl, a, n, cc, rfl, F0⟩
  case round =>
    obtain ⟨k, hk, rfl, a', n', c', rfl, F⟩ := hrel
    clear F0 cw hl hl1
    by_cases hlt : k < m
    · have hB := BR.out k _ wr F.out
      obtain ⟨k0, k1, k2, k3, k4⟩ := HC.out k hlt
      have d0 : wr.cell? ⟨R, k * 5, none⟩ = some (.iface (T k) (.pointer (some ⟨q k, 0, none⟩))) := (hB.cell _).trans k0
      have d1 : wr.cell? ⟨R, k * 5 + 1, none⟩ = some (.int .i32 (lo k)) := (hB.cell _).trans k1
      have d2 : wr.cell? ⟨R, k * 5 + 2, none⟩ = some .nilIface := (hB.cell _).trans k2
      have d3 : wr.cell? ⟨R, k * 5 + 3, none⟩ = some (.int .i32 0) := (hB.cell _).trans k3
      have d4 : wr.cell? ⟨R, k * 5 + 4, none⟩ = some (.int .i32 0) := (hB.cell _).trans k4
      have hl := hB.lt
      have A := Lib.hid (KR.out k hlt _ wr (.cells #[.iface (T k) (.pointer (some ⟨q k, 0, none⟩)), .int .i32 (lo k), .nilIface, .int .i32 0, .int .i32 0] 73) F.out)
      clear hB k0 k1 k2 k3 k4
      go_wp2_with fail
      refine A.out.mono ?_
      rintro e w3 ⟨a3, n3, c3, rfl, hF3⟩
      have F3 := Lib.hid hF3
      clear hF3
      go_wp2_with fail
      go_roundw
      case rel => exact ⟨k + 1, by omega, by go_num, a3, n3, c3, rfl, (by rw [flat_succ]; exact F3)⟩
      case measure => simp [intOf]; omega
    · obtain rfl : k = m := by omega
      go_wp2_with fail
      go_ret
      exact ⟨_, rfl, F.out⟩
set_option maxHeartbeats 2000000 in
theorem find_obj (B : Nat) (S : Nat → Prop) (w0 : World) (p : Nat) (l : Int) (R m c : Nat) (C : Array Value) (T q : Nat → Nat) (lo : Nat → Int) (ls : Nat → List (Nat × Int)) (hp : S p) (hR : S R) (hm : m ≤ 8) (hc : w0.cell? ⟨p, 0, none⟩ = some (.slice (some ⟨R, 0, none⟩) m c)) (hb : Blk w0 R C 79)
    (hk : ∀ i, i < m → C[i * 11]? = some .nilIface ∧ C[i * 11 + 1]? = some (.int .i32 0) ∧ C[i * 11 + 2]? = some (.iface (T i) (ptr (q i))) ∧ C[i * 11 + 3]? = some (.int .i32 (lo i)) ∧ C[i * 11 + 4]? = some .nilIface ∧ C[i * 11 + 5]? = some (.int .i32 0) ∧
        C[i * 11 + 6]? = some (.int .i32 0) ∧ C[i * 11 + 7]? = some (.int .i32 0) ∧ C[i * 11 + 8]? = some (.bool false) ∧ C[i * 11 + 9]? = some (.bool false) ∧ C[i * 11 + 10]? = some (.bool false))
    (ih : ∀ i, i < m → FH B S w0 (T i) (q i) (lo i) (ls i)) : FH B S w0 77 p l ((List.range m).flatMap ls) := by
  intro w v n xs hK hB ho hne hS hn
  obtain ⟨a, cc, rfl⟩ := own_form ho
  have cw : w.cell? ⟨p, 0, none⟩ = some (.slice (some ⟨R, 0, none⟩) m c) := (cell_of_block (hK p hp) 0).trans hc
  have hl := cell_lt cw
  have hl1 := Nat.lt_succ_of_lt hl
  have F0 := Lib.hid (((Fd.refl ho).post ((Below.refl _ _).alloc (Nat.le_refl _) (.cells #[.iface 77 (.pointer (some ⟨p, 0, none⟩)), .int .i32 l] 59)) hB))
  have KR := Lib.hid (fun (k : Nat) (hlt : k < m) (v' : Value) (wr : World) (o : Obj) (F : Fd B (.slice a n cc) n xs ((List.range k).flatMap ls) w v' wr) => kid_ready (ih k hlt) hK hB hne hS F (by have := flat_le ls hlt; omega) o)
  have BR := Lib.hid (fun (k : Nat) (v' : Value) (wr : World) (F : Fd B (.slice a n cc) n xs ((List.range k).flatMap ls) w v' wr) => kp_loop hK hne hS F hR hb)
  have HC := Lib.hid hk
  clear ih hK hB hne hS hn ho hc hb hk hp hR
  unfold ptr
  go_enter Try.func40, Try.ntmps40
  go_wp2_with fail
  go_loopw [47, 1] (fun i s wr => ∃ k : Nat, k ≤ m ∧ i = .int .i64 k ∧ ∃ a' n' c', s = .slice a' n' c' ∧ Hid (Fd B (.slice a n cc) n xs ((List.range k).flatMap ls) w (.slice a' n' c') wr)) (fun i _ _ => m - (intOf i).toNat)
  case atStart => exact ⟨0, Nat.zero_le _, rfl, a, n, cc, rfl, F0⟩
  case round =>
    obtain ⟨k, hk, rfl, a', n', c', rfl, F⟩ := hrel
    clear F0 cw hl hl1
    by_cases hlt : k < m
    · have hB := BR.out k _ wr F.out
      obtain ⟨k0, k1, k2, k3, k4, k5, k6, k7, k8, k9, k10⟩ := HC.out k hlt
      have d0 : wr.cell? ⟨R, k * 11, none⟩ = some .nilIface := (hB.cell _).trans k0
      have d1 : wr.cell? ⟨R, k * 11 + 1, none⟩ = some (.int .i32 0) := (hB.cell _).trans k1
      have d2 : wr.cell? ⟨R, k * 11 + 2, none⟩ = some (.iface (T k) (.pointer (some ⟨q k, 0, none⟩))) := (hB.cell _).trans k2
      have d3 : wr.cell? ⟨R, k * 11 + 3, none⟩ = some (.int .i32 (lo k)) := (hB.cell _).trans k3
      have d4 : wr.cell? ⟨R, k * 11 + 4, none⟩ = some .nilIface := (hB.cell _).trans k4
      have d5 : wr.cell? ⟨R, k * 11 + 5, none⟩ = some (.int .i32 0) := (hB.cell _).trans k5
      have d6 : wr.cell? ⟨R, k * 11 + 6, none⟩ = some (.int .i32 0) := (hB.cell _).trans k6
      have d7 : wr.cell? ⟨R, k * 11 + 7, none⟩ = some (.int .i32 0) := (hB.cell _).trans k7
      have d8 : wr.cell? ⟨R, k * 11 + 8, none⟩ = some (.bool false) := (hB.cell _).trans k8
      have d9 : wr.cell? ⟨R, k * 11 + 9, none⟩ = some (.bool false) := (hB.cell _).trans k9
      have d10 : wr.cell? ⟨R, k * 11 + 10, none⟩ = some (.bool false) := (hB.cell _).trans k10
      have hl := hB.lt
      have A := Lib.hid (KR.out k hlt _ wr (.cells #[.nilIface, .int .i32 0, .iface (T k) (.pointer (some ⟨q k, 0, none⟩)), .int .i32 (lo k), .nilIface, .int .i32 0, .int .i32 0, .int .i32 0, .bool false, .bool false, .bool false] 79) F.out)
      clear hB k0 k1 k2 k3 k4 k5 k6 k7 k8 k9 k10
      go_wp2_with fail
      refine A.out.mono ?_
      rintro e w3 ⟨a3, n3, c3, rfl, hF3⟩
      have F3 := Lib.hid hF3
      clear hF3
      go_wp2_with fail
      go_roundw
      case rel => exact ⟨k + 1, by omega, by go_num, a3, n3, c3, rfl, (by rw [flat_succ]; exact F3)⟩
      case measure => simp [intOf]; omega
    · obtain rfl : k = m := by omega
      go_wp2_with fail
      go_ret
      exact ⟨_, rfl, F.out⟩
theorem find40 (B : Nat) (S : Nat → Prop) {w0 : World} {T p : Nat} {l : Int} {ls : List (Nat × Int)} (h : Bt w0 S T p l ls) : FH B S w0 T p l ls := by
  induction h with
  | miss p l => intro w v n xs _ hB ho _ _ _; exact find_miss B w p l v n xs hB ho
  | leaf p l => intro w v n xs _ hB ho _ _ hn; exact find_leaf B w p l v n xs hB ho (by simpa using hn)
  | arr p l R m c C T q lo ls hp hR hm hc hb hk _ ih => exact find_arr B S w0 p l R m c C T q lo ls hp hR hm hc hb hk ih
  | obj p l R m c C T q lo ls hp hR hm hc hb hk _ ih => exact find_obj B S w0 p l R m c C T q lo ls hp hR hm hc hb hk ih
end Go.Proofs.Ytiejadamfgbidab.find
