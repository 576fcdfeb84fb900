/- The contract of 'ForEachIdentifierBinding' over a callback that appends: the leaves, in order. No conditions beyond its hypotheses. -/
import Derived.Test.YtiejadamfgbidabFeE
namespace Go.Proofs.Ytiejadamfgbidab.fore
open Go.ChangeShapes Go.WideShapes Go.ChangeAt Go.RowKit Go.Mine
open find (Kp ptr lv flat_le flat_succ)
set_option linter.unusedVariables false
set_option linter.unusedSimpArgs false
set_option maxRecDepth 100000

def fv (f P1 P2 : Nat) : Value := .func (.func f) #[] #[.pointer (some ⟨P1, 0, none⟩), .pointer (some ⟨P2, 0, none⟩)]
def FE (f B P1 P2 : Nat) (w0 : World) (T p : Nat) (l : Int) (ls : List (Nat × Int)) : Prop :=
  ∀ (w : World) (n : Nat) (xs : List (Nat × Int)) (a1 : Option Addr) (c1 : Nat) (a2 : Option Addr) (c2 : Nat), Below B w0 w → B ≤ w.heap.size → Cb B P1 P2 n xs a1 c1 a2 c2 w → n + ls.length ≤ 200000 →
    Calls Try.prog 26 #[.agg #[.iface T (ptr p), .int .i32 l], fv f P1 P2] w (CbR B P1 P2 (n + ls.length) (xs ++ ls) w)
theorem fe_miss (f B P1 P2 : Nat) (w0 : World) (p : Nat) (l : Int) : FE f B P1 P2 w0 69 p l [] := by
  intro w n xs a1 c1 a2 c2 hb hB h hn
  have H := Lib.hid h
  clear h hn
  have R : Hid (CbR B P1 P2 (n + 0) (xs ++ []) w (.returned (.tuple #[])) (w.alloc (.cells #[.iface 69 (.pointer (some ⟨p, 0, none⟩)), .int .i32 l] 59))) := ⟨rfl, a1, c1, a2, c2, by simpa using H.out.below ((Below.refl _ _).alloc (Nat.le_refl _) _), (Below.refl _ _).alloc hB _⟩
  unfold ptr fv
  go_enter Try.func26, Try.ntmps26
  go_wp2_with fail
  go_end0
  exact R.out
set_option maxHeartbeats 1000000 in
theorem fe_leaf (f B P1 P2 : Nat) (hf : f = 27 ∨ f = 28) (w0 : World) (p : Nat) (l : Int) : FE f B P1 P2 w0 50 p l [(p, l)] := by
  intro w n xs a1 c1 a2 c2 hb hB h hn
  have hn' : n ≤ 200000 := by omega
  have A7 := Lib.hid fun (o : Obj) => cb27 B P1 P2 n xs a1 c1 a2 c2 (w.alloc o) p l (h.below ((Below.refl _ _).alloc (Nat.le_refl _) _)) (by simp; omega) hn'
  have A8 := Lib.hid fun (o : Obj) => cb28 B P1 P2 n xs a1 c1 a2 c2 (w.alloc o) p l (h.below ((Below.refl _ _).alloc (Nat.le_refl _) _)) (by simp; omega) hn'
  have E : Hid (∀ (o : Obj) w3, CbR B P1 P2 (n + 1) (xs ++ [(p, l)]) (w.alloc o) (.returned (.tuple #[])) w3 → CbR B P1 P2 (n + 1) (xs ++ [(p, l)]) w (.returned (.tuple #[])) w3) := fun o w3 h => by
    obtain ⟨_, a1, c1, a2, c2, h1, h2⟩ := h
    exact ⟨rfl, a1, c1, a2, c2, h1, ((Below.refl _ _).alloc hB _).trans h2⟩
  clear h hn hn'
  unfold ptr fv
  rcases hf with rfl | rfl
  · go_enter Try.func26, Try.ntmps26
    go_wp2_with fail
    refine (A7.out _).mono ?_
    rintro e w3 hR
    obtain rfl := hR.1
    have R := Lib.hid (E.out _ _ hR)
    clear hR
    go_wp2_with fail
    go_end0
    exact R.out
  · go_enter Try.func26, Try.ntmps26
    go_wp2_with fail
    refine (A8.out _).mono ?_
    rintro e w3 hR
    obtain rfl := hR.1
    have R := Lib.hid (E.out _ _ hR)
    clear hR
    go_wp2_with fail
    go_end0
    exact R.out
section
variable {f B P1 P2 : Nat} {w0 w : World} {n m : Nat} {xs : List (Nat × Int)} {T q : Nat → Nat} {lo : Nat → Int} {ls : Nat → List (Nat × Int)}
/-- The loop's relation behind k children. -/
def Rel (B P1 P2 n : Nat) (xs : List (Nat × Int)) (ls : Nat → List (Nat × Int)) (w : World) (k : Nat) (wr : World) : Prop :=
  ∃ a1 c1 a2 c2, Cb B P1 P2 (n + ((List.range k).flatMap ls).length) (xs ++ (List.range k).flatMap ls) a1 c1 a2 c2 wr ∧ Below B w wr
theorem rel_step (hb : Below B w0 w) (hB : B ≤ w.heap.size) (ih : ∀ i, i < m → FE f B P1 P2 w0 (T i) (q i) (lo i) (ls i)) (hn : n + ((List.range m).flatMap ls).length ≤ 200000) {k : Nat} (hlt : k < m) {wr : World} (h : Rel B P1 P2 n xs ls w k wr) (o : Obj) :
    Calls Try.prog 26 #[.agg #[.iface (T k) (ptr (q k)), .int .i32 (lo k)], fv f P1 P2] (wr.alloc o) fun e w3 => e = .returned (.tuple #[]) ∧ Rel B P1 P2 n xs ls w (k + 1) w3 := by
  obtain ⟨a1, c1, a2, c2, h1, h2⟩ := h
  have hs := h2.size
  have hl := flat_le ls hlt
  refine (ih k hlt (wr.alloc o) _ _ a1 c1 a2 c2 ((hb.trans h2).alloc (by omega) _) (by simp; omega) (h1.below ((Below.refl _ _).alloc (Nat.le_refl _) _)) (by omega)).mono ?_
  rintro e w3 ⟨rfl, b1, d1, b2, d2, k1, k2⟩
  refine ⟨rfl, b1, d1, b2, d2, ?_, h2.trans (((Below.refl _ _).alloc (by omega) _).trans k2)⟩
  rw [flat_succ, List.length_append, ← List.append_assoc, ← Nat.add_assoc]
  exact k1
end
set_option maxHeartbeats 2000000 in
theorem fe_arr (f B P1 P2 : Nat) (w0 : World) (S : Nat → Prop) (hS : ∀ b, S b → b < B) (p : Nat) (l : Int) (a : Option Addr) (R m c : Nat) (C : Array Value) (T q : Nat → Nat) (lo u : Nat → Int) (ls : Nat → List (Nat × Int)) (hp : S p) (hm : m ≤ 8) (hc : w0.cell? ⟨p, 0, none⟩ = some (.slice a m c)) (hsl : Sl w0 S a m R C 73)
    (hk : ∀ i, i < m → C[i * 5]? = some (.iface (T i) (ptr (q i))) ∧ C[i * 5 + 1]? = some (.int .i32 (lo i)) ∧ C[i * 5 + 2]? = some .nilIface ∧ C[i * 5 + 3]? = some (.int .i32 0) ∧ C[i * 5 + 4]? = some (.int .i32 (u i)))
    (ih : ∀ i, i < m → FE f B P1 P2 w0 (T i) (q i) (lo i) (ls i)) : FE f B P1 P2 w0 68 p l ((List.range m).flatMap ls) := by
  intro w n xs a1 c1 a2 c2 hb hB h hn
  have cw : w.cell? ⟨p, 0, none⟩ = some (.slice a m c) := (cell_of_block (hb.block p (hS p hp)) 0).trans hc
  have hl := cell_lt cw
  have hl1 := Nat.lt_succ_of_lt hl
  have F0 : Hid (Rel B P1 P2 n xs ls w 0 (w.alloc (.cells #[.iface 68 (.pointer (some ⟨p, 0, none⟩)), .int .i32 l] 59))) := ⟨a1, c1, a2, c2, by simpa using h.below ((Below.refl _ _).alloc (Nat.le_refl _) _), (Below.refl _ _).alloc hB _⟩
  have KR := Lib.hid (fun (k : Nat) (hlt : k < m) (wr : World) (hr : Rel B P1 P2 n xs ls w k wr) (o : Obj) => rel_step hb hB ih hn hlt hr o)
  have BR := Lib.hid (fun (k : Nat) (wr : World) (hr : Rel B P1 P2 n xs ls w k wr) (h0 : 0 < m) => (show a = some ⟨R, 0, none⟩ ∧ Blk wr R C 73 from ⟨(hsl h0).1, by obtain ⟨_, _, _, _, _, h2⟩ := hr; exact ((hb.trans h2).block R (hS R (hsl h0).2.1)).trans (hsl h0).2.2⟩))
  have HC := Lib.hid hk
  have EN : Hid (∀ wr, Rel B P1 P2 n xs ls w m wr → CbR B P1 P2 (n + ((List.range m).flatMap ls).length) (xs ++ (List.range m).flatMap ls) w (.returned (.tuple #[])) wr) := fun wr ⟨b1, d1, b2, d2, k1, k2⟩ => ⟨rfl, b1, d1, b2, d2, k1, k2⟩
  clear ih hb hB hn h hsl hk hp hc hS
  unfold fv at KR
  unfold ptr at KR HC
  unfold ptr fv
  go_enter Try.func26, Try.ntmps26
  go_wp2_with fail
  go_loopw [35] (fun i wr => ∃ k : Nat, k ≤ m ∧ i = .int .i64 k ∧ Hid (Rel B P1 P2 n xs ls w k wr)) (fun i _ => m - (intOf i).toNat)
  case atStart => exact ⟨0, Nat.zero_le _, rfl, F0⟩
  case round =>
    obtain ⟨k, hk, rfl, F⟩ := hrel
    clear F0 cw hl hl1
    by_cases hlt : k < m
    · obtain ⟨ea, hB⟩ := BR.out k wr F.out (by omega)
      subst ea
      obtain ⟨k0, k1, k2, k3, k4⟩ := HC.out k hlt
      have d0 : wr.cell? ⟨R, k * 5, none⟩ = some (.iface (T k) (.pointer (some ⟨q k, 0, none⟩))) := (hB.cell _).trans k0
      have d1 : wr.cell? ⟨R, k * 5 + 1, none⟩ = some (.int .i32 (lo k)) := (hB.cell _).trans k1
      have d2 : wr.cell? ⟨R, k * 5 + 2, none⟩ = some .nilIface := (hB.cell _).trans k2
      have d3 : wr.cell? ⟨R, k * 5 + 3, none⟩ = some (.int .i32 0) := (hB.cell _).trans k3
      have d4 : wr.cell? ⟨R, k * 5 + 4, none⟩ = some (.int .i32 (u k)) := (hB.cell _).trans k4
      have hl := hB.lt
      have A := Lib.hid (KR.out k hlt wr F.out (.cells #[.iface (T k) (.pointer (some ⟨q k, 0, none⟩)), .int .i32 (lo k), .nilIface, .int .i32 0, .int .i32 (u k)] 73))
      clear hB k0 k1 k2 k3 k4
      go_wp2_with fail
      refine A.out.mono ?_
      rintro e w3 ⟨rfl, hF3⟩
      have F3 := Lib.hid hF3
      clear hF3
      go_wp2_with fail
      go_roundw
      case rel => exact ⟨k + 1, by omega, by go_num, F3⟩
      case measure => simp [intOf]; omega
    · obtain rfl : k = m := by omega
      go_wp2_with fail
      go_end0
      have h := EN.out _ F.out
      rw [List.length_flatMap] at h
      exact h
set_option maxHeartbeats 2000000 in
theorem fe_obj (f B P1 P2 : Nat) (w0 : World) (S : Nat → Prop) (hS : ∀ b, S b → b < B) (p : Nat) (l : Int) (a : Option Addr) (R m c : Nat) (C : Array Value) (T q : Nat → Nat) (lo u : Nat → Int) (ls : Nat → List (Nat × Int)) (hp : S p) (hm : m ≤ 8) (hc : w0.cell? ⟨p, 0, none⟩ = some (.slice a m c)) (hsl : Sl w0 S a m R C 79)
    (hk : ∀ i, i < m → C[i * 11]? = some .nilIface ∧ C[i * 11 + 1]? = some (.int .i32 0) ∧ C[i * 11 + 2]? = some (.iface (T i) (ptr (q i))) ∧ C[i * 11 + 3]? = some (.int .i32 (lo i)) ∧ C[i * 11 + 4]? = some .nilIface ∧ C[i * 11 + 5]? = some (.int .i32 0) ∧
        C[i * 11 + 6]? = some (.int .i32 (u i)) ∧ C[i * 11 + 7]? = some (.int .i32 0) ∧ C[i * 11 + 8]? = some (.bool false) ∧ C[i * 11 + 9]? = some (.bool false) ∧ C[i * 11 + 10]? = some (.bool false))
    (ih : ∀ i, i < m → FE f B P1 P2 w0 (T i) (q i) (lo i) (ls i)) : FE f B P1 P2 w0 77 p l ((List.range m).flatMap ls) := by
  intro w n xs a1 c1 a2 c2 hb hB h hn
  have cw : w.cell? ⟨p, 0, none⟩ = some (.slice a m c) := (cell_of_block (hb.block p (hS p hp)) 0).trans hc
  have hl := cell_lt cw
  have hl1 := Nat.lt_succ_of_lt hl
  have F0 : Hid (Rel B P1 P2 n xs ls w 0 (w.alloc (.cells #[.iface 77 (.pointer (some ⟨p, 0, none⟩)), .int .i32 l] 59))) := ⟨a1, c1, a2, c2, by simpa using h.below ((Below.refl _ _).alloc (Nat.le_refl _) _), (Below.refl _ _).alloc hB _⟩
  have KR := Lib.hid (fun (k : Nat) (hlt : k < m) (wr : World) (hr : Rel B P1 P2 n xs ls w k wr) (o : Obj) => rel_step hb hB ih hn hlt hr o)
  have BR := Lib.hid (fun (k : Nat) (wr : World) (hr : Rel B P1 P2 n xs ls w k wr) (h0 : 0 < m) => (show a = some ⟨R, 0, none⟩ ∧ Blk wr R C 79 from ⟨(hsl h0).1, by obtain ⟨_, _, _, _, _, h2⟩ := hr; exact ((hb.trans h2).block R (hS R (hsl h0).2.1)).trans (hsl h0).2.2⟩))
  have HC := Lib.hid hk
  have EN : Hid (∀ wr, Rel B P1 P2 n xs ls w m wr → CbR B P1 P2 (n + ((List.range m).flatMap ls).length) (xs ++ (List.range m).flatMap ls) w (.returned (.tuple #[])) wr) := fun wr ⟨b1, d1, b2, d2, k1, k2⟩ => ⟨rfl, b1, d1, b2, d2, k1, k2⟩
  clear ih hb hB hn h hsl hk hp hc hS
  unfold fv at KR
  unfold ptr at KR HC
  unfold ptr fv
  go_enter Try.func26, Try.ntmps26
  go_wp2_with fail
  go_loopw [52] (fun i wr => ∃ k : Nat, k ≤ m ∧ i = .int .i64 k ∧ Hid (Rel B P1 P2 n xs ls w k wr)) (fun i _ => m - (intOf i).toNat)
  case atStart => exact ⟨0, Nat.zero_le _, rfl, F0⟩
  case round =>
    obtain ⟨k, hk, rfl, F⟩ := hrel
    clear F0 cw hl hl1
    by_cases hlt : k < m
    · obtain ⟨ea, hB⟩ := BR.out k wr F.out (by omega)
      subst ea
      obtain ⟨k0, k1, k2, k3, k4, k5, k6, k7, k8, k9, k10⟩ := HC.out k hlt
      have d0 : wr.cell? ⟨R, k * 11, none⟩ = some .nilIface := (hB.cell _).trans k0
      have d1 : wr.cell? ⟨R, k * 11 + 1, none⟩ = some (.int .i32 0) := (hB.cell _).trans k1
      have d2 : wr.cell? ⟨R, k * 11 + 2, none⟩ = some (.iface (T k) (.pointer (some ⟨q k, 0, none⟩))) := (hB.cell _).trans k2
      have d3 : wr.cell? ⟨R, k * 11 + 3, none⟩ = some (.int .i32 (lo k)) := (hB.cell _).trans k3
      have d4 : wr.cell? ⟨R, k * 11 + 4, none⟩ = some .nilIface := (hB.cell _).trans k4
      have d5 : wr.cell? ⟨R, k * 11 + 5, none⟩ = some (.int .i32 0) := (hB.cell _).trans k5
      have d6 : wr.cell? ⟨R, k * 11 + 6, none⟩ = some (.int .i32 (u k)) := (hB.cell _).trans k6
      have d7 : wr.cell? ⟨R, k * 11 + 7, none⟩ = some (.int .i32 0) := (hB.cell _).trans k7
      have d8 : wr.cell? ⟨R, k * 11 + 8, none⟩ = some (.bool false) := (hB.cell _).trans k8
      have d9 : wr.cell? ⟨R, k * 11 + 9, none⟩ = some (.bool false) := (hB.cell _).trans k9
      have d10 : wr.cell? ⟨R, k * 11 + 10, none⟩ = some (.bool false) := (hB.cell _).trans k10
      have hl := hB.lt
      have A := Lib.hid (KR.out k hlt wr F.out (.cells #[.nilIface, .int .i32 0, .iface (T k) (.pointer (some ⟨q k, 0, none⟩)), .int .i32 (lo k), .nilIface, .int .i32 0, .int .i32 (u k), .int .i32 0, .bool false, .bool false, .bool false] 79))
      clear hB k0 k1 k2 k3 k4 k5 k6 k7 k8 k9 k10
      go_wp2_with fail
      refine A.out.mono ?_
      rintro e w3 ⟨rfl, hF3⟩
      have F3 := Lib.hid hF3
      clear hF3
      go_wp2_with fail
      go_roundw
      case rel => exact ⟨k + 1, by omega, by go_num, F3⟩
      case measure => simp [intOf]; omega
    · obtain rfl : k = m := by omega
      go_wp2_with fail
      go_end0
      have h := EN.out _ F.out
      rw [List.length_flatMap] at h
      exact h
theorem for26 (f B P1 P2 : Nat) (hf : f = 27 ∨ f = 28) (S : Nat → Prop) (hS : ∀ b, S b → b < B) {w0 : World} {T p : Nat} {l : Int} {ls : List (Nat × Int)} (h : Bu w0 S T p l ls) : FE f B P1 P2 w0 T p l ls := by
  induction h with
  | miss p l => exact fe_miss f B P1 P2 w0 p l
  | leaf p l => exact fe_leaf f B P1 P2 hf w0 p l
  | arr p l a R m c C T q lo u ls hp hm hc hb hk _ ih => exact fe_arr f B P1 P2 w0 S hS p l a R m c C T q lo u ls hp hm hc hb hk ih
  | obj p l a R m c C T q lo u ls hp hm hc hb hk _ ih => exact fe_obj f B P1 P2 w0 S hS p l a R m c C T q lo u ls hp hm hc hb hk ih
end Go.Proofs.Ytiejadamfgbidab.fore
