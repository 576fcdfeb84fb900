/- The contract of 'RecursiveSetStrictMode' over a tree of scopes. No conditions beyond its hypotheses. -/
import Derived.Test.YtiejadamfgbidabScopeA
import Derived.Deep.AppendLies
import Derived.Outline
namespace Go.Proofs.Ytiejadamfgbidab.scopes
open Go.ChangeShapes Go.WideShapes Go.ChangeAt Go.RowKit Go.Mine
set_option linter.unusedVariables false
set_option maxRecDepth 100000

def Set34 (R n : Nat) (z : List Int) (md : Nat → Int) (par kv : Nat → Value) (w0 : World) (j : Nat) (k : Int) (w : World) (e : Ending) (w' : World) : Prop :=
  e = .returned (.tuple #[]) ∧ ∃ md', Sc R n n z md' par kv w0 w' ∧ (∀ x, x < j → md' x = md x) ∧ ((md j ≠ 0 ∧ w' = w ∧ md' = md) ∨ (md j = 0 ∧ md' j = k))
def Loop34 (R n : Nat) (z : List Int) (md : Nat → Int) (par kv : Nat → Value) (w0 : World) (j : Nat) (k : Int) (wr : World) : Prop :=
  ∃ md', Sc R n n z md' par kv w0 wr ∧ (∀ x, x < j → md' x = md x) ∧ md' j = k
theorem form1 {w : World} {B e size n : Nat} {v : Value} {xs : List Value} (h : w.ownsRow B e size v n xs) : ∃ a c, v = .slice a n c := by
  rcases h.2 with ⟨rfl, rfl⟩ | ⟨g, cap, cur, rfl, _⟩
  · exact ⟨_, _, rfl⟩
  · exact ⟨_, _, rfl⟩
theorem add_at (g t : Nat) : (⟨g, 0, none⟩ : Addr).add t = ⟨g, t, none⟩ := by
  by_cases h : t = 0
  · subst h; simp [Addr.add]
  · simp [Addr.add, h]

set_option maxHeartbeats 1000000 in
theorem set34 (R n : Nat) (z : List Int) (par kv : Nat → Value) (w0 : World) (k : Int) (hR : w0.heap.size ≤ R) (hn : n ≤ 65536) (hzl : ∀ c, 1 ≤ c → c < n → z.getD c 0 < (c : Int)) :
    ∀ (d j : Nat) (md : Nat → Int) (w : World), n - j ≤ d → j < n → Sc R n n z md par kv w0 w → Calls Try.prog 34 #[pt (R + 1 + j), .int .u8 k] w (Set34 R n z md par kv w0 j k w) := by
  intro d
  induction d with
  | zero => intro j md w hd hj; omega
  | succ d ih =>
    intro j md w hd hj h
    have hb := h.sc j hj
    have hlt := hb.lt
    have c14 : w.cell? ⟨R + 1 + j, 14, none⟩ = some (.int .u8 (md j)) := hb.cell 14
    have H := Lib.hid h
    unfold pt
    by_cases h0 : md j = 0
    · have c2 : w.cell? ⟨R + 1 + j, 2, none⟩ = some (kv j) := hb.cell 2
      have f14 := hb.free 14
      rw [h0] at c14
      obtain ⟨a, cp, ha⟩ := form1 (h.own j hj)
      obtain ⟨m, hm⟩ : ∃ m, m = (kids z n j).length := ⟨_, rfl⟩
      have hml : m ≤ 65536 := by have := kids_le z n j; omega
      rw [← hm] at ha
      rw [ha] at c2
      have S1 := Lib.hid (h.setMode hR hj k)
      have HM := Lib.hid hm
      have HA := Lib.hid ha
      have IH := Lib.hid ih
      have H0 := Lib.hid h0
      clear hb h ih hm ha h0
      go_enter Try.func34, Try.ntmps34
      go_wp2_with fail
      go_loopw [20] (fun i wr => ∃ t : Nat, t ≤ m ∧ i = .int .i64 t ∧ Hid (Loop34 R n z md par kv w0 j k wr)) (fun i _ => m - (intOf i).toNat)
      case atStart => exact ⟨0, Nat.zero_le _, rfl, _, S1.out, fun x hx => upd_other _ _ (by omega), upd_same _ _ _⟩
      case round =>
        obtain ⟨t, ht, rfl, hr⟩ := hrel
        by_cases hlt2 : t < m
        · obtain ⟨md', hS, hlow, hk⟩ := hr.out
          obtain ⟨g, cap, e, hg1, hg2⟩ := (hS.own j hj).form (by rw [← HM.out]; omega)
          have e' := HA.out
          rw [e'] at e
          obtain rfl : a = some ⟨g, 0, none⟩ := by injection e
          have hown := Lib.hid ((hS.own j hj).cells (g := g) (by rw [e']; rfl) t)
          have htl : t < (kids z n j).length := by rw [← HM.out]; exact hlt2
          obtain ⟨c, hc⟩ : ∃ c, c = (kids z n j)[t] := ⟨_, rfl⟩
          have hcm := kids_mem.1 (hc ▸ List.getElem_mem htl : c ∈ kids z n j)
          have ct : wr.cell? ⟨g, t, none⟩ = some (pt (R + 1 + c)) := by
            rw [← add_at]
            exact hown.out _ (by rw [List.getElem?_map, List.getElem?_eq_getElem htl, ← hc]; rfl)
          have hjc : j < c := by have := hzl c hcm.2.1 hcm.1; rw [hcm.2.2] at this; omega
          have C := Lib.hid (IH.out c md' wr (by omega) hcm.1 hS)
          have HK := Lib.hid (And.intro hlow hk)
          have hjc' := Lib.hid hjc
          unfold pt at ct C
          clear hr hS hlow hk e e' hown htl hc hcm hjc
          go_wp2_with fail
          refine C.out.mono ?_
          rintro e w2 ⟨rfl, md2, S2, hl2, _⟩
          have L2 : Hid (Loop34 R n z md par kv w0 j k w2) := ⟨md2, S2, fun x hx => by rw [hl2 x (by have := hjc'.out; omega), HK.out.1 x hx], by rw [hl2 j hjc'.out]; exact HK.out.2⟩
          clear S2 hl2
          go_wp2_with fail
          go_roundw
          case rel => exact ⟨t + 1, by omega, by go_num, L2⟩
          case measure => simp [intOf]; omega
        · obtain rfl : t = m := by omega
          go_wp2_with fail
          go_end0
          obtain ⟨md', hS, hlow, hk⟩ := hr.out
          exact ⟨rfl, md', hS, hlow, .inr ⟨H0.out, hk⟩⟩
    · have t0 : ((md j) == 0) = false := by simpa using h0
      have H0 := Lib.hid h0
      clear h hb h0 ih
      go_enter Try.func34, Try.ntmps34
      go_wp2_with fail
      go_end0
      exact ⟨rfl, md, H.out, fun _ _ => rfl, .inl ⟨H0.out, rfl, rfl⟩⟩
end Go.Proofs.Ytiejadamfgbidab.scopes
