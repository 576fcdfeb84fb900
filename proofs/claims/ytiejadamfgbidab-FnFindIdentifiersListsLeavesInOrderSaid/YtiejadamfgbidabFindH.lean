/- What the law on 'findIdentifiers' wants of its pieces. No conditions beyond the hypotheses. -/
import Derived.Test.YtiejadamfgbidabFindG
namespace Go.Proofs.Ytiejadamfgbidab.find
open Go.ChangeShapes Go.WideShapes Go.ChangeAt Go.RowKit Go.Mine
set_option linter.unusedVariables false
set_option linter.unusedSimpArgs false
set_option maxRecDepth 100000

theorem dec_at : ∀ (K : List (Nat × Int)) (i : Nat) (h : i < K.length) (j : Nat), j < 4 → (K.flatMap dec)[i * 4 + j]? = (dec K[i])[j]?
  | [], i, h, _, _ => by simp at h
  | x :: K, 0, h, j, hj => by
    rw [List.flatMap_cons, List.getElem?_append_left (by show _ < 4; omega)]
    simp
  | x :: K, i + 1, h, j, hj => by
    rw [List.flatMap_cons, List.getElem?_append_right (by show 4 ≤ _; omega)]
    rw [show (i + 1) * 4 + j - (dec x).length = i * 4 + j by show (i + 1) * 4 + j - 4 = _; omega, dec_at K i (by simpa using h) j hj]
    simp
theorem own_some {w : World} {B e size n c : Nat} {a : Option Addr} {xs : List Value} (h : w.ownsRow B e size (.slice a n c) n xs) (hn : 0 < n) : ∃ g, a = some ⟨g, 0, none⟩ := by
  rcases h.2 with ⟨_, h⟩ | ⟨g, cap, cur, e, _⟩
  · omega
  · injection e with e; exact ⟨g, e⟩
theorem out_at {w : World} {B m co : Nat} {ao : Option Addr} {M : List (Nat × Int)} (h : w.ownsRow B 61 4 (.slice ao m co) m (M.flatMap dec)) (hm : M.length = m) {i : Nat} (hi : i < m) :
    ∃ (g : Nat) (x : Nat × Int), ao = some ⟨g, 0, none⟩ ∧ M[i]? = some x ∧ g < w.heap.size ∧ w.cell? ⟨g, i * 4, none⟩ = some (.iface 50 (.pointer (some ⟨x.1, 0, none⟩))) ∧ w.cell? ⟨g, i * 4 + 1, none⟩ = some (.int .i32 x.2) ∧ w.cell? ⟨g, i * 4 + 2, none⟩ = some .nilIface ∧ w.cell? ⟨g, i * 4 + 3, none⟩ = some (.int .i32 0) := by
  obtain ⟨g, rfl⟩ := own_some h (by omega)
  have hiM : i < M.length := by omega
  obtain ⟨C, hC, _⟩ := own_blk h
  have c := fun j (hj : j < 4) => (h.cellAt (i * 4 + j) (by omega)).trans (dec_at M i hiM j hj)
  exact ⟨g, M[i], rfl, by simp [hiM], hC.lt, c 0 (by omega), c 1 (by omega), c 2 (by omega), c 3 (by omega)⟩
theorem leaf_at {w : World} {B m co : Nat} {ao : Option Addr} {M : List (Nat × Int)} (h : w.ownsRow B 21 1 (.slice ao m co) m (M.map lv)) (hm : M.length = m) {i : Nat} (hi : i < m) :
    ∃ (g : Nat) (x : Nat × Int), ao = some ⟨g, 0, none⟩ ∧ M[i]? = some x ∧ g < w.heap.size ∧ w.cell? ⟨g, i, none⟩ = some (.int .i32 x.2) := by
  obtain ⟨g, rfl⟩ := own_some h (by omega)
  have hiM : i < M.length := by omega
  obtain ⟨C, hC, _⟩ := own_blk h
  refine ⟨g, M[i], rfl, by simp [hiM], hC.lt, (h.cellAt i (by omega)).trans ?_⟩
  simp [hiM, lv]
theorem own_same {w w' : World} {B e size n : Nat} {v : Value} {xs : List Value} {X : Nat → Prop} (h : w.ownsRow B e size v n xs) (hs : Same X w w') (hX : ∀ b, v.ownBlock = some b → ¬ X b) : w'.ownsRow B e size v n xs := by
  have hl := h.lt
  refine ⟨h.1, ?_⟩
  rcases h.2 with h2 | ⟨g, cap, cur, hv, hb, hg, rest⟩
  · exact .inl h2
  · subst hv
    exact .inr ⟨g, cap, cur, rfl, hb, (hs.2 g (hl g rfl).2 (hX g rfl)).trans hg, rest⟩
theorem app_fd {w w3 : World} {o1 o2 : Obj} {B n : Nat} {v v' : Value} {xs : List Value} (hB : B ≤ w.heap.size) (ho : w.ownsRow B 61 4 v n xs) (p : Nat) (l : Int) (hown' : w3.ownsRow B 61 4 v' (n + 1) (xs ++ dec (p, l))) (hg : ((w.alloc o1).alloc o2).grownBy w3 v.ownBlock)
    (hat : v'.ownBlock = v.ownBlock ∨ v'.ownBlock = some ((w.alloc o1).alloc o2).heap.size) : Fd B v n xs [(p, l)] w v' w3 := by
  refine ⟨by simpa using hown', ?_, ?_, ?_⟩
  · exact Below.grown (((Below.refl B w).alloc hB _).alloc (by simp; omega) _) hg (by simp; omega) (fun k hk => (ho.lt k hk).1)
  · refine ⟨by have := hg.size; simp at this; omega, fun b hb hx => ?_⟩
    rw [hg.block b (by simp; omega) (fun e => hx e.symm), Below.heap_alloc _ _ _ (by simp; omega), Below.heap_alloc _ _ _ hb]
  · intro b hb
    rcases hat with e | e
    · exact .inl (e.symm.trans hb)
    · have := Option.some.inj (hb.symm.trans e)
      simp at this
      exact .inr (by omega)
theorem zz22 {B n : Nat} {T p : Nat} {l : Int} {a : Option Addr} {c : Nat} {xs : List Value} {ls : List (Nat × Int)} {w : World} (hB : B ≤ w.heap.size) (h : ∀ o, Calls Try.prog 40 #[.agg #[.iface T (.pointer (some ⟨p, 0, none⟩)), .int .i32 l], .slice a n c] (w.alloc o) (Fnd B (.slice a n c) n xs ls (w.alloc o))) :
    Calls Try.prog 22 #[.agg #[.iface T (.pointer (some ⟨p, 0, none⟩)), .int .i32 l], .slice a n c] w (Fnd B (.slice a n c) n xs ls w) := by
  have H := Lib.hid h
  clear h
  go_enter Try.func22, Try.ntmps22
  go_wp2_with fail
  refine (H.out _).mono ?_
  rintro e w3 ⟨v3, rfl, h3⟩
  obtain ⟨a3, c3, rfl⟩ := own_form h3.own
  have H3 := Lib.hid h3
  clear h3
  go_wp2_with fail
  go_ret
  exact ⟨_, rfl, H3.out.pre ((Below.refl _ _).alloc (Nat.le_refl _) _) hB⟩
theorem bytes20 (a0 : Option Addr) (l0 c0 : Nat) (a1 : Option Addr) (l1 c1 : Nat) (w : World) (h0 : l0 ≤ maxLen) (h1 : l1 ≤ maxLen) :
    Calls Try.prog 20 #[.slice a0 l0 c0, .slice a1 l1 c1] w fun e w' => (∃ r : Bool, e = .returned (.bool r)) ∧ w = w' := by
  unfold maxLen at h0 h1
  go_enter Try.func20, Try.ntmps20
  go_wp2
  all_goals
    go_ret
    exact ⟨⟨_, rfl⟩, rfl⟩
end Go.Proofs.Ytiejadamfgbidab.find
