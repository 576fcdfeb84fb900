/- Plain facts on preorder code lists, trees and stack evaluation, for 'isInt32OrUint32'. No program in sight. -/
namespace Go.Proofs.YtpgkbpgfiblboaaR.i32
set_option linter.unusedVariables false

inductive Tr where
  | num
  | un (t : Tr)
  | bin (k : Int) (l r : Tr)
  | tern (a b c : Tr)
def Tr.pre : Tr → List Int
  | .num => [0]
  | .un t => 6 :: t.pre
  | .bin k l r => k :: (l.pre ++ r.pre)
  | .tern a b c => 4 :: (a.pre ++ (b.pre ++ c.pre))
def Tr.ev : Tr → Bool
  | .num => false
  | .un _ => false
  | .bin k l r => if k = 1 then true else if k = 2 ∨ k = 3 then l.ev && r.ev else false
  | .tern _ b c => b.ev && c.ev
def Tr.ok : Tr → Prop
  | .num => True
  | .un t => t.ok
  | .bin k l r => (k = 1 ∨ k = 2 ∨ k = 3 ∨ k = 5 ∨ k = 7) ∧ l.ok ∧ r.ok
  | .tern a b c => a.ok ∧ b.ok ∧ c.ok
def Tr.kids : Tr → List Tr
  | .num => []
  | .un t => [t]
  | .bin _ l r => [l, r]
  | .tern a b c => [a, b, c]
def Tr.code : Tr → Int
  | .num => 0
  | .un _ => 6
  | .bin k _ _ => k
  | .tern _ _ _ => 4
def ar (k : Int) : Nat := if k = 0 then 0 else if k = 4 then 3 else if k = 6 then 1 else 2
def pres (ts : List Tr) : List Int := ts.flatMap Tr.pre
theorem pre_kids (t : Tr) : t.pre = t.code :: pres t.kids := by
  cases t <;> simp [Tr.pre, Tr.code, Tr.kids, pres]
theorem kids_ok {t : Tr} (h : t.ok) : ∀ c ∈ t.kids, c.ok := by
  cases t with
  | num => intro c hc; simp [Tr.kids] at hc
  | un t => intro c hc; simp [Tr.kids] at hc; subst hc; exact h
  | bin k l r => intro c hc; simp [Tr.kids] at hc; rcases hc with rfl | rfl; exact h.2.1; exact h.2.2
  | tern a b c => intro x hx; simp [Tr.kids] at hx; rcases hx with rfl | rfl | rfl; exact h.1; exact h.2.1; exact h.2.2
theorem ar_kids {t : Tr} (h : t.ok) : ar t.code = t.kids.length := by
  cases t with
  | num => rfl
  | un t => rfl
  | bin k l r => rcases h.1 with rfl | rfl | rfl | rfl | rfl <;> rfl
  | tern a b c => rfl

/-- One step of the stack evaluation, and the whole of it, from the right. -/
def val (k : Int) (s : List Bool) : Bool := if k = 1 then true else if k = 2 ∨ k = 3 then s.getD 0 false && s.getD 1 false else if k = 4 then s.getD 1 false && s.getD 2 false else false
def S : List Int → List Bool
  | [] => []
  | k :: r => val k (S r) :: (S r).drop (ar k)
theorem S_pre : ∀ (t : Tr) (rest : List Int), t.ok → S (t.pre ++ rest) = t.ev :: S rest
  | .num, rest, _ => by simp [Tr.pre, S, val, ar, Tr.ev]
  | .un t, rest, h => by
    simp only [Tr.pre, List.cons_append, S]
    rw [S_pre t rest h]
    simp [val, ar, Tr.ev]
  | .bin k l r, rest, h => by
    simp only [Tr.pre, List.cons_append, List.append_assoc, S]
    rw [S_pre l _ h.2.1, S_pre r _ h.2.2]
    rcases h.1 with rfl | rfl | rfl | rfl | rfl <;> simp [val, ar, Tr.ev]
  | .tern a b c, rest, h => by
    simp only [Tr.pre, List.cons_append, List.append_assoc, S]
    rw [S_pre a _ h.1, S_pre b _ h.2.1, S_pre c _ h.2.2]
    simp [val, ar, Tr.ev]
theorem S_pres : ∀ (ts : List Tr), (∀ t ∈ ts, t.ok) → S (pres ts) = ts.map Tr.ev
  | [], _ => rfl
  | t :: r, h => by
    show S (t.pre ++ pres r) = _
    rw [S_pre t _ (h t (by simp)), S_pres r (fun x hx => h x (by simp [hx]))]
    rfl
/-- Each suffix of a forest's preorder is a forest's. -/
theorem suffix (ts : List Tr) (h : ∀ t ∈ ts, t.ok) : ∀ j, j ≤ (pres ts).length → ∃ us, (∀ t ∈ us, t.ok) ∧ (pres ts).drop j = pres us
  | 0, _ => ⟨ts, h, rfl⟩
  | j + 1, hj => by
    obtain ⟨us, ho, he⟩ := suffix ts h j (by omega)
    cases us with
    | nil =>
      have h2 : (pres ts).length - j = 0 := by
        have := congrArg List.length he
        rw [List.length_drop] at this
        exact this
      omega
    | cons u r =>
      refine ⟨u.kids ++ r, fun t ht => ?_, ?_⟩
      · rcases List.mem_append.1 ht with ht | ht
        · exact kids_ok (ho u (by simp)) t ht
        · exact ho t (by simp [ht])
      · rw [← List.drop_drop, he]
        show List.drop 1 (u.pre ++ pres r) = _
        rw [pre_kids]
        simp [pres]
/-- What a step of the second loop finds and leaves. -/
theorem step2 (t : Tr) (h : t.ok) (j : Nat) (hj : j < t.pre.length) :
    ar t.pre[j] ≤ (S (t.pre.drop (j + 1))).length ∧ S (t.pre.drop j) = val t.pre[j] (S (t.pre.drop (j + 1))) :: (S (t.pre.drop (j + 1))).drop (ar t.pre[j]) := by
  have e0 : pres [t] = t.pre := by simp [pres]
  obtain ⟨us, ho, he⟩ := suffix [t] (fun x hx => by simp at hx; subst hx; exact h) j (by rw [e0]; omega)
  rw [e0] at he
  have hd := List.drop_eq_getElem_cons hj
  cases us with
  | nil =>
    rw [he] at hd
    simp [pres] at hd
    omega
  | cons u r =>
    have e1 : pres (u :: r) = u.code :: pres (u.kids ++ r) := by
      show u.pre ++ pres r = _
      rw [pre_kids]
      simp [pres]
    rw [he, e1] at hd
    injection hd with h1 h2
    have hk : ∀ x ∈ u.kids ++ r, x.ok := fun x hx => by
      rcases List.mem_append.1 hx with hx | hx
      · exact kids_ok (ho u (by simp)) x hx
      · exact ho x (by simp [hx])
    rw [List.drop_eq_getElem_cons hj]
    refine ⟨?_, rfl⟩
    rw [← h1, ← h2, S_pres _ hk, ar_kids (ho u (by simp))]
    simp

/-- The tree that a preorder code list from i on stands for; behind the list's end all are leaves. -/
inductive Parse (z : List Int) : Nat → Tr → Nat → Prop where
  | stop {i : Nat} (h : z.length ≤ i) : Parse z i .num i
  | leaf {i : Nat} (h : i < z.length) (hk : z[i] % 8 = 0) : Parse z i .num (i + 1)
  | un {i j : Nat} {t : Tr} (h : i < z.length) (hk : z[i] % 8 = 6) (p : Parse z (i + 1) t j) : Parse z i (.un t) j
  | bin {i j k : Nat} {l r : Tr} (h : i < z.length) (hk : z[i] % 8 = 1 ∨ z[i] % 8 = 2 ∨ z[i] % 8 = 3 ∨ z[i] % 8 = 5 ∨ z[i] % 8 = 7) (p : Parse z (i + 1) l j) (q : Parse z j r k) : Parse z i (.bin (z[i] % 8) l r) k
  | tern {i j k m : Nat} {a b c : Tr} (h : i < z.length) (hk : z[i] % 8 = 4) (p : Parse z (i + 1) a j) (q : Parse z j b k) (s : Parse z k c m) : Parse z i (.tern a b c) m
theorem Parse.okT {z : List Int} {i j : Nat} {t : Tr} (h : Parse z i t j) : t.ok := by
  induction h with
  | stop h => trivial
  | leaf h hk => trivial
  | un h hk p ih => exact ih
  | bin h hk p q i1 i2 => exact ⟨hk, i1, i2⟩
  | tern h hk p q s i1 i2 i3 => exact ⟨i1, i2, i3⟩
inductive ParseL (z : List Int) : Nat → List Tr → Prop where
  | nil (i : Nat) : ParseL z i []
  | cons {i j : Nat} {t : Tr} {ts : List Tr} (p : Parse z i t j) (q : ParseL z j ts) : ParseL z i (t :: ts)
theorem ParseL.end {z : List Int} {i : Nat} {ts : List Tr} (h : ParseL z i ts) (hi : z.length ≤ i) : pres ts = List.replicate ts.length 0 := by
  induction h with
  | nil i => rfl
  | cons p q ih =>
    cases p with
    | stop h => 
      show Tr.num.pre ++ pres _ = _
      rw [ih hi]; rfl
    | leaf h hk => omega
    | un h hk p => omega
    | bin h hk p q => omega
    | tern h hk p q s => omega
theorem ParseL.step {z : List Int} {i : Nat} {ts : List Tr} (h : ParseL z i ts) (hi : i < z.length) (hn : 0 < ts.length) :
    ∃ us, ParseL z (i + 1) us ∧ pres ts = (z[i] % 8) :: pres us ∧ (us.length : Int) = ts.length + ((ar (z[i] % 8) : Int) - 1) := by
  cases h with
  | nil => simp at hn
  | cons p q =>
    cases p with
    | stop h => omega
    | leaf h hk => exact ⟨_, q, by rw [hk]; rfl, by rw [hk]; simp [ar]; omega⟩
    | un h hk p => exact ⟨_, .cons p q, by rw [hk]; simp [pres, Tr.pre], by rw [hk]; simp [ar]⟩
    | bin h hk p p2 =>
      refine ⟨_, .cons p (.cons p2 q), by simp [pres, Tr.pre], ?_⟩
      rcases hk with hk | hk | hk | hk | hk <;> rw [hk] <;> simp [ar] <;> omega
    | tern h hk p p2 p3 => exact ⟨_, .cons p (.cons p2 (.cons p3 q)), by rw [hk]; simp [pres, Tr.pre], by rw [hk]; simp [ar]; omega⟩
/-- The first loop's invariant: n codes are read, 'need' trees are still to come. -/
def Inv1 (z : List Int) (t : Tr) (n need : Nat) : Prop := ∃ ts, ParseL z n ts ∧ ts.length = need ∧ t.pre = (z.take n).map (· % 8) ++ pres ts
theorem inv1_start {z : List Int} {t : Tr} {j : Nat} (h : Parse z 0 t j) : Inv1 z t 0 1 := ⟨[t], .cons h (.nil _), rfl, by simp [pres]⟩
theorem inv1_step {z : List Int} {t : Tr} {n need : Nat} (h : Inv1 z t n need) (hn : n < z.length) (h0 : 0 < need) : ∃ need' : Nat, (need' : Int) = need + ((ar (z[n] % 8) : Int) - 1) ∧ Inv1 z t (n + 1) need' := by
  obtain ⟨ts, hp, hl, he⟩ := h
  obtain ⟨us, h1, h2, h3⟩ := hp.step hn (by omega)
  refine ⟨us.length, by rw [h3, hl], us, h1, rfl, ?_⟩
  rw [he, h2, List.take_succ_eq_append_getElem hn, List.map_append, List.append_assoc]
  rfl
theorem inv1_end {z : List Int} {t : Tr} {n need : Nat} (h : Inv1 z t n need) (hn : n ≤ z.length) (he : need = 0 ∨ n = z.length) : t.pre = (z.take n).map (· % 8) ++ List.replicate need 0 := by
  obtain ⟨ts, hp, hl, hq⟩ := h
  rcases he with rfl | rfl
  · have : ts = [] := List.length_eq_zero_iff.1 hl
    subst this
    simpa [pres] using hq
  · rw [hq, hp.end (Nat.le_refl _), hl]
theorem at_j {z : List Int} {t : Tr} {n need : Nat} (h : t.pre = (z.take n).map (· % 8) ++ List.replicate need 0) (hn : n ≤ z.length) (j : Nat) (hj : j < t.pre.length) : t.pre[j] = if j < n then z.getD j 0 % 8 else 0 := by
  have e : t.pre[j]? = some (if j < n then z.getD j 0 % 8 else 0) := by
    rw [h, List.getElem?_append]
    by_cases q : j < n
    · have : j < z.length := by omega
      have hm : ((z.take n).map (· % 8)).length = n := by simp; omega
      rw [if_pos (by rw [hm]; exact q), if_pos q]
      simp [q, this]
    · have hl : t.pre.length = n + need := by rw [h]; simp; omega
      have hm : ((z.take n).map (· % 8)).length = n := by simp; omega
      rw [if_neg (by rw [hm]; exact q), if_neg q, hm, List.getElem?_replicate, if_pos (by omega)]
  rw [List.getElem?_eq_getElem hj] at e
  exact Option.some.inj e
end Go.Proofs.YtpgkbpgfiblboaaR.i32
