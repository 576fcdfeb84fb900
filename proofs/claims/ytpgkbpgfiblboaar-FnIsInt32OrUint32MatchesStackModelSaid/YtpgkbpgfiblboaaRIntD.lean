/- The contract of the stack model of the package n011_294. No conditions beyond its hypotheses. -/
import Derived.Test.YtpgkbpgfiblboaaRIntC
namespace Go.Proofs.YtpgkbpgfiblboaaR.i32
open Go.ChangeShapes Go.WideShapes Go.ChangeAt Go.RowKit Go.Mine
set_option linter.unusedVariables false
set_option maxRecDepth 100000

theorem info4 : (Try.prog.info? 4).map (fun i => (i.zero, i.size, i.bytes)) = some (some (.bool false), 1, 1) := by kernel_rfl
def bl (l : List Bool) : List Value := l.reverse.map Value.bool
theorem bl_cons (b : Bool) (l : List Bool) : bl (b :: l) = bl l ++ [.bool b] := by simp [bl]
theorem bl_len (l : List Bool) : (bl l).length = l.length := by simp [bl]
theorem own_take {w : World} {B e s k cp : Nat} {a : Option Addr} {xs : List Value} (h : w.ownsRow B e 1 (.slice a s cp) s xs) (hk : k ≤ s) : w.ownsRow B e 1 (.slice a k cp) k (xs.take k) := by
  have h1 := h.1
  refine ⟨by rw [List.length_take, h1]; omega, ?_⟩
  rcases h.2 with ⟨e1, e2⟩ | ⟨g, cap, cur, e1, h2, h3, h4, h5, h6, h7⟩
  · injection e1 with e1 e3 e4
    subst e1 e4
    exact .inl ⟨by rw [show k = 0 by omega], by omega⟩
  · injection e1 with e1 e3 e4
    subst e1 e4
    exact .inr ⟨g, cp, cur, rfl, h2, h3, by omega, h5, h6, by rw [← h7, List.take_take]; congr 1; omega⟩
theorem bl_take (l : List Bool) (r : Nat) (h : r ≤ l.length) : (bl l).take (l.length - r) = bl (l.drop r) := by
  have e : l = l.take r ++ l.drop r := (List.take_append_drop r l).symm
  have h2 : bl l = bl (l.drop r) ++ bl (l.take r) := by
    unfold bl
    rw [← List.map_append, ← List.reverse_append, List.take_append_drop]
  rw [h2, List.take_append_of_le_length (by rw [bl_len, List.length_drop]; exact Nat.le_refl _), List.take_of_length_le (by rw [bl_len, List.length_drop]; exact Nat.le_refl _)]
theorem bl_at (l : List Bool) (i : Nat) (h : i < l.length) : (bl l)[l.length - 1 - i]? = some (.bool l[i]) := by
  unfold bl
  rw [List.getElem?_map, List.getElem?_reverse (by omega)]
  rw [show l.length - 1 - (l.length - 1 - i) = i by omega, List.getElem?_eq_getElem h]
  rfl
theorem add_at (g t : Nat) : (⟨g, 0, none⟩ : Addr).add t = ⟨g, t, none⟩ := by
  by_cases h : t = 0
  · subst h; simp [Addr.add]
  · simp [Addr.add, h]
theorem ar_le (k : Int) : ar k ≤ 3 := by
  unfold ar
  split
  · omega
  · split
    · omega
    · split <;> omega
/-- The second loop's state: the stack holds what stands behind place q. -/
def St (t : Tr) (w : World) (q : Nat) (a : Option Addr) (s cp : Nat) (wr : World) : Prop :=
  wr.ownsRow w.heap.size 4 1 (.slice a s cp) s (bl (S (t.pre.drop q))) ∧ s = (S (t.pre.drop q)).length ∧ Below w.heap.size w wr
theorem S_len : ∀ l : List Int, (S l).length ≤ l.length
  | [] => Nat.le_refl _
  | k :: r => by
    have := S_len r
    simp only [S, List.length_cons, List.length_drop]
    omega
/-- A step's end: one value more on what is left of the stack. -/
theorem st_next {t : Tr} {w wr w3 : World} {j s r : Nat} {a a3 : Option Addr} {cp c3 : Nat} {o : Obj} {b : Bool} {st : List Bool} (hS : S (t.pre.drop j) = b :: st.drop r) (hs : s = st.length) (hr : r ≤ s) (hb : Below w.heap.size w wr)
    (ho : wr.ownsRow w.heap.size 4 1 (.slice a (s - r) cp) (s - r) (bl (st.drop r))) (h3 : w3.ownsRow w.heap.size 4 1 (.slice a3 (s - r + 1) c3) (s - r + 1) (bl (st.drop r) ++ [.bool b])) (hg : (wr.alloc o).grownBy w3 (Value.slice a (s - r) cp).ownBlock) : St t w j a3 (s - r + 1) c3 w3 := by
  refine ⟨?_, ?_, Below.grown (hb.alloc hb.size o) hg (by have := hb.size; simp; omega) (fun k hk => (ho.lt k hk).1)⟩
  · rw [hS, bl_cons]; exact h3
  · rw [hS, List.length_cons, List.length_drop]; omega
theorem own_cap {w : World} {B e s cp : Nat} {a : Option Addr} {xs : List Value} (h : w.ownsRow B e 1 (.slice a s cp) s xs) : s ≤ cp ∧ cp ≤ 9223372036854775807 := by
  rcases h.2 with ⟨e1, e2⟩ | ⟨g, cap, cur, e1, h2, h3, h4, h5, h6, h7⟩
  · injection e1 with e1 e3 e4
    omega
  · injection e1 with e1 e3 e4
    subst e4
    unfold maxLen at h5
    exact ⟨h4, by omega⟩
theorem form1 {w : World} {B e size n : Nat} {v : Value} {xs : List Value} (h : w.ownsRow B e size v n xs) : ∃ a c, v = .slice a n c := by
  rcases h.2 with ⟨rfl, rfl⟩ | ⟨g, cap, cur, rfl, _⟩
  · exact ⟨_, _, rfl⟩
  · exact ⟨_, _, rfl⟩
theorem cell_top {w : World} {B e s cp : Nat} {a : Option Addr} {st : List Bool} (h : w.ownsRow B e 1 (.slice a s cp) s (bl st)) (hs : s = st.length) (i : Nat) (hi : i < st.length) : ∃ g, a = some ⟨g, 0, none⟩ ∧ g < w.heap.size ∧ w.cell? ⟨g, s - 1 - i, none⟩ = some (.bool (st.getD i false)) := by
  obtain ⟨g, cap, e1, h1, h2⟩ := h.form (by omega)
  injection e1 with e1 e3 e4
  subst e1
  refine ⟨g, rfl, h2, ?_⟩
  have := h.cells (g := g) rfl (s - 1 - i) _ (by rw [hs]; exact bl_at st i hi)
  rw [add_at] at this
  rw [this]
  simp [hi]
set_option maxHeartbeats 8000000 in
theorem stack10 (a : Option Addr) (n c : Nat) (z : List Int) (t : Tr) (j0 : Nat) (w : World) (hn : n ≤ 65536) (hr : IntRow .u8 w a n c z) (hp : Parse z 0 t j0) :
    Calls Try.prog 10 #[.slice a n c] w fun e w' => e = .returned (.bool t.ev) ∧ Below w.heap.size w w' := by
  obtain ⟨i0, hi, hz0, hz1, hz2⟩ := info_parts info4
  have R := Lib.hid hr
  have HZ := Lib.hid hr.1
  have HT := Lib.hid hp.okT
  have I0 := Lib.hid (inv1_start hp)
  clear hr hp
  go_enter Try.func10, Try.ntmps10
  go_wp2_with fail
  go_loop [3, 4] (fun nd i => ∃ k m : Nat, k ≤ n ∧ m ≤ 1 + 2 * k ∧ i = .int .i64 (k : Int) ∧ nd = .int .i64 (m : Int) ∧ Hid (Inv1 z t k m)) (fun _ i => n - (intOf i).toNat)
  case atStart => exact ⟨0, 1, Nat.zero_le _, by omega, rfl, rfl, I0⟩
  case round =>
    obtain ⟨k, m, hk, hm, rfl, rfl, hI⟩ := hrel
    clear I0
    by_cases hgo : k < n ∧ 0 < m
    · obtain ⟨hlt, hm0⟩ := hgo
      obtain ⟨b, off, ha, hb, hc⟩ := R.out.at hlt
      subst ha
      obtain ⟨x, hx⟩ : ∃ x, x = z.getD k 0 := ⟨_, rfl⟩
      rw [← hx] at hc
      obtain ⟨q, ex⟩ := elt_of R.out hlt hx
      have hb2 := bounds_u8 (R.out.2.2.2.1 _ (List.getElem_mem q))
      rw [← ex] at hb2
      obtain ⟨x0, x1⟩ := hb2
      obtain ⟨m', hm', hI'⟩ := inv1_step hI.out q hm0
      rw [← ex] at hm'
      have hr3 := ar_le (x % 8)
      have A : Hid (∀ w, Calls Try.prog 24 #[.int .u8 (x % 8)] w fun e w' => e = .returned (.int .i64 (ar (x % 8) : Int)) ∧ w' = w) := fun w => ar24 (x % 8) w (by omega)
      generalize ar (x % 8) = r at *
      have HI := Lib.hid hI'
      have hm1 : m' ≤ 1 + 2 * (k + 1) := by omega
      have HM := Lib.hid hm'
      clear hI hI' hx ex q hm'
      go_wp2_with (first | (go_at_call 24; refine (A.out _).mono ?_; rintro e w' ⟨rfl, rfl⟩))
      go_round
      case rel => exact ⟨k + 1, m', by omega, hm1, by go_num, by rw [HM.out], HI⟩
      case measure => simp [intOf]; omega
    · have he : m = 0 ∨ k = n := by omega
      have HE := Lib.hid (inv1_end hI.out (by rw [HZ.out]; exact hk) (by rw [HZ.out]; exact he))
      have htl : t.pre.length = k + m := by
        rw [HE.out]
        simp only [List.length_append, List.length_map, List.length_take, List.length_replicate]
        rw [HZ.out]; omega
      have HTL := Lib.hid htl
      have hpos : 0 < k + m := by rw [← htl, pre_kids]; simp
      have hex : (k < n ∧ m = 0) ∨ (k = n) := by omega
      obtain ⟨W, hmk, hown, hg⟩ := run_make_own (P := Try.prog) (w := w) w.heap.size 41 4 i0 _ 1 Try.underlying41 hi hz0 hz1 .i64 .i64 (k + m) (by rw [hz2]; omega) (by unfold maxLen; omega) (Nat.le_refl _)
      rw [show ((k + m : Nat) : Int) = (k : Int) + (m : Int) by simp] at hmk
      have S0 : Hid (St t w (k + m) (some ⟨w.heap.size, 0, none⟩) 0 (k + m) W) := by
        have e : t.pre.drop (k + m) = [] := List.drop_of_length_le (by rw [htl]; exact Nat.le_refl _)
        refine ⟨?_, ?_, (Below.refl _ w).grown hg (Nat.le_refl _) (fun k hk => by cases hk)⟩
        · rw [e]; exact hown
        · rw [e]; rfl
      clear hI hgo he htl hown hg
      rcases hex with ⟨hex, rfl⟩ | rfl
      · simp only [Nat.add_zero, Int.natCast_zero, Int.add_zero] at hmk S0 HTL hpos
        go_wp2_with fail
        go_loopw [6, 7] (fun v i wr => ∃ (q s cp : Nat) (a' : Option Addr), q ≤ k ∧ i = .int .i64 ((q : Int) - 1) ∧ v = .slice a' s cp ∧ Hid (St t w q a' s cp wr)) (fun _ i _ => (intOf i + 1).toNat)
        case atStart => exact ⟨k, 0, _, _, Nat.le_refl _, by go_num, rfl, S0⟩
        case round =>
          obtain ⟨q, s, cp, a', hq, rfl, rfl, hS⟩ := hrel
          clear hmk
          rcases q with _ | j
          · rw [show (((0 : Nat) : Int) - 1) = -1 from rfl]
            obtain ⟨ho, hs, hb⟩ := hS.out
            have e1 : S t.pre = [t.ev] := by
              have := S_pre t [] HT.out
              rw [List.append_nil] at this
              rw [this]; rfl
            rw [List.drop_zero, e1] at ho hs
            have hs1 : s = 1 := hs
            subst hs1
            obtain ⟨g, eg, hg, tc⟩ := cell_top ho rfl 0 (by simp)
            subst eg
            have tc' : wr.cell? ⟨g, 0, none⟩ = some (.bool t.ev) := tc
            have HB := Lib.hid hb
            have h10 : (0 : Int) < 1 := by decide
            clear ho hs hb tc hS
            go_wp2_with fail
            go_ret
            exact ⟨rfl, HB.out⟩
          · rw [show (((j + 1 : Nat) : Int) - 1) = (j : Int) by omega]
            obtain ⟨ho, hs, hb⟩ := hS.out
            have hjl : j < t.pre.length := by rw [HTL.out]; omega
            obtain ⟨har, hst⟩ := step2 t HT.out j hjl
            have haj := at_j HE.out (by rw [HZ.out]; omega) j hjl
            obtain ⟨st, est⟩ : ∃ st, st = S (t.pre.drop (j + 1)) := ⟨_, rfl⟩
            have EST := Lib.hid est
            rw [← est] at ho hs har hst
            clear est hS
            by_cases hjk : j < k
            · obtain ⟨b, off, ha, hbl, hc⟩ := R.out.at (i := j) (by omega)
              subst ha
              rw [if_pos hjk] at haj
              rw [haj] at har hst
              have hbw := bcell hb hc
              have hblw := cell_lt hbw
              obtain ⟨x, hx⟩ : ∃ x, x = z.getD j 0 := ⟨_, rfl⟩
              have hx0 : 0 ≤ x ∧ x ≤ 255 := by
                obtain ⟨q, e⟩ := elt_of R.out (by omega) hx
                rw [e]; exact bounds_u8 (R.out.2.2.2.1 _ (List.getElem_mem q))
              obtain ⟨x0, x1⟩ := hx0
              rw [← hx] at hbw har hst
              clear hx haj hc hbl
              have hk8 : x % 8 = 0 ∨ x % 8 = 1 ∨ x % 8 = 2 ∨ x % 8 = 3 ∨ x % 8 = 4 ∨ x % 8 = 5 ∨ x % 8 = 6 ∨ x % 8 = 7 := by omega
              rcases hk8 with h8 | h8 | h8 | h8 | h8 | h8 | h8 | h8
              · rw [h8] at har hst
                rw [show ar 0 = 0 from rfl] at har hst
                have hr : 0 ≤ s := by rw [hs]; exact har
                have HO := Lib.hid (own_take ho (k := s - 0) (by omega))
                rw [show (bl st).take (s - 0) = bl (st.drop 0) by rw [hs]; exact bl_take st 0 (by omega)] at HO
                have HS : Hid (S (t.pre.drop j) = false :: st.drop 0) := by
                  show _ = _
                  rw [hst]
                  have ev : val 0 st = false := by rfl
                  rw [ev]
                have HB := Lib.hid hb
                have HL := Lib.hid hs
                have hsz := hb.size
                obtain ⟨hcp, hcp2⟩ := own_cap ho
                have AR := Lib.hid fun w => (ar24 0 w (by decide)).mono fun e w' h => (⟨h.1, h.2.symm⟩ : e = .returned (.int .i64 (ar 0 : Int)) ∧ w = w')
                rw [show (ar 0 : Int) = 0 from rfl] at AR
                have bs1 : s ≤ 300000 := by rw [hs, EST.out]; have := S_len (t.pre.drop (j + 1)); rw [List.length_drop, HTL.out] at this; omega
                rw [show s - 0 = s by omega] at HO
                clear hst har hb hs ho S0
                go_wp2_with (first | (go_at_call 24; (with_reducible refine (AR.out _).mono ?_); rintro e w' ⟨rfl, rfl⟩) | (at_builtin; (refine wpList_append_own _ rfl _ _ 41 rfl w.heap.size 4 i0 (.bool false) 1 1 Try.underlying41 hi hz0 hz1 hz2 rfl (by decide) _ _ _ rfl (HO.out.alloc _) ⟨wr.heap.size, 0, none⟩ 1 1 [.bool false] rfl rfl (cell_one_new _ _ _) (fun x hx => by simp at hx; subst hx; rfl) (by unfold maxLen; omega) (by omega) (by simp; omega) ?_); intro v' w3 hown' hgrow3 hnil3))
                obtain ⟨a3, c3, rfl⟩ := form1 hown'
                have N : Hid (St t w j a3 (s + 1) c3 w3) := st_next (r := 0) (by simpa using HS.out) HL.out (by omega) HB.out HO.out (by simpa using hown') hgrow3
                clear hown' hgrow3 hnil3
                go_wp2_with fail
                go_roundw
                case rel => exact ⟨j, s + 1, c3, a3, by omega, by go_num, rfl, N⟩
                case measure => simp [intOf]; try omega
              · rw [h8] at har hst
                rw [show ar 1 = 2 from rfl] at har hst
                have hr : 2 ≤ s := by rw [hs]; exact har
                obtain ⟨g0, eg0, hg0, t0⟩ := cell_top ho hs 0 (by omega)
                obtain ⟨g1, eg1, hg1, t1⟩ := cell_top ho hs 1 (by omega)
                subst eg0
                obtain rfl : g0 = g1 := by injection eg1 with e; injection e
                obtain ⟨b0, e0⟩ : ∃ b, b = st.getD 0 false := ⟨_, rfl⟩
                rw [← e0] at t0
                rw [show s - 1 - 0 = s - 1 by omega] at t0
                obtain ⟨b1, e1⟩ : ∃ b, b = st.getD 1 false := ⟨_, rfl⟩
                rw [← e1] at t1
                rw [show s - 1 - 1 = s - 2 by omega] at t1
                have E0 := Lib.hid e0
                have E1 := Lib.hid e1
                clear e0 e1 eg1
                have HO := Lib.hid (own_take ho (k := s - 2) (by omega))
                rw [show (bl st).take (s - 2) = bl (st.drop 2) by rw [hs]; exact bl_take st 2 (by omega)] at HO
                have HS : Hid (S (t.pre.drop j) = true :: st.drop 2) := by
                  show _ = _
                  rw [hst]
                  have ev : val 1 st = true := by rfl
                  rw [ev]
                have HB := Lib.hid hb
                have HL := Lib.hid hs
                have hsz := hb.size
                obtain ⟨hcp, hcp2⟩ := own_cap ho
                have AR := Lib.hid fun w => (ar24 1 w (by decide)).mono fun e w' h => (⟨h.1, h.2.symm⟩ : e = .returned (.int .i64 (ar 1 : Int)) ∧ w = w')
                rw [show (ar 1 : Int) = 2 from rfl] at AR
                have bs1 : s ≤ 300000 := by rw [hs, EST.out]; have := S_len (t.pre.drop (j + 1)); rw [List.length_drop, HTL.out] at this; omega
                clear hst har hb hs ho S0
                go_wp2_with (first | (go_at_call 24; (with_reducible refine (AR.out _).mono ?_); rintro e w' ⟨rfl, rfl⟩) | (at_builtin; (refine wpList_append_own _ rfl _ _ 41 rfl w.heap.size 4 i0 (.bool false) 1 1 Try.underlying41 hi hz0 hz1 hz2 rfl (by decide) _ _ _ rfl (HO.out.alloc _) ⟨wr.heap.size, 0, none⟩ 1 1 [.bool true] rfl rfl (cell_one_new _ _ _) (fun x hx => by simp at hx; subst hx; rfl) (by unfold maxLen; omega) (by omega) (by simp; omega) ?_); intro v' w3 hown' hgrow3 hnil3))
                obtain ⟨a3, c3, rfl⟩ := form1 hown'
                have N : Hid (St t w j a3 (s - 2 + 1) c3 w3) := st_next (r := 2) HS.out HL.out (by omega) HB.out HO.out hown' hgrow3
                clear hown' hgrow3 hnil3
                go_wp2_with fail
                go_roundw
                case rel => exact ⟨j, s - 2 + 1, c3, a3, by omega, by go_num, rfl, N⟩
                case measure => simp [intOf]; try omega
              · rw [h8] at har hst
                rw [show ar 2 = 2 from rfl] at har hst
                have hr : 2 ≤ s := by rw [hs]; exact har
                obtain ⟨g0, eg0, hg0, t0⟩ := cell_top ho hs 0 (by omega)
                obtain ⟨g1, eg1, hg1, t1⟩ := cell_top ho hs 1 (by omega)
                subst eg0
                obtain rfl : g0 = g1 := by injection eg1 with e; injection e
                obtain ⟨b0, e0⟩ : ∃ b, b = st.getD 0 false := ⟨_, rfl⟩
                rw [← e0] at t0
                rw [show s - 1 - 0 = s - 1 by omega] at t0
                obtain ⟨b1, e1⟩ : ∃ b, b = st.getD 1 false := ⟨_, rfl⟩
                rw [← e1] at t1
                rw [show s - 1 - 1 = s - 2 by omega] at t1
                have E0 := Lib.hid e0
                have E1 := Lib.hid e1
                clear e0 e1 eg1
                have HO := Lib.hid (own_take ho (k := s - 2) (by omega))
                rw [show (bl st).take (s - 2) = bl (st.drop 2) by rw [hs]; exact bl_take st 2 (by omega)] at HO
                have HS : Hid (S (t.pre.drop j) = (b0 && b1) :: st.drop 2) := by
                  show _ = _
                  rw [hst]
                  have ev : val 2 st = (b0 && b1) := by show (if (2 : Int) = 1 then true else if (2 : Int) = 2 ∨ (2 : Int) = 3 then st.getD 0 false && st.getD 1 false else _) = _; rw [if_neg (by decide), if_pos (by decide)]; rw [E0.out, E1.out]
                  rw [ev]
                have HB := Lib.hid hb
                have HL := Lib.hid hs
                have hsz := hb.size
                obtain ⟨hcp, hcp2⟩ := own_cap ho
                have AR := Lib.hid fun w => (ar24 2 w (by decide)).mono fun e w' h => (⟨h.1, h.2.symm⟩ : e = .returned (.int .i64 (ar 2 : Int)) ∧ w = w')
                rw [show (ar 2 : Int) = 2 from rfl] at AR
                have bs1 : s ≤ 300000 := by rw [hs, EST.out]; have := S_len (t.pre.drop (j + 1)); rw [List.length_drop, HTL.out] at this; omega
                clear hst har hb hs ho S0
                cases b0 with
                | false =>
                  cases b1 with
                  | false =>
                    simp only [Bool.and_true, Bool.and_false, Bool.true_and, Bool.false_and, Bool.and_self] at HS
                    go_wp2_with (first | (go_at_call 24; (with_reducible refine (AR.out _).mono ?_); rintro e w' ⟨rfl, rfl⟩) | (at_builtin; (refine wpList_append_own _ rfl _ _ 41 rfl w.heap.size 4 i0 (.bool false) 1 1 Try.underlying41 hi hz0 hz1 hz2 rfl (by decide) _ _ _ rfl (HO.out.alloc _) ⟨wr.heap.size, 0, none⟩ 1 1 [.bool false] rfl rfl (cell_one_new _ _ _) (fun x hx => by simp at hx; subst hx; rfl) (by unfold maxLen; omega) (by omega) (by simp; omega) ?_); intro v' w3 hown' hgrow3 hnil3))
                    obtain ⟨a3, c3, rfl⟩ := form1 hown'
                    have N : Hid (St t w j a3 (s - 2 + 1) c3 w3) := st_next (r := 2) HS.out HL.out (by omega) HB.out HO.out hown' hgrow3
                    clear hown' hgrow3 hnil3
                    go_wp2_with fail
                    go_roundw
                    case rel => exact ⟨j, s - 2 + 1, c3, a3, by omega, by go_num, rfl, N⟩
                    case measure => simp [intOf]; try omega
                  | true =>
                    simp only [Bool.and_true, Bool.and_false, Bool.true_and, Bool.false_and, Bool.and_self] at HS
                    go_wp2_with (first | (go_at_call 24; (with_reducible refine (AR.out _).mono ?_); rintro e w' ⟨rfl, rfl⟩) | (at_builtin; (refine wpList_append_own _ rfl _ _ 41 rfl w.heap.size 4 i0 (.bool false) 1 1 Try.underlying41 hi hz0 hz1 hz2 rfl (by decide) _ _ _ rfl (HO.out.alloc _) ⟨wr.heap.size, 0, none⟩ 1 1 [.bool false] rfl rfl (cell_one_new _ _ _) (fun x hx => by simp at hx; subst hx; rfl) (by unfold maxLen; omega) (by omega) (by simp; omega) ?_); intro v' w3 hown' hgrow3 hnil3))
                    obtain ⟨a3, c3, rfl⟩ := form1 hown'
                    have N : Hid (St t w j a3 (s - 2 + 1) c3 w3) := st_next (r := 2) HS.out HL.out (by omega) HB.out HO.out hown' hgrow3
                    clear hown' hgrow3 hnil3
                    go_wp2_with fail
                    go_roundw
                    case rel => exact ⟨j, s - 2 + 1, c3, a3, by omega, by go_num, rfl, N⟩
                    case measure => simp [intOf]; try omega
                | true =>
                  cases b1 with
                  | false =>
                    simp only [Bool.and_true, Bool.and_false, Bool.true_and, Bool.false_and, Bool.and_self] at HS
                    go_wp2_with (first | (go_at_call 24; (with_reducible refine (AR.out _).mono ?_); rintro e w' ⟨rfl, rfl⟩) | (at_builtin; (refine wpList_append_own _ rfl _ _ 41 rfl w.heap.size 4 i0 (.bool false) 1 1 Try.underlying41 hi hz0 hz1 hz2 rfl (by decide) _ _ _ rfl (HO.out.alloc _) ⟨wr.heap.size, 0, none⟩ 1 1 [.bool false] rfl rfl (cell_one_new _ _ _) (fun x hx => by simp at hx; subst hx; rfl) (by unfold maxLen; omega) (by omega) (by simp; omega) ?_); intro v' w3 hown' hgrow3 hnil3))
                    obtain ⟨a3, c3, rfl⟩ := form1 hown'
                    have N : Hid (St t w j a3 (s - 2 + 1) c3 w3) := st_next (r := 2) HS.out HL.out (by omega) HB.out HO.out hown' hgrow3
                    clear hown' hgrow3 hnil3
                    go_wp2_with fail
                    go_roundw
                    case rel => exact ⟨j, s - 2 + 1, c3, a3, by omega, by go_num, rfl, N⟩
                    case measure => simp [intOf]; try omega
                  | true =>
                    simp only [Bool.and_true, Bool.and_false, Bool.true_and, Bool.false_and, Bool.and_self] at HS
                    go_wp2_with (first | (go_at_call 24; (with_reducible refine (AR.out _).mono ?_); rintro e w' ⟨rfl, rfl⟩) | (at_builtin; (refine wpList_append_own _ rfl _ _ 41 rfl w.heap.size 4 i0 (.bool false) 1 1 Try.underlying41 hi hz0 hz1 hz2 rfl (by decide) _ _ _ rfl (HO.out.alloc _) ⟨wr.heap.size, 0, none⟩ 1 1 [.bool true] rfl rfl (cell_one_new _ _ _) (fun x hx => by simp at hx; subst hx; rfl) (by unfold maxLen; omega) (by omega) (by simp; omega) ?_); intro v' w3 hown' hgrow3 hnil3))
                    obtain ⟨a3, c3, rfl⟩ := form1 hown'
                    have N : Hid (St t w j a3 (s - 2 + 1) c3 w3) := st_next (r := 2) HS.out HL.out (by omega) HB.out HO.out hown' hgrow3
                    clear hown' hgrow3 hnil3
                    go_wp2_with fail
                    go_roundw
                    case rel => exact ⟨j, s - 2 + 1, c3, a3, by omega, by go_num, rfl, N⟩
                    case measure => simp [intOf]; try omega
              · rw [h8] at har hst
                rw [show ar 3 = 2 from rfl] at har hst
                have hr : 2 ≤ s := by rw [hs]; exact har
                obtain ⟨g0, eg0, hg0, t0⟩ := cell_top ho hs 0 (by omega)
                obtain ⟨g1, eg1, hg1, t1⟩ := cell_top ho hs 1 (by omega)
                subst eg0
                obtain rfl : g0 = g1 := by injection eg1 with e; injection e
                obtain ⟨b0, e0⟩ : ∃ b, b = st.getD 0 false := ⟨_, rfl⟩
                rw [← e0] at t0
                rw [show s - 1 - 0 = s - 1 by omega] at t0
                obtain ⟨b1, e1⟩ : ∃ b, b = st.getD 1 false := ⟨_, rfl⟩
                rw [← e1] at t1
                rw [show s - 1 - 1 = s - 2 by omega] at t1
                have E0 := Lib.hid e0
                have E1 := Lib.hid e1
                clear e0 e1 eg1
                have HO := Lib.hid (own_take ho (k := s - 2) (by omega))
                rw [show (bl st).take (s - 2) = bl (st.drop 2) by rw [hs]; exact bl_take st 2 (by omega)] at HO
                have HS : Hid (S (t.pre.drop j) = (b0 && b1) :: st.drop 2) := by
                  show _ = _
                  rw [hst]
                  have ev : val 3 st = (b0 && b1) := by show (if (3 : Int) = 1 then true else if (3 : Int) = 2 ∨ (3 : Int) = 3 then st.getD 0 false && st.getD 1 false else _) = _; rw [if_neg (by decide), if_pos (by decide)]; rw [E0.out, E1.out]
                  rw [ev]
                have HB := Lib.hid hb
                have HL := Lib.hid hs
                have hsz := hb.size
                obtain ⟨hcp, hcp2⟩ := own_cap ho
                have AR := Lib.hid fun w => (ar24 3 w (by decide)).mono fun e w' h => (⟨h.1, h.2.symm⟩ : e = .returned (.int .i64 (ar 3 : Int)) ∧ w = w')
                rw [show (ar 3 : Int) = 2 from rfl] at AR
                have bs1 : s ≤ 300000 := by rw [hs, EST.out]; have := S_len (t.pre.drop (j + 1)); rw [List.length_drop, HTL.out] at this; omega
                clear hst har hb hs ho S0
                cases b0 with
                | false =>
                  cases b1 with
                  | false =>
                    simp only [Bool.and_true, Bool.and_false, Bool.true_and, Bool.false_and, Bool.and_self] at HS
                    go_wp2_with (first | (go_at_call 24; (with_reducible refine (AR.out _).mono ?_); rintro e w' ⟨rfl, rfl⟩) | (at_builtin; (refine wpList_append_own _ rfl _ _ 41 rfl w.heap.size 4 i0 (.bool false) 1 1 Try.underlying41 hi hz0 hz1 hz2 rfl (by decide) _ _ _ rfl (HO.out.alloc _) ⟨wr.heap.size, 0, none⟩ 1 1 [.bool false] rfl rfl (cell_one_new _ _ _) (fun x hx => by simp at hx; subst hx; rfl) (by unfold maxLen; omega) (by omega) (by simp; omega) ?_); intro v' w3 hown' hgrow3 hnil3))
                    obtain ⟨a3, c3, rfl⟩ := form1 hown'
                    have N : Hid (St t w j a3 (s - 2 + 1) c3 w3) := st_next (r := 2) HS.out HL.out (by omega) HB.out HO.out hown' hgrow3
                    clear hown' hgrow3 hnil3
                    go_wp2_with fail
                    go_roundw
                    case rel => exact ⟨j, s - 2 + 1, c3, a3, by omega, by go_num, rfl, N⟩
                    case measure => simp [intOf]; try omega
                  | true =>
                    simp only [Bool.and_true, Bool.and_false, Bool.true_and, Bool.false_and, Bool.and_self] at HS
                    go_wp2_with (first | (go_at_call 24; (with_reducible refine (AR.out _).mono ?_); rintro e w' ⟨rfl, rfl⟩) | (at_builtin; (refine wpList_append_own _ rfl _ _ 41 rfl w.heap.size 4 i0 (.bool false) 1 1 Try.underlying41 hi hz0 hz1 hz2 rfl (by decide) _ _ _ rfl (HO.out.alloc _) ⟨wr.heap.size, 0, none⟩ 1 1 [.bool false] rfl rfl (cell_one_new _ _ _) (fun x hx => by simp at hx; subst hx; rfl) (by unfold maxLen; omega) (by omega) (by simp; omega) ?_); intro v' w3 hown' hgrow3 hnil3))
                    obtain ⟨a3, c3, rfl⟩ := form1 hown'
                    have N : Hid (St t w j a3 (s - 2 + 1) c3 w3) := st_next (r := 2) HS.out HL.out (by omega) HB.out HO.out hown' hgrow3
                    clear hown' hgrow3 hnil3
                    go_wp2_with fail
                    go_roundw
                    case rel => exact ⟨j, s - 2 + 1, c3, a3, by omega, by go_num, rfl, N⟩
                    case measure => simp [intOf]; try omega
                | true =>
                  cases b1 with
                  | false =>
                    simp only [Bool.and_true, Bool.and_false, Bool.true_and, Bool.false_and, Bool.and_self] at HS
                    go_wp2_with (first | (go_at_call 24; (with_reducible refine (AR.out _).mono ?_); rintro e w' ⟨rfl, rfl⟩) | (at_builtin; (refine wpList_append_own _ rfl _ _ 41 rfl w.heap.size 4 i0 (.bool false) 1 1 Try.underlying41 hi hz0 hz1 hz2 rfl (by decide) _ _ _ rfl (HO.out.alloc _) ⟨wr.heap.size, 0, none⟩ 1 1 [.bool false] rfl rfl (cell_one_new _ _ _) (fun x hx => by simp at hx; subst hx; rfl) (by unfold maxLen; omega) (by omega) (by simp; omega) ?_); intro v' w3 hown' hgrow3 hnil3))
                    obtain ⟨a3, c3, rfl⟩ := form1 hown'
                    have N : Hid (St t w j a3 (s - 2 + 1) c3 w3) := st_next (r := 2) HS.out HL.out (by omega) HB.out HO.out hown' hgrow3
                    clear hown' hgrow3 hnil3
                    go_wp2_with fail
                    go_roundw
                    case rel => exact ⟨j, s - 2 + 1, c3, a3, by omega, by go_num, rfl, N⟩
                    case measure => simp [intOf]; try omega
                  | true =>
                    simp only [Bool.and_true, Bool.and_false, Bool.true_and, Bool.false_and, Bool.and_self] at HS
                    go_wp2_with (first | (go_at_call 24; (with_reducible refine (AR.out _).mono ?_); rintro e w' ⟨rfl, rfl⟩) | (at_builtin; (refine wpList_append_own _ rfl _ _ 41 rfl w.heap.size 4 i0 (.bool false) 1 1 Try.underlying41 hi hz0 hz1 hz2 rfl (by decide) _ _ _ rfl (HO.out.alloc _) ⟨wr.heap.size, 0, none⟩ 1 1 [.bool true] rfl rfl (cell_one_new _ _ _) (fun x hx => by simp at hx; subst hx; rfl) (by unfold maxLen; omega) (by omega) (by simp; omega) ?_); intro v' w3 hown' hgrow3 hnil3))
                    obtain ⟨a3, c3, rfl⟩ := form1 hown'
                    have N : Hid (St t w j a3 (s - 2 + 1) c3 w3) := st_next (r := 2) HS.out HL.out (by omega) HB.out HO.out hown' hgrow3
                    clear hown' hgrow3 hnil3
                    go_wp2_with fail
                    go_roundw
                    case rel => exact ⟨j, s - 2 + 1, c3, a3, by omega, by go_num, rfl, N⟩
                    case measure => simp [intOf]; try omega
              · rw [h8] at har hst
                rw [show ar 4 = 3 from rfl] at har hst
                have hr : 3 ≤ s := by rw [hs]; exact har
                obtain ⟨g0, eg0, hg0, t0⟩ := cell_top ho hs 0 (by omega)
                obtain ⟨g1, eg1, hg1, t1⟩ := cell_top ho hs 1 (by omega)
                obtain ⟨g2, eg2, hg2, t2⟩ := cell_top ho hs 2 (by omega)
                subst eg0
                obtain rfl : g0 = g1 := by injection eg1 with e; injection e
                obtain rfl : g0 = g2 := by injection eg2 with e; injection e
                obtain ⟨b0, e0⟩ : ∃ b, b = st.getD 0 false := ⟨_, rfl⟩
                rw [← e0] at t0
                rw [show s - 1 - 0 = s - 1 by omega] at t0
                obtain ⟨b1, e1⟩ : ∃ b, b = st.getD 1 false := ⟨_, rfl⟩
                rw [← e1] at t1
                rw [show s - 1 - 1 = s - 2 by omega] at t1
                obtain ⟨b2, e2⟩ : ∃ b, b = st.getD 2 false := ⟨_, rfl⟩
                rw [← e2] at t2
                rw [show s - 1 - 2 = s - 3 by omega] at t2
                have E0 := Lib.hid e0
                have E1 := Lib.hid e1
                have E2 := Lib.hid e2
                clear e0 e1 e2 eg1 eg2
                have HO := Lib.hid (own_take ho (k := s - 3) (by omega))
                rw [show (bl st).take (s - 3) = bl (st.drop 3) by rw [hs]; exact bl_take st 3 (by omega)] at HO
                have HS : Hid (S (t.pre.drop j) = (b1 && b2) :: st.drop 3) := by
                  show _ = _
                  rw [hst]
                  have ev : val 4 st = (b1 && b2) := by show (if (4 : Int) = 1 then true else if (4 : Int) = 2 ∨ (4 : Int) = 3 then _ else if (4 : Int) = 4 then st.getD 1 false && st.getD 2 false else false) = _; rw [if_neg (by decide), if_neg (by decide), if_pos rfl]; rw [E1.out, E2.out]
                  rw [ev]
                have HB := Lib.hid hb
                have HL := Lib.hid hs
                have hsz := hb.size
                obtain ⟨hcp, hcp2⟩ := own_cap ho
                have AR := Lib.hid fun w => (ar24 4 w (by decide)).mono fun e w' h => (⟨h.1, h.2.symm⟩ : e = .returned (.int .i64 (ar 4 : Int)) ∧ w = w')
                rw [show (ar 4 : Int) = 3 from rfl] at AR
                have bs1 : s ≤ 300000 := by rw [hs, EST.out]; have := S_len (t.pre.drop (j + 1)); rw [List.length_drop, HTL.out] at this; omega
                clear hst har hb hs ho S0
                cases b1 with
                | false =>
                  cases b2 with
                  | false =>
                    simp only [Bool.and_true, Bool.and_false, Bool.true_and, Bool.false_and, Bool.and_self] at HS
                    go_wp2_with (first | (go_at_call 24; (with_reducible refine (AR.out _).mono ?_); rintro e w' ⟨rfl, rfl⟩) | (at_builtin; (refine wpList_append_own _ rfl _ _ 41 rfl w.heap.size 4 i0 (.bool false) 1 1 Try.underlying41 hi hz0 hz1 hz2 rfl (by decide) _ _ _ rfl (HO.out.alloc _) ⟨wr.heap.size, 0, none⟩ 1 1 [.bool false] rfl rfl (cell_one_new _ _ _) (fun x hx => by simp at hx; subst hx; rfl) (by unfold maxLen; omega) (by omega) (by simp; omega) ?_); intro v' w3 hown' hgrow3 hnil3))
                    obtain ⟨a3, c3, rfl⟩ := form1 hown'
                    have N : Hid (St t w j a3 (s - 3 + 1) c3 w3) := st_next (r := 3) HS.out HL.out (by omega) HB.out HO.out hown' hgrow3
                    clear hown' hgrow3 hnil3
                    go_wp2_with fail
                    go_roundw
                    case rel => exact ⟨j, s - 3 + 1, c3, a3, by omega, by go_num, rfl, N⟩
                    case measure => simp [intOf]; try omega
                  | true =>
                    simp only [Bool.and_true, Bool.and_false, Bool.true_and, Bool.false_and, Bool.and_self] at HS
                    go_wp2_with (first | (go_at_call 24; (with_reducible refine (AR.out _).mono ?_); rintro e w' ⟨rfl, rfl⟩) | (at_builtin; (refine wpList_append_own _ rfl _ _ 41 rfl w.heap.size 4 i0 (.bool false) 1 1 Try.underlying41 hi hz0 hz1 hz2 rfl (by decide) _ _ _ rfl (HO.out.alloc _) ⟨wr.heap.size, 0, none⟩ 1 1 [.bool false] rfl rfl (cell_one_new _ _ _) (fun x hx => by simp at hx; subst hx; rfl) (by unfold maxLen; omega) (by omega) (by simp; omega) ?_); intro v' w3 hown' hgrow3 hnil3))
                    obtain ⟨a3, c3, rfl⟩ := form1 hown'
                    have N : Hid (St t w j a3 (s - 3 + 1) c3 w3) := st_next (r := 3) HS.out HL.out (by omega) HB.out HO.out hown' hgrow3
                    clear hown' hgrow3 hnil3
                    go_wp2_with fail
                    go_roundw
                    case rel => exact ⟨j, s - 3 + 1, c3, a3, by omega, by go_num, rfl, N⟩
                    case measure => simp [intOf]; try omega
                | true =>
                  cases b2 with
                  | false =>
                    simp only [Bool.and_true, Bool.and_false, Bool.true_and, Bool.false_and, Bool.and_self] at HS
                    go_wp2_with (first | (go_at_call 24; (with_reducible refine (AR.out _).mono ?_); rintro e w' ⟨rfl, rfl⟩) | (at_builtin; (refine wpList_append_own _ rfl _ _ 41 rfl w.heap.size 4 i0 (.bool false) 1 1 Try.underlying41 hi hz0 hz1 hz2 rfl (by decide) _ _ _ rfl (HO.out.alloc _) ⟨wr.heap.size, 0, none⟩ 1 1 [.bool false] rfl rfl (cell_one_new _ _ _) (fun x hx => by simp at hx; subst hx; rfl) (by unfold maxLen; omega) (by omega) (by simp; omega) ?_); intro v' w3 hown' hgrow3 hnil3))
                    obtain ⟨a3, c3, rfl⟩ := form1 hown'
                    have N : Hid (St t w j a3 (s - 3 + 1) c3 w3) := st_next (r := 3) HS.out HL.out (by omega) HB.out HO.out hown' hgrow3
                    clear hown' hgrow3 hnil3
                    go_wp2_with fail
                    go_roundw
                    case rel => exact ⟨j, s - 3 + 1, c3, a3, by omega, by go_num, rfl, N⟩
                    case measure => simp [intOf]; try omega
                  | true =>
                    simp only [Bool.and_true, Bool.and_false, Bool.true_and, Bool.false_and, Bool.and_self] at HS
                    go_wp2_with (first | (go_at_call 24; (with_reducible refine (AR.out _).mono ?_); rintro e w' ⟨rfl, rfl⟩) | (at_builtin; (refine wpList_append_own _ rfl _ _ 41 rfl w.heap.size 4 i0 (.bool false) 1 1 Try.underlying41 hi hz0 hz1 hz2 rfl (by decide) _ _ _ rfl (HO.out.alloc _) ⟨wr.heap.size, 0, none⟩ 1 1 [.bool true] rfl rfl (cell_one_new _ _ _) (fun x hx => by simp at hx; subst hx; rfl) (by unfold maxLen; omega) (by omega) (by simp; omega) ?_); intro v' w3 hown' hgrow3 hnil3))
                    obtain ⟨a3, c3, rfl⟩ := form1 hown'
                    have N : Hid (St t w j a3 (s - 3 + 1) c3 w3) := st_next (r := 3) HS.out HL.out (by omega) HB.out HO.out hown' hgrow3
                    clear hown' hgrow3 hnil3
                    go_wp2_with fail
                    go_roundw
                    case rel => exact ⟨j, s - 3 + 1, c3, a3, by omega, by go_num, rfl, N⟩
                    case measure => simp [intOf]; try omega
              · rw [h8] at har hst
                rw [show ar 5 = 2 from rfl] at har hst
                have hr : 2 ≤ s := by rw [hs]; exact har
                obtain ⟨g0, eg0, hg0, t0⟩ := cell_top ho hs 0 (by omega)
                obtain ⟨g1, eg1, hg1, t1⟩ := cell_top ho hs 1 (by omega)
                subst eg0
                obtain rfl : g0 = g1 := by injection eg1 with e; injection e
                obtain ⟨b0, e0⟩ : ∃ b, b = st.getD 0 false := ⟨_, rfl⟩
                rw [← e0] at t0
                rw [show s - 1 - 0 = s - 1 by omega] at t0
                obtain ⟨b1, e1⟩ : ∃ b, b = st.getD 1 false := ⟨_, rfl⟩
                rw [← e1] at t1
                rw [show s - 1 - 1 = s - 2 by omega] at t1
                have E0 := Lib.hid e0
                have E1 := Lib.hid e1
                clear e0 e1 eg1
                have HO := Lib.hid (own_take ho (k := s - 2) (by omega))
                rw [show (bl st).take (s - 2) = bl (st.drop 2) by rw [hs]; exact bl_take st 2 (by omega)] at HO
                have HS : Hid (S (t.pre.drop j) = false :: st.drop 2) := by
                  show _ = _
                  rw [hst]
                  have ev : val 5 st = false := by rfl
                  rw [ev]
                have HB := Lib.hid hb
                have HL := Lib.hid hs
                have hsz := hb.size
                obtain ⟨hcp, hcp2⟩ := own_cap ho
                have AR := Lib.hid fun w => (ar24 5 w (by decide)).mono fun e w' h => (⟨h.1, h.2.symm⟩ : e = .returned (.int .i64 (ar 5 : Int)) ∧ w = w')
                rw [show (ar 5 : Int) = 2 from rfl] at AR
                have bs1 : s ≤ 300000 := by rw [hs, EST.out]; have := S_len (t.pre.drop (j + 1)); rw [List.length_drop, HTL.out] at this; omega
                clear hst har hb hs ho S0
                go_wp2_with (first | (go_at_call 24; (with_reducible refine (AR.out _).mono ?_); rintro e w' ⟨rfl, rfl⟩) | (at_builtin; (refine wpList_append_own _ rfl _ _ 41 rfl w.heap.size 4 i0 (.bool false) 1 1 Try.underlying41 hi hz0 hz1 hz2 rfl (by decide) _ _ _ rfl (HO.out.alloc _) ⟨wr.heap.size, 0, none⟩ 1 1 [.bool false] rfl rfl (cell_one_new _ _ _) (fun x hx => by simp at hx; subst hx; rfl) (by unfold maxLen; omega) (by omega) (by simp; omega) ?_); intro v' w3 hown' hgrow3 hnil3))
                obtain ⟨a3, c3, rfl⟩ := form1 hown'
                have N : Hid (St t w j a3 (s - 2 + 1) c3 w3) := st_next (r := 2) HS.out HL.out (by omega) HB.out HO.out hown' hgrow3
                clear hown' hgrow3 hnil3
                go_wp2_with fail
                go_roundw
                case rel => exact ⟨j, s - 2 + 1, c3, a3, by omega, by go_num, rfl, N⟩
                case measure => simp [intOf]; try omega
              · rw [h8] at har hst
                rw [show ar 6 = 1 from rfl] at har hst
                have hr : 1 ≤ s := by rw [hs]; exact har
                obtain ⟨g0, eg0, hg0, t0⟩ := cell_top ho hs 0 (by omega)
                subst eg0
                obtain ⟨b0, e0⟩ : ∃ b, b = st.getD 0 false := ⟨_, rfl⟩
                rw [← e0] at t0
                rw [show s - 1 - 0 = s - 1 by omega] at t0
                have E0 := Lib.hid e0
                clear e0
                have HO := Lib.hid (own_take ho (k := s - 1) (by omega))
                rw [show (bl st).take (s - 1) = bl (st.drop 1) by rw [hs]; exact bl_take st 1 (by omega)] at HO
                have HS : Hid (S (t.pre.drop j) = false :: st.drop 1) := by
                  show _ = _
                  rw [hst]
                  have ev : val 6 st = false := by rfl
                  rw [ev]
                have HB := Lib.hid hb
                have HL := Lib.hid hs
                have hsz := hb.size
                obtain ⟨hcp, hcp2⟩ := own_cap ho
                have AR := Lib.hid fun w => (ar24 6 w (by decide)).mono fun e w' h => (⟨h.1, h.2.symm⟩ : e = .returned (.int .i64 (ar 6 : Int)) ∧ w = w')
                rw [show (ar 6 : Int) = 1 from rfl] at AR
                have bs1 : s ≤ 300000 := by rw [hs, EST.out]; have := S_len (t.pre.drop (j + 1)); rw [List.length_drop, HTL.out] at this; omega
                clear hst har hb hs ho S0
                go_wp2_with (first | (go_at_call 24; (with_reducible refine (AR.out _).mono ?_); rintro e w' ⟨rfl, rfl⟩) | (at_builtin; (refine wpList_append_own _ rfl _ _ 41 rfl w.heap.size 4 i0 (.bool false) 1 1 Try.underlying41 hi hz0 hz1 hz2 rfl (by decide) _ _ _ rfl (HO.out.alloc _) ⟨wr.heap.size, 0, none⟩ 1 1 [.bool false] rfl rfl (cell_one_new _ _ _) (fun x hx => by simp at hx; subst hx; rfl) (by unfold maxLen; omega) (by omega) (by simp; omega) ?_); intro v' w3 hown' hgrow3 hnil3))
                obtain ⟨a3, c3, rfl⟩ := form1 hown'
                have N : Hid (St t w j a3 (s - 1 + 1) c3 w3) := st_next (r := 1) HS.out HL.out (by omega) HB.out HO.out hown' hgrow3
                clear hown' hgrow3 hnil3
                go_wp2_with fail
                go_roundw
                case rel => exact ⟨j, s - 1 + 1, c3, a3, by omega, by go_num, rfl, N⟩
                case measure => simp [intOf]; try omega
              · rw [h8] at har hst
                rw [show ar 7 = 2 from rfl] at har hst
                have hr : 2 ≤ s := by rw [hs]; exact har
                obtain ⟨g0, eg0, hg0, t0⟩ := cell_top ho hs 0 (by omega)
                obtain ⟨g1, eg1, hg1, t1⟩ := cell_top ho hs 1 (by omega)
                subst eg0
                obtain rfl : g0 = g1 := by injection eg1 with e; injection e
                obtain ⟨b0, e0⟩ : ∃ b, b = st.getD 0 false := ⟨_, rfl⟩
                rw [← e0] at t0
                rw [show s - 1 - 0 = s - 1 by omega] at t0
                obtain ⟨b1, e1⟩ : ∃ b, b = st.getD 1 false := ⟨_, rfl⟩
                rw [← e1] at t1
                rw [show s - 1 - 1 = s - 2 by omega] at t1
                have E0 := Lib.hid e0
                have E1 := Lib.hid e1
                clear e0 e1 eg1
                have HO := Lib.hid (own_take ho (k := s - 2) (by omega))
                rw [show (bl st).take (s - 2) = bl (st.drop 2) by rw [hs]; exact bl_take st 2 (by omega)] at HO
                have HS : Hid (S (t.pre.drop j) = false :: st.drop 2) := by
                  show _ = _
                  rw [hst]
                  have ev : val 7 st = false := by rfl
                  rw [ev]
                have HB := Lib.hid hb
                have HL := Lib.hid hs
                have hsz := hb.size
                obtain ⟨hcp, hcp2⟩ := own_cap ho
                have AR := Lib.hid fun w => (ar24 7 w (by decide)).mono fun e w' h => (⟨h.1, h.2.symm⟩ : e = .returned (.int .i64 (ar 7 : Int)) ∧ w = w')
                rw [show (ar 7 : Int) = 2 from rfl] at AR
                have bs1 : s ≤ 300000 := by rw [hs, EST.out]; have := S_len (t.pre.drop (j + 1)); rw [List.length_drop, HTL.out] at this; omega
                clear hst har hb hs ho S0
                go_wp2_with (first | (go_at_call 24; (with_reducible refine (AR.out _).mono ?_); rintro e w' ⟨rfl, rfl⟩) | (at_builtin; (refine wpList_append_own _ rfl _ _ 41 rfl w.heap.size 4 i0 (.bool false) 1 1 Try.underlying41 hi hz0 hz1 hz2 rfl (by decide) _ _ _ rfl (HO.out.alloc _) ⟨wr.heap.size, 0, none⟩ 1 1 [.bool false] rfl rfl (cell_one_new _ _ _) (fun x hx => by simp at hx; subst hx; rfl) (by unfold maxLen; omega) (by omega) (by simp; omega) ?_); intro v' w3 hown' hgrow3 hnil3))
                obtain ⟨a3, c3, rfl⟩ := form1 hown'
                have N : Hid (St t w j a3 (s - 2 + 1) c3 w3) := st_next (r := 2) HS.out HL.out (by omega) HB.out HO.out hown' hgrow3
                clear hown' hgrow3 hnil3
                go_wp2_with fail
                go_roundw
                case rel => exact ⟨j, s - 2 + 1, c3, a3, by omega, by go_num, rfl, N⟩
                case measure => simp [intOf]; try omega
            · exfalso; omega
      · go_wp2_with fail
        go_loopw [6, 7] (fun v i wr => ∃ (q s cp : Nat) (a' : Option Addr), q ≤ (k + m) ∧ i = .int .i64 ((q : Int) - 1) ∧ v = .slice a' s cp ∧ Hid (St t w q a' s cp wr)) (fun _ i _ => (intOf i + 1).toNat)
        case atStart => exact ⟨(k + m), 0, _, _, Nat.le_refl _, by go_num, rfl, S0⟩
        case round =>
          obtain ⟨q, s, cp, a', hq, rfl, rfl, hS⟩ := hrel
          clear hmk
          rcases q with _ | j
          · rw [show (((0 : Nat) : Int) - 1) = -1 from rfl]
            obtain ⟨ho, hs, hb⟩ := hS.out
            have e1 : S t.pre = [t.ev] := by
              have := S_pre t [] HT.out
              rw [List.append_nil] at this
              rw [this]; rfl
            rw [List.drop_zero, e1] at ho hs
            have hs1 : s = 1 := hs
            subst hs1
            obtain ⟨g, eg, hg, tc⟩ := cell_top ho rfl 0 (by simp)
            subst eg
            have tc' : wr.cell? ⟨g, 0, none⟩ = some (.bool t.ev) := tc
            have HB := Lib.hid hb
            have h10 : (0 : Int) < 1 := by decide
            clear ho hs hb tc hS
            go_wp2_with fail
            go_ret
            exact ⟨rfl, HB.out⟩
          · rw [show (((j + 1 : Nat) : Int) - 1) = (j : Int) by omega]
            obtain ⟨ho, hs, hb⟩ := hS.out
            have hjl : j < t.pre.length := by rw [HTL.out]; omega
            obtain ⟨har, hst⟩ := step2 t HT.out j hjl
            have haj := at_j HE.out (by rw [HZ.out]; omega) j hjl
            obtain ⟨st, est⟩ : ∃ st, st = S (t.pre.drop (j + 1)) := ⟨_, rfl⟩
            have EST := Lib.hid est
            rw [← est] at ho hs har hst
            clear est hS
            by_cases hjk : j < k
            · obtain ⟨b, off, ha, hbl, hc⟩ := R.out.at (i := j) (by omega)
              subst ha
              rw [if_pos hjk] at haj
              rw [haj] at har hst
              have hbw := bcell hb hc
              have hblw := cell_lt hbw
              obtain ⟨x, hx⟩ : ∃ x, x = z.getD j 0 := ⟨_, rfl⟩
              have hx0 : 0 ≤ x ∧ x ≤ 255 := by
                obtain ⟨q, e⟩ := elt_of R.out (by omega) hx
                rw [e]; exact bounds_u8 (R.out.2.2.2.1 _ (List.getElem_mem q))
              obtain ⟨x0, x1⟩ := hx0
              rw [← hx] at hbw har hst
              clear hx haj hc hbl
              have hk8 : x % 8 = 0 ∨ x % 8 = 1 ∨ x % 8 = 2 ∨ x % 8 = 3 ∨ x % 8 = 4 ∨ x % 8 = 5 ∨ x % 8 = 6 ∨ x % 8 = 7 := by omega
              rcases hk8 with h8 | h8 | h8 | h8 | h8 | h8 | h8 | h8
              · rw [h8] at har hst
                rw [show ar 0 = 0 from rfl] at har hst
                have hr : 0 ≤ s := by rw [hs]; exact har
                have HO := Lib.hid (own_take ho (k := s - 0) (by omega))
                rw [show (bl st).take (s - 0) = bl (st.drop 0) by rw [hs]; exact bl_take st 0 (by omega)] at HO
                have HS : Hid (S (t.pre.drop j) = false :: st.drop 0) := by
                  show _ = _
                  rw [hst]
                  have ev : val 0 st = false := by rfl
                  rw [ev]
                have HB := Lib.hid hb
                have HL := Lib.hid hs
                have hsz := hb.size
                obtain ⟨hcp, hcp2⟩ := own_cap ho
                have AR := Lib.hid fun w => (ar24 0 w (by decide)).mono fun e w' h => (⟨h.1, h.2.symm⟩ : e = .returned (.int .i64 (ar 0 : Int)) ∧ w = w')
                rw [show (ar 0 : Int) = 0 from rfl] at AR
                have bs1 : s ≤ 300000 := by rw [hs, EST.out]; have := S_len (t.pre.drop (j + 1)); rw [List.length_drop, HTL.out] at this; omega
                rw [show s - 0 = s by omega] at HO
                clear hst har hb hs ho S0
                go_wp2_with (first | (go_at_call 24; (with_reducible refine (AR.out _).mono ?_); rintro e w' ⟨rfl, rfl⟩) | (at_builtin; (refine wpList_append_own _ rfl _ _ 41 rfl w.heap.size 4 i0 (.bool false) 1 1 Try.underlying41 hi hz0 hz1 hz2 rfl (by decide) _ _ _ rfl (HO.out.alloc _) ⟨wr.heap.size, 0, none⟩ 1 1 [.bool false] rfl rfl (cell_one_new _ _ _) (fun x hx => by simp at hx; subst hx; rfl) (by unfold maxLen; omega) (by omega) (by simp; omega) ?_); intro v' w3 hown' hgrow3 hnil3))
                obtain ⟨a3, c3, rfl⟩ := form1 hown'
                have N : Hid (St t w j a3 (s + 1) c3 w3) := st_next (r := 0) (by simpa using HS.out) HL.out (by omega) HB.out HO.out (by simpa using hown') hgrow3
                clear hown' hgrow3 hnil3
                go_wp2_with fail
                go_roundw
                case rel => exact ⟨j, s + 1, c3, a3, by omega, by go_num, rfl, N⟩
                case measure => simp [intOf]; try omega
              · rw [h8] at har hst
                rw [show ar 1 = 2 from rfl] at har hst
                have hr : 2 ≤ s := by rw [hs]; exact har
                obtain ⟨g0, eg0, hg0, t0⟩ := cell_top ho hs 0 (by omega)
                obtain ⟨g1, eg1, hg1, t1⟩ := cell_top ho hs 1 (by omega)
                subst eg0
                obtain rfl : g0 = g1 := by injection eg1 with e; injection e
                obtain ⟨b0, e0⟩ : ∃ b, b = st.getD 0 false := ⟨_, rfl⟩
                rw [← e0] at t0
                rw [show s - 1 - 0 = s - 1 by omega] at t0
                obtain ⟨b1, e1⟩ : ∃ b, b = st.getD 1 false := ⟨_, rfl⟩
                rw [← e1] at t1
                rw [show s - 1 - 1 = s - 2 by omega] at t1
                have E0 := Lib.hid e0
                have E1 := Lib.hid e1
                clear e0 e1 eg1
                have HO := Lib.hid (own_take ho (k := s - 2) (by omega))
                rw [show (bl st).take (s - 2) = bl (st.drop 2) by rw [hs]; exact bl_take st 2 (by omega)] at HO
                have HS : Hid (S (t.pre.drop j) = true :: st.drop 2) := by
                  show _ = _
                  rw [hst]
                  have ev : val 1 st = true := by rfl
                  rw [ev]
                have HB := Lib.hid hb
                have HL := Lib.hid hs
                have hsz := hb.size
                obtain ⟨hcp, hcp2⟩ := own_cap ho
                have AR := Lib.hid fun w => (ar24 1 w (by decide)).mono fun e w' h => (⟨h.1, h.2.symm⟩ : e = .returned (.int .i64 (ar 1 : Int)) ∧ w = w')
                rw [show (ar 1 : Int) = 2 from rfl] at AR
                have bs1 : s ≤ 300000 := by rw [hs, EST.out]; have := S_len (t.pre.drop (j + 1)); rw [List.length_drop, HTL.out] at this; omega
                clear hst har hb hs ho S0
                go_wp2_with (first | (go_at_call 24; (with_reducible refine (AR.out _).mono ?_); rintro e w' ⟨rfl, rfl⟩) | (at_builtin; (refine wpList_append_own _ rfl _ _ 41 rfl w.heap.size 4 i0 (.bool false) 1 1 Try.underlying41 hi hz0 hz1 hz2 rfl (by decide) _ _ _ rfl (HO.out.alloc _) ⟨wr.heap.size, 0, none⟩ 1 1 [.bool true] rfl rfl (cell_one_new _ _ _) (fun x hx => by simp at hx; subst hx; rfl) (by unfold maxLen; omega) (by omega) (by simp; omega) ?_); intro v' w3 hown' hgrow3 hnil3))
                obtain ⟨a3, c3, rfl⟩ := form1 hown'
                have N : Hid (St t w j a3 (s - 2 + 1) c3 w3) := st_next (r := 2) HS.out HL.out (by omega) HB.out HO.out hown' hgrow3
                clear hown' hgrow3 hnil3
                go_wp2_with fail
                go_roundw
                case rel => exact ⟨j, s - 2 + 1, c3, a3, by omega, by go_num, rfl, N⟩
                case measure => simp [intOf]; try omega
              · rw [h8] at har hst
                rw [show ar 2 = 2 from rfl] at har hst
                have hr : 2 ≤ s := by rw [hs]; exact har
                obtain ⟨g0, eg0, hg0, t0⟩ := cell_top ho hs 0 (by omega)
                obtain ⟨g1, eg1, hg1, t1⟩ := cell_top ho hs 1 (by omega)
                subst eg0
                obtain rfl : g0 = g1 := by injection eg1 with e; injection e
                obtain ⟨b0, e0⟩ : ∃ b, b = st.getD 0 false := ⟨_, rfl⟩
                rw [← e0] at t0
                rw [show s - 1 - 0 = s - 1 by omega] at t0
                obtain ⟨b1, e1⟩ : ∃ b, b = st.getD 1 false := ⟨_, rfl⟩
                rw [← e1] at t1
                rw [show s - 1 - 1 = s - 2 by omega] at t1
                have E0 := Lib.hid e0
                have E1 := Lib.hid e1
                clear e0 e1 eg1
                have HO := Lib.hid (own_take ho (k := s - 2) (by omega))
                rw [show (bl st).take (s - 2) = bl (st.drop 2) by rw [hs]; exact bl_take st 2 (by omega)] at HO
                have HS : Hid (S (t.pre.drop j) = (b0 && b1) :: st.drop 2) := by
                  show _ = _
                  rw [hst]
                  have ev : val 2 st = (b0 && b1) := by show (if (2 : Int) = 1 then true else if (2 : Int) = 2 ∨ (2 : Int) = 3 then st.getD 0 false && st.getD 1 false else _) = _; rw [if_neg (by decide), if_pos (by decide)]; rw [E0.out, E1.out]
                  rw [ev]
                have HB := Lib.hid hb
                have HL := Lib.hid hs
                have hsz := hb.size
                obtain ⟨hcp, hcp2⟩ := own_cap ho
                have AR := Lib.hid fun w => (ar24 2 w (by decide)).mono fun e w' h => (⟨h.1, h.2.symm⟩ : e = .returned (.int .i64 (ar 2 : Int)) ∧ w = w')
                rw [show (ar 2 : Int) = 2 from rfl] at AR
                have bs1 : s ≤ 300000 := by rw [hs, EST.out]; have := S_len (t.pre.drop (j + 1)); rw [List.length_drop, HTL.out] at this; omega
                clear hst har hb hs ho S0
                cases b0 with
                | false =>
                  cases b1 with
                  | false =>
                    simp only [Bool.and_true, Bool.and_false, Bool.true_and, Bool.false_and, Bool.and_self] at HS
                    go_wp2_with (first | (go_at_call 24; (with_reducible refine (AR.out _).mono ?_); rintro e w' ⟨rfl, rfl⟩) | (at_builtin; (refine wpList_append_own _ rfl _ _ 41 rfl w.heap.size 4 i0 (.bool false) 1 1 Try.underlying41 hi hz0 hz1 hz2 rfl (by decide) _ _ _ rfl (HO.out.alloc _) ⟨wr.heap.size, 0, none⟩ 1 1 [.bool false] rfl rfl (cell_one_new _ _ _) (fun x hx => by simp at hx; subst hx; rfl) (by unfold maxLen; omega) (by omega) (by simp; omega) ?_); intro v' w3 hown' hgrow3 hnil3))
                    obtain ⟨a3, c3, rfl⟩ := form1 hown'
                    have N : Hid (St t w j a3 (s - 2 + 1) c3 w3) := st_next (r := 2) HS.out HL.out (by omega) HB.out HO.out hown' hgrow3
                    clear hown' hgrow3 hnil3
                    go_wp2_with fail
                    go_roundw
                    case rel => exact ⟨j, s - 2 + 1, c3, a3, by omega, by go_num, rfl, N⟩
                    case measure => simp [intOf]; try omega
                  | true =>
                    simp only [Bool.and_true, Bool.and_false, Bool.true_and, Bool.false_and, Bool.and_self] at HS
                    go_wp2_with (first | (go_at_call 24; (with_reducible refine (AR.out _).mono ?_); rintro e w' ⟨rfl, rfl⟩) | (at_builtin; (refine wpList_append_own _ rfl _ _ 41 rfl w.heap.size 4 i0 (.bool false) 1 1 Try.underlying41 hi hz0 hz1 hz2 rfl (by decide) _ _ _ rfl (HO.out.alloc _) ⟨wr.heap.size, 0, none⟩ 1 1 [.bool false] rfl rfl (cell_one_new _ _ _) (fun x hx => by simp at hx; subst hx; rfl) (by unfold maxLen; omega) (by omega) (by simp; omega) ?_); intro v' w3 hown' hgrow3 hnil3))
                    obtain ⟨a3, c3, rfl⟩ := form1 hown'
                    have N : Hid (St t w j a3 (s - 2 + 1) c3 w3) := st_next (r := 2) HS.out HL.out (by omega) HB.out HO.out hown' hgrow3
                    clear hown' hgrow3 hnil3
                    go_wp2_with fail
                    go_roundw
                    case rel => exact ⟨j, s - 2 + 1, c3, a3, by omega, by go_num, rfl, N⟩
                    case measure => simp [intOf]; try omega
                | true =>
                  cases b1 with
                  | false =>
                    simp only [Bool.and_true, Bool.and_false, Bool.true_and, Bool.false_and, Bool.and_self] at HS
                    go_wp2_with (first | (go_at_call 24; (with_reducible refine (AR.out _).mono ?_); rintro e w' ⟨rfl, rfl⟩) | (at_builtin; (refine wpList_append_own _ rfl _ _ 41 rfl w.heap.size 4 i0 (.bool false) 1 1 Try.underlying41 hi hz0 hz1 hz2 rfl (by decide) _ _ _ rfl (HO.out.alloc _) ⟨wr.heap.size, 0, none⟩ 1 1 [.bool false] rfl rfl (cell_one_new _ _ _) (fun x hx => by simp at hx; subst hx; rfl) (by unfold maxLen; omega) (by omega) (by simp; omega) ?_); intro v' w3 hown' hgrow3 hnil3))
                    obtain ⟨a3, c3, rfl⟩ := form1 hown'
                    have N : Hid (St t w j a3 (s - 2 + 1) c3 w3) := st_next (r := 2) HS.out HL.out (by omega) HB.out HO.out hown' hgrow3
                    clear hown' hgrow3 hnil3
                    go_wp2_with fail
                    go_roundw
                    case rel => exact ⟨j, s - 2 + 1, c3, a3, by omega, by go_num, rfl, N⟩
                    case measure => simp [intOf]; try omega
                  | true =>
                    simp only [Bool.and_true, Bool.and_false, Bool.true_and, Bool.false_and, Bool.and_self] at HS
                    go_wp2_with (first | (go_at_call 24; (with_reducible refine (AR.out _).mono ?_); rintro e w' ⟨rfl, rfl⟩) | (at_builtin; (refine wpList_append_own _ rfl _ _ 41 rfl w.heap.size 4 i0 (.bool false) 1 1 Try.underlying41 hi hz0 hz1 hz2 rfl (by decide) _ _ _ rfl (HO.out.alloc _) ⟨wr.heap.size, 0, none⟩ 1 1 [.bool true] rfl rfl (cell_one_new _ _ _) (fun x hx => by simp at hx; subst hx; rfl) (by unfold maxLen; omega) (by omega) (by simp; omega) ?_); intro v' w3 hown' hgrow3 hnil3))
                    obtain ⟨a3, c3, rfl⟩ := form1 hown'
                    have N : Hid (St t w j a3 (s - 2 + 1) c3 w3) := st_next (r := 2) HS.out HL.out (by omega) HB.out HO.out hown' hgrow3
                    clear hown' hgrow3 hnil3
                    go_wp2_with fail
                    go_roundw
                    case rel => exact ⟨j, s - 2 + 1, c3, a3, by omega, by go_num, rfl, N⟩
                    case measure => simp [intOf]; try omega
              · rw [h8] at har hst
                rw [show ar 3 = 2 from rfl] at har hst
                have hr : 2 ≤ s := by rw [hs]; exact har
                obtain ⟨g0, eg0, hg0, t0⟩ := cell_top ho hs 0 (by omega)
                obtain ⟨g1, eg1, hg1, t1⟩ := cell_top ho hs 1 (by omega)
                subst eg0
                obtain rfl : g0 = g1 := by injection eg1 with e; injection e
                obtain ⟨b0, e0⟩ : ∃ b, b = st.getD 0 false := ⟨_, rfl⟩
                rw [← e0] at t0
                rw [show s - 1 - 0 = s - 1 by omega] at t0
                obtain ⟨b1, e1⟩ : ∃ b, b = st.getD 1 false := ⟨_, rfl⟩
                rw [← e1] at t1
                rw [show s - 1 - 1 = s - 2 by omega] at t1
                have E0 := Lib.hid e0
                have E1 := Lib.hid e1
                clear e0 e1 eg1
                have HO := Lib.hid (own_take ho (k := s - 2) (by omega))
                rw [show (bl st).take (s - 2) = bl (st.drop 2) by rw [hs]; exact bl_take st 2 (by omega)] at HO
                have HS : Hid (S (t.pre.drop j) = (b0 && b1) :: st.drop 2) := by
                  show _ = _
                  rw [hst]
                  have ev : val 3 st = (b0 && b1) := by show (if (3 : Int) = 1 then true else if (3 : Int) = 2 ∨ (3 : Int) = 3 then st.getD 0 false && st.getD 1 false else _) = _; rw [if_neg (by decide), if_pos (by decide)]; rw [E0.out, E1.out]
                  rw [ev]
                have HB := Lib.hid hb
                have HL := Lib.hid hs
                have hsz := hb.size
                obtain ⟨hcp, hcp2⟩ := own_cap ho
                have AR := Lib.hid fun w => (ar24 3 w (by decide)).mono fun e w' h => (⟨h.1, h.2.symm⟩ : e = .returned (.int .i64 (ar 3 : Int)) ∧ w = w')
                rw [show (ar 3 : Int) = 2 from rfl] at AR
                have bs1 : s ≤ 300000 := by rw [hs, EST.out]; have := S_len (t.pre.drop (j + 1)); rw [List.length_drop, HTL.out] at this; omega
                clear hst har hb hs ho S0
                cases b0 with
                | false =>
                  cases b1 with
                  | false =>
                    simp only [Bool.and_true, Bool.and_false, Bool.true_and, Bool.false_and, Bool.and_self] at HS
                    go_wp2_with (first | (go_at_call 24; (with_reducible refine (AR.out _).mono ?_); rintro e w' ⟨rfl, rfl⟩) | (at_builtin; (refine wpList_append_own _ rfl _ _ 41 rfl w.heap.size 4 i0 (.bool false) 1 1 Try.underlying41 hi hz0 hz1 hz2 rfl (by decide) _ _ _ rfl (HO.out.alloc _) ⟨wr.heap.size, 0, none⟩ 1 1 [.bool false] rfl rfl (cell_one_new _ _ _) (fun x hx => by simp at hx; subst hx; rfl) (by unfold maxLen; omega) (by omega) (by simp; omega) ?_); intro v' w3 hown' hgrow3 hnil3))
                    obtain ⟨a3, c3, rfl⟩ := form1 hown'
                    have N : Hid (St t w j a3 (s - 2 + 1) c3 w3) := st_next (r := 2) HS.out HL.out (by omega) HB.out HO.out hown' hgrow3
                    clear hown' hgrow3 hnil3
                    go_wp2_with fail
                    go_roundw
                    case rel => exact ⟨j, s - 2 + 1, c3, a3, by omega, by go_num, rfl, N⟩
                    case measure => simp [intOf]; try omega
                  | true =>
                    simp only [Bool.and_true, Bool.and_false, Bool.true_and, Bool.false_and, Bool.and_self] at HS
                    go_wp2_with (first | (go_at_call 24; (with_reducible refine (AR.out _).mono ?_); rintro e w' ⟨rfl, rfl⟩) | (at_builtin; (refine wpList_append_own _ rfl _ _ 41 rfl w.heap.size 4 i0 (.bool false) 1 1 Try.underlying41 hi hz0 hz1 hz2 rfl (by decide) _ _ _ rfl (HO.out.alloc _) ⟨wr.heap.size, 0, none⟩ 1 1 [.bool false] rfl rfl (cell_one_new _ _ _) (fun x hx => by simp at hx; subst hx; rfl) (by unfold maxLen; omega) (by omega) (by simp; omega) ?_); intro v' w3 hown' hgrow3 hnil3))
                    obtain ⟨a3, c3, rfl⟩ := form1 hown'
                    have N : Hid (St t w j a3 (s - 2 + 1) c3 w3) := st_next (r := 2) HS.out HL.out (by omega) HB.out HO.out hown' hgrow3
                    clear hown' hgrow3 hnil3
                    go_wp2_with fail
                    go_roundw
                    case rel => exact ⟨j, s - 2 + 1, c3, a3, by omega, by go_num, rfl, N⟩
                    case measure => simp [intOf]; try omega
                | true =>
                  cases b1 with
                  | false =>
                    simp only [Bool.and_true, Bool.and_false, Bool.true_and, Bool.false_and, Bool.and_self] at HS
                    go_wp2_with (first | (go_at_call 24; (with_reducible refine (AR.out _).mono ?_); rintro e w' ⟨rfl, rfl⟩) | (at_builtin; (refine wpList_append_own _ rfl _ _ 41 rfl w.heap.size 4 i0 (.bool false) 1 1 Try.underlying41 hi hz0 hz1 hz2 rfl (by decide) _ _ _ rfl (HO.out.alloc _) ⟨wr.heap.size, 0, none⟩ 1 1 [.bool false] rfl rfl (cell_one_new _ _ _) (fun x hx => by simp at hx; subst hx; rfl) (by unfold maxLen; omega) (by omega) (by simp; omega) ?_); intro v' w3 hown' hgrow3 hnil3))
                    obtain ⟨a3, c3, rfl⟩ := form1 hown'
                    have N : Hid (St t w j a3 (s - 2 + 1) c3 w3) := st_next (r := 2) HS.out HL.out (by omega) HB.out HO.out hown' hgrow3
                    clear hown' hgrow3 hnil3
                    go_wp2_with fail
                    go_roundw
                    case rel => exact ⟨j, s - 2 + 1, c3, a3, by omega, by go_num, rfl, N⟩
                    case measure => simp [intOf]; try omega
                  | true =>
                    simp only [Bool.and_true, Bool.and_false, Bool.true_and, Bool.false_and, Bool.and_self] at HS
                    go_wp2_with (first | (go_at_call 24; (with_reducible refine (AR.out _).mono ?_); rintro e w' ⟨rfl, rfl⟩) | (at_builtin; (refine wpList_append_own _ rfl _ _ 41 rfl w.heap.size 4 i0 (.bool false) 1 1 Try.underlying41 hi hz0 hz1 hz2 rfl (by decide) _ _ _ rfl (HO.out.alloc _) ⟨wr.heap.size, 0, none⟩ 1 1 [.bool true] rfl rfl (cell_one_new _ _ _) (fun x hx => by simp at hx; subst hx; rfl) (by unfold maxLen; omega) (by omega) (by simp; omega) ?_); intro v' w3 hown' hgrow3 hnil3))
                    obtain ⟨a3, c3, rfl⟩ := form1 hown'
                    have N : Hid (St t w j a3 (s - 2 + 1) c3 w3) := st_next (r := 2) HS.out HL.out (by omega) HB.out HO.out hown' hgrow3
                    clear hown' hgrow3 hnil3
                    go_wp2_with fail
                    go_roundw
                    case rel => exact ⟨j, s - 2 + 1, c3, a3, by omega, by go_num, rfl, N⟩
                    case measure => simp [intOf]; try omega
              · rw [h8] at har hst
                rw [show ar 4 = 3 from rfl] at har hst
                have hr : 3 ≤ s := by rw [hs]; exact har
                obtain ⟨g0, eg0, hg0, t0⟩ := cell_top ho hs 0 (by omega)
                obtain ⟨g1, eg1, hg1, t1⟩ := cell_top ho hs 1 (by omega)
                obtain ⟨g2, eg2, hg2, t2⟩ := cell_top ho hs 2 (by omega)
                subst eg0
                obtain rfl : g0 = g1 := by injection eg1 with e; injection e
                obtain rfl : g0 = g2 := by injection eg2 with e; injection e
                obtain ⟨b0, e0⟩ : ∃ b, b = st.getD 0 false := ⟨_, rfl⟩
                rw [← e0] at t0
                rw [show s - 1 - 0 = s - 1 by omega] at t0
                obtain ⟨b1, e1⟩ : ∃ b, b = st.getD 1 false := ⟨_, rfl⟩
                rw [← e1] at t1
                rw [show s - 1 - 1 = s - 2 by omega] at t1
                obtain ⟨b2, e2⟩ : ∃ b, b = st.getD 2 false := ⟨_, rfl⟩
                rw [← e2] at t2
                rw [show s - 1 - 2 = s - 3 by omega] at t2
                have E0 := Lib.hid e0
                have E1 := Lib.hid e1
                have E2 := Lib.hid e2
                clear e0 e1 e2 eg1 eg2
                have HO := Lib.hid (own_take ho (k := s - 3) (by omega))
                rw [show (bl st).take (s - 3) = bl (st.drop 3) by rw [hs]; exact bl_take st 3 (by omega)] at HO
                have HS : Hid (S (t.pre.drop j) = (b1 && b2) :: st.drop 3) := by
                  show _ = _
                  rw [hst]
                  have ev : val 4 st = (b1 && b2) := by show (if (4 : Int) = 1 then true else if (4 : Int) = 2 ∨ (4 : Int) = 3 then _ else if (4 : Int) = 4 then st.getD 1 false && st.getD 2 false else false) = _; rw [if_neg (by decide), if_neg (by decide), if_pos rfl]; rw [E1.out, E2.out]
                  rw [ev]
                have HB := Lib.hid hb
                have HL := Lib.hid hs
                have hsz := hb.size
                obtain ⟨hcp, hcp2⟩ := own_cap ho
                have AR := Lib.hid fun w => (ar24 4 w (by decide)).mono fun e w' h => (⟨h.1, h.2.symm⟩ : e = .returned (.int .i64 (ar 4 : Int)) ∧ w = w')
                rw [show (ar 4 : Int) = 3 from rfl] at AR
                have bs1 : s ≤ 300000 := by rw [hs, EST.out]; have := S_len (t.pre.drop (j + 1)); rw [List.length_drop, HTL.out] at this; omega
                clear hst har hb hs ho S0
                cases b1 with
                | false =>
                  cases b2 with
                  | false =>
                    simp only [Bool.and_true, Bool.and_false, Bool.true_and, Bool.false_and, Bool.and_self] at HS
                    go_wp2_with (first | (go_at_call 24; (with_reducible refine (AR.out _).mono ?_); rintro e w' ⟨rfl, rfl⟩) | (at_builtin; (refine wpList_append_own _ rfl _ _ 41 rfl w.heap.size 4 i0 (.bool false) 1 1 Try.underlying41 hi hz0 hz1 hz2 rfl (by decide) _ _ _ rfl (HO.out.alloc _) ⟨wr.heap.size, 0, none⟩ 1 1 [.bool false] rfl rfl (cell_one_new _ _ _) (fun x hx => by simp at hx; subst hx; rfl) (by unfold maxLen; omega) (by omega) (by simp; omega) ?_); intro v' w3 hown' hgrow3 hnil3))
                    obtain ⟨a3, c3, rfl⟩ := form1 hown'
                    have N : Hid (St t w j a3 (s - 3 + 1) c3 w3) := st_next (r := 3) HS.out HL.out (by omega) HB.out HO.out hown' hgrow3
                    clear hown' hgrow3 hnil3
                    go_wp2_with fail
                    go_roundw
                    case rel => exact ⟨j, s - 3 + 1, c3, a3, by omega, by go_num, rfl, N⟩
                    case measure => simp [intOf]; try omega
                  | true =>
                    simp only [Bool.and_true, Bool.and_false, Bool.true_and, Bool.false_and, Bool.and_self] at HS
                    go_wp2_with (first | (go_at_call 24; (with_reducible refine (AR.out _).mono ?_); rintro e w' ⟨rfl, rfl⟩) | (at_builtin; (refine wpList_append_own _ rfl _ _ 41 rfl w.heap.size 4 i0 (.bool false) 1 1 Try.underlying41 hi hz0 hz1 hz2 rfl (by decide) _ _ _ rfl (HO.out.alloc _) ⟨wr.heap.size, 0, none⟩ 1 1 [.bool false] rfl rfl (cell_one_new _ _ _) (fun x hx => by simp at hx; subst hx; rfl) (by unfold maxLen; omega) (by omega) (by simp; omega) ?_); intro v' w3 hown' hgrow3 hnil3))
                    obtain ⟨a3, c3, rfl⟩ := form1 hown'
                    have N : Hid (St t w j a3 (s - 3 + 1) c3 w3) := st_next (r := 3) HS.out HL.out (by omega) HB.out HO.out hown' hgrow3
                    clear hown' hgrow3 hnil3
                    go_wp2_with fail
                    go_roundw
                    case rel => exact ⟨j, s - 3 + 1, c3, a3, by omega, by go_num, rfl, N⟩
                    case measure => simp [intOf]; try omega
                | true =>
                  cases b2 with
                  | false =>
                    simp only [Bool.and_true, Bool.and_false, Bool.true_and, Bool.false_and, Bool.and_self] at HS
                    go_wp2_with (first | (go_at_call 24; (with_reducible refine (AR.out _).mono ?_); rintro e w' ⟨rfl, rfl⟩) | (at_builtin; (refine wpList_append_own _ rfl _ _ 41 rfl w.heap.size 4 i0 (.bool false) 1 1 Try.underlying41 hi hz0 hz1 hz2 rfl (by decide) _ _ _ rfl (HO.out.alloc _) ⟨wr.heap.size, 0, none⟩ 1 1 [.bool false] rfl rfl (cell_one_new _ _ _) (fun x hx => by simp at hx; subst hx; rfl) (by unfold maxLen; omega) (by omega) (by simp; omega) ?_); intro v' w3 hown' hgrow3 hnil3))
                    obtain ⟨a3, c3, rfl⟩ := form1 hown'
                    have N : Hid (St t w j a3 (s - 3 + 1) c3 w3) := st_next (r := 3) HS.out HL.out (by omega) HB.out HO.out hown' hgrow3
                    clear hown' hgrow3 hnil3
                    go_wp2_with fail
                    go_roundw
                    case rel => exact ⟨j, s - 3 + 1, c3, a3, by omega, by go_num, rfl, N⟩
                    case measure => simp [intOf]; try omega
                  | true =>
                    simp only [Bool.and_true, Bool.and_false, Bool.true_and, Bool.false_and, Bool.and_self] at HS
                    go_wp2_with (first | (go_at_call 24; (with_reducible refine (AR.out _).mono ?_); rintro e w' ⟨rfl, rfl⟩) | (at_builtin; (refine wpList_append_own _ rfl _ _ 41 rfl w.heap.size 4 i0 (.bool false) 1 1 Try.underlying41 hi hz0 hz1 hz2 rfl (by decide) _ _ _ rfl (HO.out.alloc _) ⟨wr.heap.size, 0, none⟩ 1 1 [.bool true] rfl rfl (cell_one_new _ _ _) (fun x hx => by simp at hx; subst hx; rfl) (by unfold maxLen; omega) (by omega) (by simp; omega) ?_); intro v' w3 hown' hgrow3 hnil3))
                    obtain ⟨a3, c3, rfl⟩ := form1 hown'
                    have N : Hid (St t w j a3 (s - 3 + 1) c3 w3) := st_next (r := 3) HS.out HL.out (by omega) HB.out HO.out hown' hgrow3
                    clear hown' hgrow3 hnil3
                    go_wp2_with fail
                    go_roundw
                    case rel => exact ⟨j, s - 3 + 1, c3, a3, by omega, by go_num, rfl, N⟩
                    case measure => simp [intOf]; try omega
              · rw [h8] at har hst
                rw [show ar 5 = 2 from rfl] at har hst
                have hr : 2 ≤ s := by rw [hs]; exact har
                obtain ⟨g0, eg0, hg0, t0⟩ := cell_top ho hs 0 (by omega)
                obtain ⟨g1, eg1, hg1, t1⟩ := cell_top ho hs 1 (by omega)
                subst eg0
                obtain rfl : g0 = g1 := by injection eg1 with e; injection e
                obtain ⟨b0, e0⟩ : ∃ b, b = st.getD 0 false := ⟨_, rfl⟩
                rw [← e0] at t0
                rw [show s - 1 - 0 = s - 1 by omega] at t0
                obtain ⟨b1, e1⟩ : ∃ b, b = st.getD 1 false := ⟨_, rfl⟩
                rw [← e1] at t1
                rw [show s - 1 - 1 = s - 2 by omega] at t1
                have E0 := Lib.hid e0
                have E1 := Lib.hid e1
                clear e0 e1 eg1
                have HO := Lib.hid (own_take ho (k := s - 2) (by omega))
                rw [show (bl st).take (s - 2) = bl (st.drop 2) by rw [hs]; exact bl_take st 2 (by omega)] at HO
                have HS : Hid (S (t.pre.drop j) = false :: st.drop 2) := by
                  show _ = _
                  rw [hst]
                  have ev : val 5 st = false := by rfl
                  rw [ev]
                have HB := Lib.hid hb
                have HL := Lib.hid hs
                have hsz := hb.size
                obtain ⟨hcp, hcp2⟩ := own_cap ho
                have AR := Lib.hid fun w => (ar24 5 w (by decide)).mono fun e w' h => (⟨h.1, h.2.symm⟩ : e = .returned (.int .i64 (ar 5 : Int)) ∧ w = w')
                rw [show (ar 5 : Int) = 2 from rfl] at AR
                have bs1 : s ≤ 300000 := by rw [hs, EST.out]; have := S_len (t.pre.drop (j + 1)); rw [List.length_drop, HTL.out] at this; omega
                clear hst har hb hs ho S0
                go_wp2_with (first | (go_at_call 24; (with_reducible refine (AR.out _).mono ?_); rintro e w' ⟨rfl, rfl⟩) | (at_builtin; (refine wpList_append_own _ rfl _ _ 41 rfl w.heap.size 4 i0 (.bool false) 1 1 Try.underlying41 hi hz0 hz1 hz2 rfl (by decide) _ _ _ rfl (HO.out.alloc _) ⟨wr.heap.size, 0, none⟩ 1 1 [.bool false] rfl rfl (cell_one_new _ _ _) (fun x hx => by simp at hx; subst hx; rfl) (by unfold maxLen; omega) (by omega) (by simp; omega) ?_); intro v' w3 hown' hgrow3 hnil3))
                obtain ⟨a3, c3, rfl⟩ := form1 hown'
                have N : Hid (St t w j a3 (s - 2 + 1) c3 w3) := st_next (r := 2) HS.out HL.out (by omega) HB.out HO.out hown' hgrow3
                clear hown' hgrow3 hnil3
                go_wp2_with fail
                go_roundw
                case rel => exact ⟨j, s - 2 + 1, c3, a3, by omega, by go_num, rfl, N⟩
                case measure => simp [intOf]; try omega
              · rw [h8] at har hst
                rw [show ar 6 = 1 from rfl] at har hst
                have hr : 1 ≤ s := by rw [hs]; exact har
                obtain ⟨g0, eg0, hg0, t0⟩ := cell_top ho hs 0 (by omega)
                subst eg0
                obtain ⟨b0, e0⟩ : ∃ b, b = st.getD 0 false := ⟨_, rfl⟩
                rw [← e0] at t0
                rw [show s - 1 - 0 = s - 1 by omega] at t0
                have E0 := Lib.hid e0
                clear e0
                have HO := Lib.hid (own_take ho (k := s - 1) (by omega))
                rw [show (bl st).take (s - 1) = bl (st.drop 1) by rw [hs]; exact bl_take st 1 (by omega)] at HO
                have HS : Hid (S (t.pre.drop j) = false :: st.drop 1) := by
                  show _ = _
                  rw [hst]
                  have ev : val 6 st = false := by rfl
                  rw [ev]
                have HB := Lib.hid hb
                have HL := Lib.hid hs
                have hsz := hb.size
                obtain ⟨hcp, hcp2⟩ := own_cap ho
                have AR := Lib.hid fun w => (ar24 6 w (by decide)).mono fun e w' h => (⟨h.1, h.2.symm⟩ : e = .returned (.int .i64 (ar 6 : Int)) ∧ w = w')
                rw [show (ar 6 : Int) = 1 from rfl] at AR
                have bs1 : s ≤ 300000 := by rw [hs, EST.out]; have := S_len (t.pre.drop (j + 1)); rw [List.length_drop, HTL.out] at this; omega
                clear hst har hb hs ho S0
                go_wp2_with (first | (go_at_call 24; (with_reducible refine (AR.out _).mono ?_); rintro e w' ⟨rfl, rfl⟩) | (at_builtin; (refine wpList_append_own _ rfl _ _ 41 rfl w.heap.size 4 i0 (.bool false) 1 1 Try.underlying41 hi hz0 hz1 hz2 rfl (by decide) _ _ _ rfl (HO.out.alloc _) ⟨wr.heap.size, 0, none⟩ 1 1 [.bool false] rfl rfl (cell_one_new _ _ _) (fun x hx => by simp at hx; subst hx; rfl) (by unfold maxLen; omega) (by omega) (by simp; omega) ?_); intro v' w3 hown' hgrow3 hnil3))
                obtain ⟨a3, c3, rfl⟩ := form1 hown'
                have N : Hid (St t w j a3 (s - 1 + 1) c3 w3) := st_next (r := 1) HS.out HL.out (by omega) HB.out HO.out hown' hgrow3
                clear hown' hgrow3 hnil3
                go_wp2_with fail
                go_roundw
                case rel => exact ⟨j, s - 1 + 1, c3, a3, by omega, by go_num, rfl, N⟩
                case measure => simp [intOf]; try omega
              · rw [h8] at har hst
                rw [show ar 7 = 2 from rfl] at har hst
                have hr : 2 ≤ s := by rw [hs]; exact har
                obtain ⟨g0, eg0, hg0, t0⟩ := cell_top ho hs 0 (by omega)
                obtain ⟨g1, eg1, hg1, t1⟩ := cell_top ho hs 1 (by omega)
                subst eg0
                obtain rfl : g0 = g1 := by injection eg1 with e; injection e
                obtain ⟨b0, e0⟩ : ∃ b, b = st.getD 0 false := ⟨_, rfl⟩
                rw [← e0] at t0
                rw [show s - 1 - 0 = s - 1 by omega] at t0
                obtain ⟨b1, e1⟩ : ∃ b, b = st.getD 1 false := ⟨_, rfl⟩
                rw [← e1] at t1
                rw [show s - 1 - 1 = s - 2 by omega] at t1
                have E0 := Lib.hid e0
                have E1 := Lib.hid e1
                clear e0 e1 eg1
                have HO := Lib.hid (own_take ho (k := s - 2) (by omega))
                rw [show (bl st).take (s - 2) = bl (st.drop 2) by rw [hs]; exact bl_take st 2 (by omega)] at HO
                have HS : Hid (S (t.pre.drop j) = false :: st.drop 2) := by
                  show _ = _
                  rw [hst]
                  have ev : val 7 st = false := by rfl
                  rw [ev]
                have HB := Lib.hid hb
                have HL := Lib.hid hs
                have hsz := hb.size
                obtain ⟨hcp, hcp2⟩ := own_cap ho
                have AR := Lib.hid fun w => (ar24 7 w (by decide)).mono fun e w' h => (⟨h.1, h.2.symm⟩ : e = .returned (.int .i64 (ar 7 : Int)) ∧ w = w')
                rw [show (ar 7 : Int) = 2 from rfl] at AR
                have bs1 : s ≤ 300000 := by rw [hs, EST.out]; have := S_len (t.pre.drop (j + 1)); rw [List.length_drop, HTL.out] at this; omega
                clear hst har hb hs ho S0
                go_wp2_with (first | (go_at_call 24; (with_reducible refine (AR.out _).mono ?_); rintro e w' ⟨rfl, rfl⟩) | (at_builtin; (refine wpList_append_own _ rfl _ _ 41 rfl w.heap.size 4 i0 (.bool false) 1 1 Try.underlying41 hi hz0 hz1 hz2 rfl (by decide) _ _ _ rfl (HO.out.alloc _) ⟨wr.heap.size, 0, none⟩ 1 1 [.bool false] rfl rfl (cell_one_new _ _ _) (fun x hx => by simp at hx; subst hx; rfl) (by unfold maxLen; omega) (by omega) (by simp; omega) ?_); intro v' w3 hown' hgrow3 hnil3))
                obtain ⟨a3, c3, rfl⟩ := form1 hown'
                have N : Hid (St t w j a3 (s - 2 + 1) c3 w3) := st_next (r := 2) HS.out HL.out (by omega) HB.out HO.out hown' hgrow3
                clear hown' hgrow3 hnil3
                go_wp2_with fail
                go_roundw
                case rel => exact ⟨j, s - 2 + 1, c3, a3, by omega, by go_num, rfl, N⟩
                case measure => simp [intOf]; try omega
            · rw [if_neg hjk] at haj
              rw [haj] at har hst
              rw [show ar 0 = 0 from rfl] at har hst
              clear haj
              have hr : 0 ≤ s := by rw [hs]; exact har
              have HO := Lib.hid (own_take ho (k := s - 0) (by omega))
              rw [show (bl st).take (s - 0) = bl (st.drop 0) by rw [hs]; exact bl_take st 0 (by omega)] at HO
              have HS : Hid (S (t.pre.drop j) = false :: st.drop 0) := by
                show _ = _
                rw [hst]
                have ev : val 0 st = false := by rfl
                rw [ev]
              have HB := Lib.hid hb
              have HL := Lib.hid hs
              have hsz := hb.size
              obtain ⟨hcp, hcp2⟩ := own_cap ho
              have AR := Lib.hid fun w => (ar24 0 w (by decide)).mono fun e w' h => (⟨h.1, h.2.symm⟩ : e = .returned (.int .i64 (ar 0 : Int)) ∧ w = w')
              rw [show (ar 0 : Int) = 0 from rfl] at AR
              have bs1 : s ≤ 300000 := by rw [hs, EST.out]; have := S_len (t.pre.drop (j + 1)); rw [List.length_drop, HTL.out] at this; omega
              rw [show s - 0 = s by omega] at HO
              clear hst har hb hs ho S0
              go_wp2_with (first | (go_at_call 24; (with_reducible refine (AR.out _).mono ?_); rintro e w' ⟨rfl, rfl⟩) | (at_builtin; (refine wpList_append_own _ rfl _ _ 41 rfl w.heap.size 4 i0 (.bool false) 1 1 Try.underlying41 hi hz0 hz1 hz2 rfl (by decide) _ _ _ rfl (HO.out.alloc _) ⟨wr.heap.size, 0, none⟩ 1 1 [.bool false] rfl rfl (cell_one_new _ _ _) (fun x hx => by simp at hx; subst hx; rfl) (by unfold maxLen; omega) (by omega) (by simp; omega) ?_); intro v' w3 hown' hgrow3 hnil3))
              obtain ⟨a3, c3, rfl⟩ := form1 hown'
              have N : Hid (St t w j a3 (s + 1) c3 w3) := st_next (r := 0) (by simpa using HS.out) HL.out (by omega) HB.out HO.out (by simpa using hown') hgrow3
              clear hown' hgrow3 hnil3
              go_wp2_with fail
              go_roundw
              case rel => exact ⟨j, s + 1, c3, a3, by omega, by go_num, rfl, N⟩
              case measure => simp [intOf]; try omega
end Go.Proofs.YtpgkbpgfiblboaaR.i32
