/- The contract of the split-and-join model. No conditions beyond the hypotheses. -/
import Derived.Test.YtifngbfkcpfagaaDoorGenE
import Derived.Deep.DeepCutAuto
import Derived.Deep.CutBlock
namespace Go.Proofs.YtifngbfkcpfagaaDoor.gen
open Go.ChangeShapes Go.WideShapes Go.ChangeAt Go.RowKit Go.Mine
set_option linter.unusedVariables false
set_option maxRecDepth 100000

theorem add0 (g i : Nat) : (⟨g, 0, none⟩ : Addr).add i = ⟨g, i, none⟩ := by unfold Addr.add; split <;> simp_all
theorem st_skip0 {s : ByteArray} {k : Nat} (h : st s k = ([], false)) (hb : isL (by8 s k) = false) : st s (k + 1) = ([], false) := by
  show stp (st s k) (by8 s k) = _
  rw [h]
  simp [stp, hb]
theorem st_skip {s : ByteArray} {k : Nat} {l : List Int} {g : Bool} (h : st s k = (l, g)) (hl : l ≠ []) (hb : alB (by8 s k) = false) : st s (k + 1) = (l, true) := by
  show stp (st s k) (by8 s k) = _
  rw [h]
  unfold alB at hb
  rw [Bool.or_eq_false_iff] at hb
  have e3 : l.isEmpty = false := by cases l <;> simp at hl ⊢
  simp [stp, hb.1, hb.2, e3]
theorem st_app0 {s : ByteArray} {k : Nat} (h : st s k = ([], false)) (hb : isL (by8 s k) = true) : st s (k + 1) = ([by8 s k], false) := by
  show stp (st s k) (by8 s k) = _
  rw [h]
  simp [stp, hb]
theorem st_app {s : ByteArray} {k : Nat} {l : List Int} {g : Bool} (h : st s k = (l, g)) (hl : l ≠ []) (hb : alB (by8 s k) = true) : st s (k + 1) = ((if g then l ++ [95] else l) ++ [by8 s k], false) := by
  show stp (st s k) (by8 s k) = _
  rw [h]
  have e3 : l.isEmpty = false := by cases l <;> simp at hl ⊢
  unfold alB at hb
  unfold stp
  dsimp only
  rw [if_pos (by rw [e3, Bool.not_false, Bool.true_and]; exact hb)]
/-- At the head of the outer loop. -/
def Hd (s : ByteArray) (k : Nat) (l : List Int) : Prop := (l = [] ∧ k < s.size ∧ isL (by8 s k) = true ∧ st s k = ([], false)) ∨ (l ≠ [] ∧ st s k = (l, false) ∧ (k < s.size → alB (by8 s k) = false))
/-- Behind x bytes, from k on. -/
def Sk (s : ByteArray) (k x : Nat) (l : List Int) : Prop := (l = [] ∧ x = k ∧ k < s.size ∧ isL (by8 s k) = true ∧ st s k = ([], false)) ∨ (l ≠ [] ∧ ((x = k ∧ st s x = (l, false) ∧ (k < s.size → alB (by8 s k) = false)) ∨ (k < x ∧ st s x = (l, true))))
/-- What stands ahead of the bytes that are joined on. -/
def Rd (s : ByteArray) (y z : Nat) (l : List Int) : Prop := (z < y → st s (z + 1) = (l ++ [by8 s z], false)) ∧ (z = y → st s y = (l, false) ∧ l ≠ [])
theorem hd_sk {s : ByteArray} {k : Nat} {l : List Int} (h : Hd s k l) : Sk s k k l := by
  rcases h with ⟨h1, h2, h3, h4⟩ | ⟨h1, h2, h3⟩
  · exact .inl ⟨h1, rfl, h2, h3, h4⟩
  · exact .inr ⟨h1, .inl ⟨rfl, h2, h3⟩⟩
theorem isL_al {c : Int} (h : isL c = true) : alB c = true := by unfold alB; rw [h]; rfl
theorem sk_next {s : ByteArray} {k x : Nat} {l : List Int} (h : Sk s k x l) (hkx : k ≤ x) (hb : alB (by8 s x) = false) : Sk s k (x + 1) l := by
  rcases h with ⟨h1, rfl, h3, h4, h5⟩ | ⟨h1, h2⟩
  · rw [isL_al h4] at hb; cases hb
  · refine .inr ⟨h1, .inr ⟨by omega, ?_⟩⟩
    rcases h2 with ⟨rfl, h2, _⟩ | ⟨_, h2⟩
    · exact st_skip h2 h1 hb
    · exact st_skip h2 h1 hb
theorem sk_end {s : ByteArray} {k x : Nat} {l : List Int} (h : Sk s k x l) (hx : x = s.size) : l ≠ [] ∧ (st s s.size).1 = l := by
  subst hx
  rcases h with ⟨h1, h2, h3, _⟩ | ⟨h1, h2⟩
  · omega
  · rcases h2 with ⟨_, h2, _⟩ | ⟨_, h2⟩
    · exact ⟨h1, by rw [h2]⟩
    · exact ⟨h1, by rw [h2]⟩
theorem sk_rd {s : ByteArray} {k x y : Nat} {l : List Int} (h : Sk s k x l) (hx : x < s.size) (hb : alB (by8 s x) = true) (hy : x < y) : Rd s y x (if l = [] then l else l ++ [95]) := by
  refine ⟨fun _ => ?_, fun e => by omega⟩
  rcases h with ⟨rfl, rfl, h3, h4, h5⟩ | ⟨h1, h2⟩
  · rw [if_pos rfl]
    exact st_app0 h5 h4
  · rw [if_neg h1]
    rcases h2 with ⟨rfl, h2, h3⟩ | ⟨_, h2⟩
    · rw [h3 hx] at hb; cases hb
    · have := st_app h2 h1 hb
      simpa using this
theorem rd_next {s : ByteArray} {x y z : Nat} {l : List Int} (h : Rd s y z l) (hz : z < y) (hxz : x ≤ z) (ha : ∀ j, x ≤ j → j < y → alB (by8 s j) = true) : Rd s y (z + 1) (l ++ [by8 s z]) := by
  have h1 := h.1 hz
  refine ⟨fun h2 => ?_, fun e => ⟨by rw [← e]; exact h1, by simp⟩⟩
  have := st_app h1 (by simp) (ha (z + 1) (by omega) h2)
  simpa using this
theorem rd_hd {s : ByteArray} {y : Nat} {l : List Int} (h : Rd s y y l) (hy : y < s.size → alB (by8 s y) = false) : Hd s y l := .inr ⟨(h.2 rfl).2, (h.2 rfl).1, hy⟩
theorem app_keep2 {w W w1 : World} {n : Nat} {v : Value} {xs : List Value} {o : Obj} (hb : Below w.heap.size w W) (ho : W.ownsRow w.heap.size 5 1 v n xs) (hg : (W.alloc o).grownBy w1 v.ownBlock) : Below w.heap.size w w1 :=
  Below.grown (hb.alloc hb.size o) hg (by have := hb.size; simp; omega) (fun k hk => (ho.lt k hk).1)
theorem own_addr {w : World} {B e size n : Nat} {a : Option Addr} {c : Nat} {xs : List Value} (h : w.ownsRow B e size (.slice a n c) n xs) (hn : 0 < n) : ∃ g, a = some ⟨g, 0, none⟩ := by
  rcases h.2 with ⟨e1, _⟩ | ⟨g, cap, cur, e1, _⟩
  · injection e1 with _ e2 _; omega
  · exact ⟨g, by injection e1⟩
set_option maxHeartbeats 16000000 in
theorem model7 (s : ByteArray) (w : World) (hs : s.size ≤ 1048576) : Calls Tryd.prog 7 #[.string s] w (EnsRes s w) := by
  obtain ⟨i0, hi, hz0, hz1, hz2⟩ := info_parts info5
  go_enter Tryd.func7, Tryd.ntmps7
  go_upto_block 0 with fail
  go_cut [3] (fun s3 W => ∃ r : Int, s3 = .int .i64 r ∧ Hid ((r = -1 ∧ st s s.size = ([], false)) ∨ (∃ k : Nat, r = k ∧ k < s.size ∧ isL (by8 s k) = true ∧ st s k = ([], false))) ∧ w = W)
  case first =>
    go_wp2_with fail
    go_loop [3, 4] (fun s3 s4 => ∃ k : Nat, k ≤ s.size ∧ s3 = .int .i64 (-1) ∧ s4 = .int .i64 k ∧ Hid (st s k = ([], false))) (fun _ s4 => s.size - (intOf s4).toNat)
    case atStart => exact ⟨0, Nat.zero_le _, rfl, rfl, rfl⟩
    case round =>
      obtain ⟨k, hk, rfl, rfl, hst⟩ := hrel
      by_cases hlt : k < s.size
      · have hb := s[k].toNat_lt
        have hE : Hid (by8 s k = (s[k].toNat : Int)) := Lib.hid (by8_eq hlt)
        have HS := Lib.hid (fun w' => letter11 (s[k].toNat : Int) w' (by omega) (by omega))
        cases hq : isL (s[k].toNat : Int)
        · rw [hq] at HS
          have HQ := Lib.hid hq
          clear hq
          go_wp2_with (first | (go_at_call 11; (with_reducible refine (HS.out _).mono ?_); rintro e w1 ⟨rfl, rfl⟩))
          go_round
          case rel => exact ⟨k + 1, by omega, rfl, by go_num, st_skip0 hst.out (by rw [hE.out]; exact HQ.out)⟩
          case measure => simp [intOf]; omega
        · rw [hq] at HS
          have HQ := Lib.hid hq
          clear hq
          go_wp2_with (first | (go_at_call 11; (with_reducible refine (HS.out _).mono ?_); rintro e w1 ⟨rfl, rfl⟩))
          go_meet
          exact ⟨_, rfl, Lib.hid (.inr ⟨k, rfl, hlt, by rw [hE.out]; exact HQ.out, hst.out⟩), rfl⟩
      · have e : k = s.size := by omega
        subst e
        go_wp2_with fail
        go_meet
        exact ⟨_, rfl, Lib.hid (.inl ⟨rfl, hst.out⟩), rfl⟩
  case rest =>
  as_aux_lemma =>
  obtain ⟨r, rfl, hr, rfl⟩ := hcut
  by_cases hneg : r = -1
  · have HV : Hid (st s s.size = ([], false)) := by
      rcases hr.out with ⟨_, h⟩ | ⟨k, h, _⟩
      · exact h
      · omega
    subst hneg
    clear hr
    go_wp2_with fail
    go_ret
    refine ⟨?_, Below.refl _ _⟩
    unfold outOf
    rw [HV.out, if_pos rfl]
    rfl
  · obtain ⟨p, rfl, hps, HP⟩ : ∃ p : Nat, r = p ∧ p < s.size ∧ Hid (Hd s p []) := by
      rcases hr.out with ⟨h, _⟩ | ⟨k, h1, h2, h3, h4⟩
      · exact absurd h hneg
      · exact ⟨k, h1, h2, Lib.hid (.inl ⟨rfl, h2, h3, h4⟩)⟩
    clear hr hneg
    go_upto_block 2 with fail
    go_wp2_with fail
    go_loopg [5, 6] s.size (fun gf s5 s6 wx => ∃ (k n : Nat) (l : List Int) (a : Option Addr) (c : Nat), s5 = .slice a n c ∧ s6 = .int .i64 k ∧ Hid (n = l.length) ∧ wx.ownsRow w.heap.size 5 1 (.slice a n c) n (cellsOf l) ∧ Below w.heap.size w wx ∧ Hid (Hd s k l) ∧ k ≤ s.size ∧ s.size ≤ k + gf)
    case atStart => exact ⟨p, 0, [], _, _, rfl, rfl, rfl, World.ownsRow_made w #[] 0 (Nat.le_refl _) (Nat.zero_le _) rfl, (Below.refl _ _).alloc (Nat.le_refl _) _, HP, by omega, by omega⟩
    case round =>
      obtain ⟨k, n, l, a, c, rfl, rfl, HN, hown, hbw, HD, hk, hfu⟩ := hrel
      have HO := Lib.hid hown
      have HB := Lib.hid hbw
      clear hown hbw
      by_cases hlt : k < s.size
      · obtain ⟨wo, rfl⟩ : ∃ wo : World, wo = wr := ⟨_, rfl⟩
        go_upto_block 4 with fail
        go_cut [6] (fun s6 W => ∃ x : Nat, k ≤ x ∧ x ≤ s.size ∧ s6 = .int .i64 x ∧ Hid (Sk s k x l) ∧ Hid (x < s.size → alB (by8 s x) = true) ∧ wo = W)
        case first =>
          as_aux_lemma =>
          go_wp2_with fail
          go_loop [6] (fun s6 => ∃ x : Nat, k ≤ x ∧ x ≤ s.size ∧ s6 = .int .i64 x ∧ Hid (Sk s k x l)) (fun s6 => s.size - (intOf s6).toNat)
          case atStart => exact ⟨k, Nat.le_refl _, hk, rfl, hd_sk HD.out⟩
          case round =>
            obtain ⟨x, hkx, hx, rfl, hsk⟩ := hrel
            by_cases hxl : x < s.size
            · have hb := s[x].toNat_lt
              have hE : Hid (by8 s x = (s[x].toNat : Int)) := Lib.hid (by8_eq hxl)
              have HS := Lib.hid (fun w' => alnum12 (s[x].toNat : Int) w' (by omega) (by omega))
              cases hq : alB (s[x].toNat : Int)
              · rw [hq] at HS
                have HQ := Lib.hid hq
                clear hq
                go_wp2_with (first | (go_at_call 12; (with_reducible refine (HS.out _).mono ?_); rintro e w1 ⟨rfl, rfl⟩))
                go_round
                case rel => exact ⟨x + 1, by omega, by omega, by go_num, sk_next hsk.out hkx (by rw [hE.out]; exact HQ.out)⟩
                case measure => simp [intOf]; omega
              · rw [hq] at HS
                have HQ := Lib.hid hq
                clear hq
                go_wp2_with (first | (go_at_call 12; (with_reducible refine (HS.out _).mono ?_); rintro e w1 ⟨rfl, rfl⟩))
                go_meet
                exact ⟨x, hkx, hx, rfl, hsk, Lib.hid (fun _ => by rw [hE.out]; exact HQ.out), rfl⟩
            · go_wp2_with fail
              go_meet
              exact ⟨x, hkx, hx, rfl, hsk, Lib.hid (fun h => absurd h hxl), rfl⟩
        case rest =>
        as_aux_lemma =>
        obtain ⟨x, hkx, hx, rfl, hsk, hal, rfl⟩ := hcut
        by_cases hxl : x < s.size
        · have HAX := Lib.hid (hal.out hxl)
          clear hal
          obtain ⟨G, rfl⟩ : ∃ G, gk = G + 1 := ⟨gk - 1, by omega⟩
          have hdx : decide (s.size ≤ x) = false := decide_eq_false (by omega)
          go_upto_block 6 with fail
          go_cut [7] (fun s7 W => ∃ y : Nat, x < y ∧ y ≤ s.size ∧ s7 = .int .i64 y ∧ Hid (∀ j, x ≤ j → j < y → alB (by8 s j) = true) ∧ Hid (y < s.size → alB (by8 s y) = false) ∧ wo = W)
          case first =>
            as_aux_lemma =>
            go_wp2_with fail
            go_loop [7] (fun s7 => ∃ y : Nat, x ≤ y ∧ y ≤ s.size ∧ s7 = .int .i64 y ∧ Hid (∀ j, x ≤ j → j < y → alB (by8 s j) = true)) (fun s7 => s.size - (intOf s7).toNat)
            case atStart => exact ⟨x, Nat.le_refl _, hx, rfl, fun j h1 h2 => absurd h2 (by omega)⟩
            case round =>
              obtain ⟨y, hxy, hy, rfl, hal⟩ := hrel
              by_cases hyl : y < s.size
              · have hb := s[y].toNat_lt
                have hE : Hid (by8 s y = (s[y].toNat : Int)) := Lib.hid (by8_eq hyl)
                have HS := Lib.hid (fun w' => alnum12 (s[y].toNat : Int) w' (by omega) (by omega))
                cases hq : alB (s[y].toNat : Int)
                · rw [hq] at HS
                  have HQ := Lib.hid hq
                  clear hq
                  go_wp2_with (first | (go_at_call 12; (with_reducible refine (HS.out _).mono ?_); rintro e w1 ⟨rfl, rfl⟩))
                  go_meet
                  refine ⟨y, ?_, hy, rfl, hal, Lib.hid (fun _ => by rw [hE.out]; exact HQ.out), rfl⟩
                  rcases Nat.lt_or_ge x y with h | h
                  · exact h
                  · exfalso
                    obtain rfl : x = y := by omega
                    have h1 := HAX.out
                    rw [hE.out, HQ.out] at h1
                    cases h1
                · rw [hq] at HS
                  have HQ := Lib.hid hq
                  clear hq
                  go_wp2_with (first | (go_at_call 12; (with_reducible refine (HS.out _).mono ?_); rintro e w1 ⟨rfl, rfl⟩))
                  go_round
                  case rel => exact ⟨y + 1, by omega, by omega, by go_num, fun j h1 h2 => by
                    rcases Nat.lt_or_ge j y with h3 | h3
                    · exact hal.out j h1 h3
                    · obtain rfl : j = y := by omega
                      rw [hE.out]; exact HQ.out⟩
                  case measure => simp [intOf]; omega
              · go_wp2_with fail
                go_meet
                exact ⟨y, by omega, hy, rfl, hal, Lib.hid (fun h => absurd h hyl), rfl⟩
          case rest =>
          as_aux_lemma =>
          obtain ⟨y, hxy, hy, rfl, hal, hend, rfl⟩ := hcut
          have HR := Lib.hid (sk_rd hsk.out hxl HAX.out hxy)
          have HLK : Hid (l.length ≤ x) := Lib.hid (by
            have h1 := (HR.out.1 hxy)
            have h2 := st_len s (x + 1)
            rw [h1] at h2
            split at h2
            · rename_i hl; rw [hl]; simp
            · simp at h2; omega)
          clear hsk HAX HD
          go_upto_if 60 with fail
          go_cut [5] (fun s5 W => ∃ (n' : Nat) (lk : List Int) (a' : Option Addr) (c' : Nat), s5 = .slice a' n' c' ∧ Hid (n' = lk.length) ∧ Hid (W.ownsRow w.heap.size 5 1 (.slice a' n' c') n' (cellsOf lk)) ∧ Hid (Below w.heap.size w W) ∧ Hid (Rd s y x lk))
          case first =>
            as_aux_lemma =>
            by_cases hl : l = []
            · obtain rfl : n = 0 := by rw [HN.out, hl]; rfl
              go_wp2_with fail
              go_meet
              exact ⟨0, l, _, _, rfl, HN, HO, HB, Lib.hid (by have := HR.out; rw [if_pos hl] at this; exact this)⟩
            · have hnp : 0 < n := by rw [HN.out]; exact List.length_pos_iff.2 hl
              have hnx : n ≤ s.size := by have := HLK.out; have := HN.out; omega
              go_wp2_with (first | (at_builtin; (refine wpList_append_own _ rfl _ _ 28 rfl w.heap.size 5 i0 (.int .u8 0) 1 1 Tryd.underlying28 hi hz0 hz1 hz2 rfl (by decide) _ _ _ rfl (HO.out.alloc _) ⟨wo.heap.size, 0, none⟩ 1 1 [.int .u8 95] rfl rfl (cell_one_new _ _ _) (fun x hx => by simp at hx; subst hx; rfl) (by unfold maxLen; omega) (by omega) (by have := HB.out.size; simp; omega) ?_); intro v' w3 hown' hgrow3 hnil3))
              obtain ⟨a', c', rfl⟩ := own_form hown'
              have hk2 := app_keep2 HB.out HO.out hgrow3
              have HO3 := Lib.hid hown'
              clear hown' hgrow3 hnil3
              have HK3 := Lib.hid hk2
              clear hk2
              go_wp2_with fail
              go_meet
              exact ⟨n + 1, l ++ [95], a', c', rfl, Lib.hid (by rw [List.length_append, ← HN.out]; rfl), Lib.hid (by rw [← cells_app]; exact HO3.out), HK3, Lib.hid (by have := HR.out; rw [if_neg hl] at this; exact this)⟩
          case rest =>
          as_aux_lemma =>
          obtain ⟨n', lk, a', c', rfl, HN', HO', HB', HR'⟩ := hcut
          clear HO HB HN HR HLK
          go_upto_block 8 with fail
          go_wp2_with fail
          go_loopg [5, 8] (y - x) (fun gf s5 s8 wx => ∃ (z n : Nat) (lk : List Int) (a : Option Addr) (c : Nat), x ≤ z ∧ z + gf = y ∧ s5 = .slice a n c ∧ s8 = .int .i64 z ∧ Hid (n = lk.length) ∧ Hid (wx.ownsRow w.heap.size 5 1 (.slice a n c) n (cellsOf lk)) ∧ Hid (Below w.heap.size w wx) ∧ Hid (Rd s y z lk))
          case atStart => exact ⟨x, n', lk, a', c', Nat.le_refl _, by omega, rfl, rfl, HN', HO', HB', HR'⟩
          case round =>
            clear HN' HO' HB' HR'
            obtain ⟨z, n2, l2, a2, c2, hxz, hzg, rfl, rfl, HN, HO, HB, HR⟩ := hrel
            by_cases hzy : z < y
            · obtain ⟨g', rfl⟩ : ∃ g', gk = g' + 1 := ⟨gk - 1, by omega⟩
              have hzs : z < s.size := by omega
              have hb := s[z].toNat_lt
              have hE : Hid (by8 s z = (s[z].toNat : Int)) := Lib.hid (by8_eq hzs)
              have hnx : n2 ≤ s.size := by
                have h1 := HR.out.1 hzy
                have h2 := st_len s (z + 1)
                rw [h1] at h2
                simp at h2
                have := HN.out
                omega
              go_wp2_with (first | (at_builtin; (refine wpList_append_own _ rfl _ _ 28 rfl w.heap.size 5 i0 (.int .u8 0) 1 1 Tryd.underlying28 hi hz0 hz1 hz2 rfl (by decide) _ _ _ rfl (HO.out.alloc _) ⟨wr.heap.size, 0, none⟩ 1 1 [.int .u8 (s[z].toNat : Int)] rfl rfl (cell_one_new _ _ _) (fun x hx => by simp at hx; subst hx; rfl) (by unfold maxLen; omega) (by omega) (by have := HB.out.size; simp; omega) ?_); intro v' w3 hown' hgrow3 hnil3))
              obtain ⟨a3, c3, rfl⟩ := own_form hown'
              have hk2 := app_keep2 HB.out HO.out hgrow3
              have HO3 := Lib.hid hown'
              clear hown' hgrow3 hnil3
              have HK3 := Lib.hid hk2
              clear hk2
              go_wp2_with fail
              go_roundg g'
              case measure => omega
              case rel => exact ⟨z + 1, n2 + 1, l2 ++ [by8 s z], a3, c3, by omega, by omega, rfl, by go_num, Lib.hid (by rw [List.length_append, ← HN.out]; rfl), Lib.hid (by rw [← cells_app, hE.out]; exact HO3.out), HK3, Lib.hid (rd_next HR.out hzy hxz hal.out)⟩
            · obtain rfl : z = y := by omega
              have HD := Lib.hid (rd_hd HR.out hend.out)
              go_wp2_with fail
              go_roundg G
              case measure => omega
              case rel => exact ⟨z, n2, l2, a2, c2, rfl, rfl, HN, HO.out, HB.out, HD, hy, by omega⟩
        · have hv := sk_end hsk.out (by omega)
          have HNE := Lib.hid hv.1
          have HV := Lib.hid hv.2
          clear hv hsk hal
          obtain ⟨g, rfl⟩ := own_addr HO.out (by have := List.length_pos_iff.2 HNE.out; have := HN.out; omega)
          have hcs : ∀ i v, (cellsOf l)[i]? = some v → wo.cell? ⟨g, i, none⟩ = some v := fun i v hv => by
            have h := HO.out.cells (g := g) rfl i v hv
            rw [add0] at h
            exact h
          have hcv := run_convert_bytes_arg (P := Tryd.prog) (w := wo) 28 5 Tryd.underlying28 Tryd.underlying5 g 0 n c l HN.out.symm (fun i hi => by
            have h := hcs i (.int .u8 (l.getD i 0)) (by have : i < l.length := by rw [← HN.out]; exact hi
                                                        simp [cellsOf, this])
            simpa using h) 9 Tryd.underlying9
          have hnp : 0 < n := by have := List.length_pos_iff.2 HNE.out; have := HN.out; omega
          clear hcs
          go_wp2_with fail
          go_ret
          refine ⟨?_, HB.out⟩
          unfold outOf
          rw [HV.out, if_neg HNE.out]
          rfl
      · have hv := sk_end (hd_sk HD.out) (by omega)
        have HNE := Lib.hid hv.1
        have HV := Lib.hid hv.2
        clear hv HD
        obtain ⟨g, rfl⟩ := own_addr HO.out (by have := List.length_pos_iff.2 HNE.out; have := HN.out; omega)
        have hcs : ∀ i v, (cellsOf l)[i]? = some v → wr.cell? ⟨g, i, none⟩ = some v := fun i v hv => by
          have h := HO.out.cells (g := g) rfl i v hv
          rw [add0] at h
          exact h
        have hcv := run_convert_bytes_arg (P := Tryd.prog) (w := wr) 28 5 Tryd.underlying28 Tryd.underlying5 g 0 n c l HN.out.symm (fun i hi => by
          have h := hcs i (.int .u8 (l.getD i 0)) (by have : i < l.length := by rw [← HN.out]; exact hi
                                                      simp [cellsOf, this])
          simpa using h) 9 Tryd.underlying9
        have hnp : 0 < n := by have := List.length_pos_iff.2 HNE.out; have := HN.out; omega
        clear hcs
        go_wp2_with fail
        go_ret
        refine ⟨?_, HB.out⟩
        unfold outOf
        rw [HV.out, if_neg HNE.out]
        rfl
end Go.Proofs.YtifngbfkcpfagaaDoor.gen
