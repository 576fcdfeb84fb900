/- The walk of the law 'FnPushScopeForParsePassScriptModel': it returns true and leaves what was there as it was. No conditions beyond the hypotheses. -/
import Derived.Test.YtocljdbihcikhaaFmtPshI
import Derived.Test.YtocljdbihcikhaaFmtClones
import Derived.Lib.Builder
namespace Go.Proofs.YtocljdbihcikhaaFmt.fnPushScopeForParsePassScriptModel
open Go.ChangeShapes Go.WideShapes Go.ChangeAt Go.RowKit Go.Mine psh
set_option linter.unusedVariables false
set_option linter.unusedSimpArgs false
set_option maxRecDepth 100000

def Post (w : World) (e : Ending) (w' : World) : Prop := e = .returned (.bool true) ∧ Below w.heap.size w w'
/-- The loop's state, but for what the slots hold. -/
def Lx (p : Nat) (base : Int) (i d n : Nat) (v : Nat → Value) (u wr : World) : Prop :=
  ∃ (stk : Nat → Nat) (par : Nat → Option Nat) (pos : Nat → Nat) (kd lc : Nat → Int) (nc : Nat → Nat) (chs : Nat → Nat → Nat), Lw p p base i d n stk par pos kd lc nc chs v u wr
theorem vs_up (d d' n : Nat) (a1 a1' a2 a3 a4 a5 a6 : Option Addr) (c1 c1' c2 c3 c4 c5 c6 : Nat) : ∀ l, 1 ≤ l → l ≤ 6 → up (vs d n a1 a2 a3 a4 a5 a6 c1 c2 c3 c4 c5 c6) 1 (.slice a1' d' c1') l = vs d' n a1' a2 a3 a4 a5 a6 c1' c2 c3 c4 c5 c6 l
  | 1, _, _ => rfl
  | 2, _, _ => rfl
  | 3, _, _ => rfl
  | 4, _, _ => rfl
  | 5, _, _ => rfl
  | 6, _, _ => rfl
theorem info3 : (Tryf.prog.info? 3).map (fun i => (i.zero, i.size, i.bytes)) = some (some (.int .i64 0), 1, 8) := by kernel_rfl
theorem info34 : (Tryf.prog.info? 34).map (fun i => (i.zero, i.size, i.bytes)) = some (some (.int .u8 0), 1, 1) := by kernel_rfl
theorem info21 : (Tryf.prog.info? 21).map (fun i => (i.zero, i.size, i.bytes)) = some (some (.int .i32 0), 1, 4) := by kernel_rfl
theorem info50 : (Tryf.prog.info? 50).isSome = true := by kernel_rfl
theorem neq_ptr (a : Addr) (w : World) : (binOp .neq 31 (.pointer (some a)) (.pointer (some a))).run Tryf.prog w = .ok (.bool false) w := by
  obtain ⟨j, hj⟩ := Option.isSome_iff_exists.1 info50
  exact Lib.run_neq_ptr_same w a Tryf.underlying31 hj
theorem Nd_up (d d' n : Nat) (l : Nat) : up (Nd d n) 1 d' l = Nd d' n l := by
  unfold up Nd
  by_cases e : l = 1 <;> simp [e]
set_option maxHeartbeats 8000000 in
theorem walk (a0 : Option Addr) (len0 cap0 : Nat) (z0 : List Int) (b : Int) (w : World) (w0 : IntRow .u8 w a0 len0 cap0 z0) (w1 : (Lit.int .i32 b).wf = true) (hI : IRef w) :
    Calls Tryf.prog 3 #[.slice a0 len0 cap0, .int .i32 b] w (Post w) := by
  have hb0 : -2147483648 ≤ b ∧ b ≤ 2147483647 := by simpa [Lit.wf, IntKind.min, IntKind.max, IntKind.signed, IntKind.bits] using w1
  have m0 : len0 ≤ 9223372036854775807 := by have := w0.2.1; have := w0.2.2.1; unfold maxLen at this; omega
  have R0 := Lib.hid w0
  have HI := Lib.hid hI
  clear w0 hI w1
  go_enter Tryf.func3, Tryf.ntmps3
  go_wp2_with (first | (go_at_call 4; refine (bytes4 _ _ _ _ _ m0).mono ?_; rintro e u ⟨rfl, rfl⟩))
  · go_ret
    exact ⟨rfl, Below.refl _ _⟩
  · go_ret
    exact ⟨rfl, Below.refl _ _⟩
  · go_ret
    exact ⟨rfl, Below.refl _ _⟩
  have hlen : len0 ≤ 65536 := by omega
  have hbb : b ≤ 2147418111 := by omega
  refine (clone5 _ _ _ z0 _ R0.out (by omega)).mono ?_
  rintro e u ⟨a', rfl, rb, y1, y2, hb1⟩
  have R1 := Lib.hid rb
  have BB := Lib.hid hb1
  have HI1 := Lib.hid (HI.out.below hb1)
  clear rb y1 y2 hb1 R0 HI
  go_wp2_with fail
  refine (par6 _).mono ?_
  rintro e w1 ⟨rfl, rfl⟩
  have HS := Lib.hid (psh.start u b (fun _ => 0) (fun _ => none) (fun _ => 0) (fun _ => 0) (fun _ => 0) (fun _ _ => 0))
  have hu0 : 0 < u.heap.size := cell_lt HI1.out.c0
  generalize u.alloc (Obj.cells parC 174) = W1 at *
  generalize hp : u.heap.size = p at *
  go_wp2_with fail
  go_loopg [6, 7, 8, 9, 10, 11, 12] len0 (fun g s6 s7 s8 s9 s10 s11 s12 wr => ∃ (i d n : Nat) (a1 a2 a3 a4 a5 a6 : Option Addr) (c1 c2 c3 c4 c5 c6 : Nat), i + g = len0 ∧ s12 = .int .i64 i ∧ s6 = .slice a1 d c1 ∧ s7 = .slice a2 n c2 ∧ s8 = .slice a3 n c3 ∧ s9 = .slice a4 n c4 ∧ s10 = .slice a5 n c5 ∧ s11 = .slice a6 n c6 ∧ Hid (Lx p b i d n (vs d n a1 a2 a3 a4 a5 a6 c1 c2 c3 c4 c5 c6) u wr))
  case atStart => exact ⟨0, 0, 0, none, none, none, none, none, none, 0, 0, 0, 0, 0, 0, by omega, rfl, rfl, rfl, rfl, rfl, rfl, rfl, Lib.hid ⟨_, _, _, _, _, _, _, HS.out⟩⟩
  case round =>
    obtain ⟨i, d, n, a1, a2, a3, a4, a5, a6, c1, c2, c3, c4, c5, c6, hig, rfl, rfl, rfl, rfl, rfl, rfl, rfl, HL⟩ := hrel
    by_cases hlt : i < len0
    · obtain ⟨g', rfl⟩ : ∃ g', gk = g' + 1 := ⟨gk - 1, by omega⟩
      obtain ⟨stk, par, pos, kd, lc, nc, chs, hL⟩ := HL.out
      have M := Lib.hid hL.md
      have S := Lib.hid hL.six
      obtain ⟨B, O, rfl, hB, e0⟩ := R1.out.at (i := i) hlt
      have e1 : wr.cell? ⟨B, O + i, none⟩ = some (.int .u8 (z0.getD i 0)) := (S.out.bel.1.cell (p := ⟨B, O + i, none⟩) (hp ▸ hB)).trans e0
      have hB1 : B < wr.heap.size := by have := S.out.bel.2; omega
      have hV : 0 ≤ z0.getD i 0 ∧ z0.getD i 0 ≤ 255 := by
        have hl : i < z0.length := by rw [R1.out.1]; exact hlt
        have := R1.out.2.2.2.1 (z0.getD i 0) (by simp [hl])
        simpa [Lit.wf, IntKind.min, IntKind.max, IntKind.signed, IntKind.bits] using this
      generalize z0.getD i 0 = V at *
      clear e0 hL HL
      have hdi := M.out.di
      have hni := M.out.ni
      by_cases hv : 192 ≤ V
      · -- a pop
        cases d with
        | zero =>
          go_wp2_with fail
          go_roundg g'
          case measure => omega
          case rel => exact ⟨i + 1, 0, n, a1, a2, a3, a4, a5, a6, c1, c2, c3, c4, c5, c6, by omega, by go_num, rfl, rfl, rfl, rfl, rfl, rfl, Lib.hid ⟨_, _, _, _, _, _, _, ⟨S.out, M.out.skip⟩⟩⟩
        | succ d =>
          as_aux_lemma =>
            obtain ⟨-, hcap, hcap2⟩ := S.out.cap 1 (by decide) (by decide) (a := a1) (k := d + 1) (c := c1) rfl
            obtain ⟨g1, rfl, -, -, -⟩ := S.out.rd 1 (by decide) (by decide) (a := a1) (k := d + 1) (c := c1) rfl (j := d) (by simp [Nd])
            have HP := Lib.hid (S.out.pop)
            have hcc : (d : Int) ≤ (c1 : Int) := by omega
            unfold maxLen at hcap2
            go_wp2_with fail
            refine HP.out.mono ?_
            rintro e w2 ⟨rfl, h2⟩
            rw [M.out.popCu] at h2
            have h4 : Six p p n (cuOf d stk) par kd lc nc chs (Nd d n) (fs stk par pos kd lc nc) (vs d n (some ⟨g1, 0, none⟩) a2 a3 a4 a5 a6 c1 c2 c3 c4 c5 c6) u w2 :=
              (h2.cut 1 (by decide) (by decide) (a := some ⟨g1, 0, none⟩) (k := d) (c := c1) rfl (by simp [Nd])).congr (fun l _ _ => Nd_up _ _ _ l) (fun _ _ _ _ _ => rfl) (vs_up _ _ _ _ _ _ _ _ _ _ _ _ _ _ _ _ _)
            obtain ⟨sa, mb, vc, hr⟩ := h4.read
            have hc := hr.cur
            have S2 := Lib.hid h4
            have RR := Lib.hid hr
            have MP := Lib.hid M.out.pop
            clear h2 h4 hr HP e1 hB1
            cases d with
            | zero =>
              simp only [cuOf, Option.map, pt] at hc
              go_wp2_with (first | (go_at_call 8; refine (cur8 _ _ _ hc).mono ?_; rintro e w3 ⟨rfl, rfl⟩))
              go_roundg g'
              case measure => omega
              case rel => exact ⟨i + 1, 0, n, _, a2, a3, a4, a5, a6, c1, c2, c3, c4, c5, c6, by omega, by go_num, rfl, rfl, rfl, rfl, rfl, rfl, Lib.hid ⟨_, _, _, _, _, _, _, ⟨S2.out, MP.out⟩⟩⟩
            | succ e =>
              have hse := M.out.sl e (by omega)
              obtain ⟨g7, c7, q1, q2, -, -⟩ := RR.out.at7 (stk e) hse
              obtain ⟨g1', hg, t0, -, t2⟩ := S2.out.rd 1 (by decide) (by decide) (a := some ⟨g1, 0, none⟩) (k := e + 1) (c := c1) rfl (j := e) (by simp [Nd])
              injection hg with hg
              injection hg with hg
              subst hg
              simp only [cuOf, Option.map, pt, fs] at hc q2 t0
              have hn5 : n ≤ 1048576 := by omega
              generalize stk e = se at *
              have hpp := fun w => neq_ptr ⟨sa se, 0, none⟩ w
              go_wp2_with (first | (go_at_call 8; refine (cur8 _ _ _ hc).mono ?_; rintro e w3 ⟨rfl, rfl⟩) | (go_at_call 9; refine (at9 _ g7 n c7 _ _ _ q1 hse hn5 q2).mono ?_; rintro e w3 ⟨rfl, rfl⟩))
              go_roundg g'
              case measure => omega
              case rel => exact ⟨i + 1, e + 1, n, _, a2, a3, a4, a5, a6, c1, c2, c3, c4, c5, c6, by omega, by go_num, rfl, rfl, rfl, rfl, rfl, rfl, Lib.hid ⟨_, _, _, _, _, _, _, ⟨S2.out, MP.out⟩⟩⟩
      · -- a push
        have hK : 0 ≤ V % 12 ∧ V % 12 < 12 := by omega
        go_upto_if 79 with fail
        generalize hKV : V % 12 = K at *
        go_cut [15] (fun s15 W => s15 = .int .u8 K ∧ Hid (K = 8 → ∃ q, cuOf d stk = some q ∧ kd q = 7) ∧ wr = W)
        case first =>
          as_aux_lemma =>
            by_cases hk8 : K = 8
            · subst hk8
              cases d with
              | zero =>
                go_wp2_with fail
                go_roundg g'
                case measure => omega
                case rel => exact ⟨i + 1, 0, n, a1, a2, a3, a4, a5, a6, c1, c2, c3, c4, c5, c6, by omega, by go_num, rfl, rfl, rfl, rfl, rfl, rfl, Lib.hid ⟨_, _, _, _, _, _, _, ⟨S.out, M.out.skip⟩⟩⟩
              | succ e =>
                have hse := M.out.sl e (by omega)
                obtain ⟨g1, rfl, t0, -, t1⟩ := S.out.rd 1 (by decide) (by decide) (a := a1) (k := e + 1) (c := c1) rfl (j := e) (by simp [Nd])
                obtain ⟨g4, rfl, t4, -, t5⟩ := S.out.rd 4 (by decide) (by decide) (a := a4) (k := n) (c := c4) rfl (j := stk e) (by simpa [Nd] using hse)
                simp only [fs] at t0 t4
                have hse' : ((stk e : Nat) : Int) < (n : Int) := by omega
                have HK : Hid (kd (stk e) = 7 → ∃ q, cuOf (e + 1) stk = some q ∧ kd q = 7) := Lib.hid fun h => ⟨_, rfl, h⟩
                generalize kd (stk e) = kq at *
                generalize stk e = se at *
                by_cases h7 : kq = 7
                · subst h7
                  go_wp2_with fail
                  go_meet
                  case rel => exact ⟨rfl, Lib.hid fun _ => HK.out (by first | rfl | trivial), rfl⟩
                · have h7' : (kq == 7) = false := by rw [beq_eq_false_iff_ne]; exact h7
                  have h7n : (kq != 7) = true := by simp [bne, h7']
                  go_wp2_with fail
                  go_roundg g'
                  case measure => omega
                  case rel => exact ⟨i + 1, e + 1, n, _, a2, a3, _, a5, a6, c1, c2, c3, c4, c5, c6, by omega, by go_num, rfl, rfl, rfl, rfl, rfl, rfl, Lib.hid ⟨_, _, _, _, _, _, _, ⟨S.out, M.out.skip⟩⟩⟩
            · have hk8' : (K == 8) = false := by rw [beq_eq_false_iff_ne]; exact hk8
              go_wp2_with fail
              go_meet
              case rel => exact ⟨rfl, Lib.hid fun h => absurd h hk8, rfl⟩
        case rest =>
          obtain ⟨rfl, HK8, rfl⟩ := hcut
          have hw1 : IntKind.i32.wrap (i : Int) = (i : Int) := by rw [IntKind.wrap_i32]; omega
          have HPU := Lib.hid (S.out.push (k := K) (HI1.out.far S.out.bel.1 (by omega)) HK8.out (fun j hj => M.out.ll j (by omega)) (by omega))
          clear e1 hB1 HK8
          go_wp2_with fail
          refine HPU.out.mono ?_
          rintro e w2 ⟨rfl, nc', chs', h6, hN, hS⟩
          have S2 := Lib.hid h6
          have HN := Lib.hid hN
          have HSs := Lib.hid hS
          clear h6 hN hS HPU
          go_upto_if 110 with fail
          go_cut [19, 20] (fun s19 s20 W => ∃ ps : Nat, s19 = .int .i64 (parI (cuOf d stk)) ∧ s20 = .int .i64 ps ∧ ps ≤ 65536 ∧ Hid ((∀ q, cuOf d stk = some q → ps = nc q) ∧ Six p p (n + 1) (some n) (up par n (cuOf d stk)) (up kd n K) (up lc n (b + i)) nc' chs' (Nd d n) (fs (up stk d n) (up par n (cuOf d stk)) (up pos n ps) (up kd n K) (up lc n (b + i)) nc') (vs d n a1 a2 a3 a4 a5 a6 c1 c2 c3 c4 c5 c6) u W))
          case first =>
            as_aux_lemma =>
              cases d with
              | zero =>
                obtain ⟨rfl, rfl⟩ := HN.out rfl
                have HF := Lib.hid (six_none (ps := 0) S2.out)
                go_wp2_with fail
                go_meet
                case rel => exact ⟨0, rfl, rfl, by omega, Lib.hid ⟨fun q hq => (by cases hq), HF.out⟩⟩
              | succ e =>
                have hse := M.out.sl e (by omega)
                have hnb := M.out.nb (stk e)
                obtain ⟨g1, rfl, t0, -, t1⟩ := S2.out.rd 1 (by decide) (by decide) (a := a1) (k := e + 1) (c := c1) rfl (j := e) (by simp [Nd])
                obtain ⟨g6, rfl, t4, t6, t5⟩ := S2.out.rd 6 (by decide) (by decide) (a := a6) (k := n) (c := c6) rfl (j := stk e) (by simpa [Nd] using hse)
                simp only [fs] at t0 t4
                obtain ⟨hnc, hch⟩ := HSs.out _ rfl
                subst hnc hch
                have HF := Lib.hid (six_some (ps := nc (stk e)) (f := up (fs stk par pos kd lc nc) 6 (up (fs stk par pos kd lc nc 6) (stk e) (.int .i64 ((nc (stk e) : Int) + 1)))) (S2.out.setAt 6 (by decide) (by decide) (g := g6) (k := n) (c := c6) rfl (j := stk e) (by simpa [Nd] using hse) (.int .i64 ((nc (stk e) : Int) + 1))) rfl)
                have hse' : ((stk e : Nat) : Int) < (n : Int) := by omega
                have HQ : Hid (∀ q, cuOf (e + 1) stk = some q → nc (stk e) = nc q) := Lib.hid fun q hq => by cases hq; rfl
                obtain ⟨x, hx⟩ : ∃ x, nc (stk e) = x := ⟨_, rfl⟩
                rw [hx] at t4 hnb
                have hnn : x ≤ 65536 := by omega
                have HX := Lib.hid hx
                obtain ⟨se, hsx⟩ : ∃ x, stk e = x := ⟨_, rfl⟩
                rw [hsx] at t0 t4 t6 hse hse'
                have HSX := Lib.hid hsx
                clear hx hsx
                go_wp2_with fail
                go_meet
                case rel =>
                  refine ⟨x, ?_, rfl, hnn, Lib.hid ⟨fun q hq => by rw [← HQ.out q hq, HX.out], ?_⟩⟩
                  · rw [← HSX.out]
                  · rw [← HX.out, ← HSX.out]
                    exact HF.out
          case rest =>
            as_aux_lemma =>
              obtain ⟨ps, rfl, rfl, hps, HC0⟩ := hcut
              have HPS := Lib.hid HC0.out.1
              have HC := Lib.hid HC0.out.2
              have hn0 : nc' n = 0 := by
                have h0 := M.out.nz n (Nat.le_refl _)
                cases hcu : cuOf d stk with
                | none => rw [(HN.out hcu).1]; exact h0
                | some q =>
                  have := M.out.cuLt q hcu
                  rw [(HSs.out q hcu).1, up_ne _ _ (by omega)]
                  exact h0
              have HMD := Lib.hid (M.out.push rfl HPS.out ⟨hK.1, hK.2⟩ rfl HN.out HSs.out)
              clear HC0
              obtain ⟨pi, hpi⟩ : ∃ x, parI (cuOf d stk) = x := ⟨_, rfl⟩
              rw [hpi]
              obtain ⟨ff, hff⟩ : ∃ x, fs (up stk d n) (up par n (cuOf d stk)) (up pos n ps) (up kd n K) (up lc n (b + i)) nc' = x := ⟨_, rfl⟩
              rw [hff] at HC
              have X1 : Hid (ff 1 d = .int .i64 (n : Int)) := Lib.hid (by rw [← hff]; simp only [fs]; rw [up_at])
              have X2 : Hid (ff 2 n = .int .i64 pi) := Lib.hid (by rw [← hff]; simp only [fs]; rw [up_at, hpi])
              have X3 : Hid (ff 3 n = .int .i64 (ps : Int)) := Lib.hid (by rw [← hff]; simp only [fs]; rw [up_at])
              have X4 : Hid (ff 4 n = .int .u8 K) := Lib.hid (by rw [← hff]; simp only [fs]; rw [up_at])
              have X5 : Hid (ff 5 n = .int .i32 (b + i)) := Lib.hid (by rw [← hff]; simp only [fs]; rw [up_at])
              have X6 : Hid (ff 6 n = .int .i64 0) := Lib.hid (by rw [← hff]; simp only [fs]; rw [hn0]; rfl)
              have HPI := Lib.hid hpi
              have HFF := Lib.hid hff
              have X6' := Lib.hid hn0
              clear hpi hff hn0 HN HSs
              obtain ⟨j3, hj3, hz3⟩ := Option.map_eq_some_iff.1 info3
              injection hz3 with y3 hz3
              injection hz3 with h13 h23
              obtain ⟨j34, hj34, hz34⟩ := Option.map_eq_some_iff.1 info34
              injection hz34 with y34 hz34
              injection hz34 with h134 h234
              obtain ⟨j21, hj21, hz21⟩ := Option.map_eq_some_iff.1 info21
              injection hz21 with y21 hz21
              injection hz21 with h121 h221
              have HI3 := Lib.hid hj3
              have HZ3 := Lib.hid y3
              have HI34 := Lib.hid hj34
              have HZ34 := Lib.hid y34
              have HI21 := Lib.hid hj21
              have HZ21 := Lib.hid y21
              clear hj3 y3 hj34 y34 hj21 y21
              obtain ⟨xs, ho, hlaw⟩ := HC.out.own 2 (by decide) (by decide) (a := a2) (k := n) (c := c2) (by rfl) (by simp [up, Nd])
              have HO := Lib.hid ho
              have HW := Lib.hid hlaw
              have hlw := HC.out.bel.2
              clear ho hlaw
              go_upto_region 44 with (first | (at_builtin; (refine wpList_append_lies _ rfl _ _ 27 rfl p 3 j3 (.int .i64 0) 1 8 Tryf.underlying27 HI3.out HZ3.out h13 h23 rfl (by decide) (.slice a2 n c2) n _ rfl (HO.out.alloc _) ⟨wc.heap.size, 0, none⟩ 1 1 [.int .i64 pi] rfl rfl (cell_one_new _ _ _) (fun y hy => by simp at hy; subst hy; rfl) (by decide) (by unfold maxLen; omega) (by omega) (by simp; omega) (wc.heap.size + 1) (by simp) ?_); intro g2 k2 wl2 hown hgrow hat hlt2; have HG := Lib.hid hgrow; have HO2 := Lib.hid hown; have HT := Lib.hid hat; clear hgrow hown hat hlt2))
              have HC2 := Lib.hid (HW.out _ wl2 _ _ ((Below.refl _ _).alloc (Nat.le_refl _) _) HG.out HO2.out (by rcases HT.out with e | e; exact .inl e.symm; exact .inr (by rw [e]; simp [Value.ownBlock])) X2.out)
              clear HC HO HW hlw HG HO2 HT
              obtain ⟨xs, ho, hlaw⟩ := HC2.out.own 3 (by decide) (by decide) (a := a3) (k := n) (c := c3) (by rfl) (by simp [up, Nd])
              have HO := Lib.hid ho
              have HW := Lib.hid hlaw
              have hlw := HC2.out.bel.2
              clear ho hlaw
              go_upto_region 45 with (first | (at_builtin; (refine wpList_append_lies _ rfl _ _ 27 rfl p 3 j3 (.int .i64 0) 1 8 Tryf.underlying27 HI3.out HZ3.out h13 h23 rfl (by decide) (.slice a3 n c3) n _ rfl (HO.out.alloc _) ⟨wl2.heap.size, 0, none⟩ 1 1 [.int .i64 (ps : Int)] rfl rfl (cell_one_new _ _ _) (fun y hy => by simp at hy; subst hy; rfl) (by decide) (by unfold maxLen; omega) (by omega) (by simp; omega) (wl2.heap.size + 1) (by simp) ?_); intro g3 k3 wl3 hown hgrow hat hlt2; have HG := Lib.hid hgrow; have HO2 := Lib.hid hown; have HT := Lib.hid hat; clear hgrow hown hat hlt2))
              have HC3 := Lib.hid (HW.out _ wl3 _ _ ((Below.refl _ _).alloc (Nat.le_refl _) _) HG.out HO2.out (by rcases HT.out with e | e; exact .inl e.symm; exact .inr (by rw [e]; simp [Value.ownBlock])) X3.out)
              clear HC2 HO HW hlw HG HO2 HT
              obtain ⟨xs, ho, hlaw⟩ := HC3.out.own 4 (by decide) (by decide) (a := a4) (k := n) (c := c4) (by rfl) (by simp [up, Nd])
              have HO := Lib.hid ho
              have HW := Lib.hid hlaw
              have hlw := HC3.out.bel.2
              clear ho hlaw
              go_upto_region 46 with (first | (at_builtin; (refine wpList_append_lies _ rfl _ _ 28 rfl p 34 j34 (.int .u8 0) 1 1 Tryf.underlying28 HI34.out HZ34.out h134 h234 rfl (by decide) (.slice a4 n c4) n _ rfl (HO.out.alloc _) ⟨wl3.heap.size, 0, none⟩ 1 1 [.int .u8 K] rfl rfl (cell_one_new _ _ _) (fun y hy => by simp at hy; subst hy; rfl) (by decide) (by unfold maxLen; omega) (by omega) (by simp; omega) (wl3.heap.size + 1) (by simp) ?_); intro g4 k4 wl4 hown hgrow hat hlt2; have HG := Lib.hid hgrow; have HO2 := Lib.hid hown; have HT := Lib.hid hat; clear hgrow hown hat hlt2))
              have HC4 := Lib.hid (HW.out _ wl4 _ _ ((Below.refl _ _).alloc (Nat.le_refl _) _) HG.out HO2.out (by rcases HT.out with e | e; exact .inl e.symm; exact .inr (by rw [e]; simp [Value.ownBlock])) X4.out)
              clear HC3 HO HW hlw HG HO2 HT
              obtain ⟨xs, ho, hlaw⟩ := HC4.out.own 5 (by decide) (by decide) (a := a5) (k := n) (c := c5) (by rfl) (by simp [up, Nd])
              have HO := Lib.hid ho
              have HW := Lib.hid hlaw
              have hlw := HC4.out.bel.2
              clear ho hlaw
              go_upto_region 47 with (first | (at_builtin; (refine wpList_append_lies _ rfl _ _ 29 rfl p 21 j21 (.int .i32 0) 1 4 Tryf.underlying29 HI21.out HZ21.out h121 h221 rfl (by decide) (.slice a5 n c5) n _ rfl (HO.out.alloc _) ⟨wl4.heap.size, 0, none⟩ 1 1 [.int .i32 (b + i)] rfl rfl (cell_one_new _ _ _) (fun y hy => by simp at hy; subst hy; rfl) (by decide) (by unfold maxLen; omega) (by omega) (by simp; omega) (wl4.heap.size + 1) (by simp) ?_); intro g5 k5 wl5 hown hgrow hat hlt2; have HG := Lib.hid hgrow; have HO2 := Lib.hid hown; have HT := Lib.hid hat; clear hgrow hown hat hlt2))
              have HC5 := Lib.hid (HW.out _ wl5 _ _ ((Below.refl _ _).alloc (Nat.le_refl _) _) HG.out HO2.out (by rcases HT.out with e | e; exact .inl e.symm; exact .inr (by rw [e]; simp [Value.ownBlock])) X5.out)
              clear HC4 HO HW hlw HG HO2 HT
              obtain ⟨xs, ho, hlaw⟩ := HC5.out.own 6 (by decide) (by decide) (a := a6) (k := n) (c := c6) (by rfl) (by simp [up, Nd])
              have HO := Lib.hid ho
              have HW := Lib.hid hlaw
              have hlw := HC5.out.bel.2
              clear ho hlaw
              go_upto_region 48 with (first | (at_builtin; (refine wpList_append_lies _ rfl _ _ 27 rfl p 3 j3 (.int .i64 0) 1 8 Tryf.underlying27 HI3.out HZ3.out h13 h23 rfl (by decide) (.slice a6 n c6) n _ rfl (HO.out.alloc _) ⟨wl5.heap.size, 0, none⟩ 1 1 [.int .i64 0] rfl rfl (cell_one_new _ _ _) (fun y hy => by simp at hy; subst hy; rfl) (by decide) (by unfold maxLen; omega) (by omega) (by simp; omega) (wl5.heap.size + 1) (by simp) ?_); intro g6 k6 wl6 hown hgrow hat hlt2; have HG := Lib.hid hgrow; have HO2 := Lib.hid hown; have HT := Lib.hid hat; clear hgrow hown hat hlt2))
              have HC6 := Lib.hid (HW.out _ wl6 _ _ ((Below.refl _ _).alloc (Nat.le_refl _) _) HG.out HO2.out (by rcases HT.out with e | e; exact .inl e.symm; exact .inr (by rw [e]; simp [Value.ownBlock])) X6.out)
              clear HC5 HO HW hlw HG HO2 HT
              obtain ⟨xs, ho, hlaw⟩ := HC6.out.own 1 (by decide) (by decide) (a := a1) (k := d) (c := c1) (by rfl) (by simp [up, Nd])
              have HO := Lib.hid ho
              have HW := Lib.hid hlaw
              have hlw := HC6.out.bel.2
              clear ho hlaw
              go_upto_region 49 with (first | (at_builtin; (refine wpList_append_lies _ rfl _ _ 27 rfl p 3 j3 (.int .i64 0) 1 8 Tryf.underlying27 HI3.out HZ3.out h13 h23 rfl (by decide) (.slice a1 d c1) d _ rfl (HO.out.alloc _) ⟨wl6.heap.size, 0, none⟩ 1 1 [.int .i64 (n : Int)] rfl rfl (cell_one_new _ _ _) (fun y hy => by simp at hy; subst hy; rfl) (by decide) (by unfold maxLen; omega) (by omega) (by simp; omega) (wl6.heap.size + 1) (by simp) ?_); intro g1 k1 wl1 hown hgrow hat hlt2; have HG := Lib.hid hgrow; have HO2 := Lib.hid hown; have HT := Lib.hid hat; clear hgrow hown hat hlt2))
              have HC1 := Lib.hid (HW.out _ wl1 _ _ ((Below.refl _ _).alloc (Nat.le_refl _) _) HG.out HO2.out (by rcases HT.out with e | e; exact .inl e.symm; exact .inr (by rw [e]; simp [Value.ownBlock])) X1.out)
              clear HC6 HO HW hlw HG HO2 HT
              have S3 := Lib.hid (HC1.out.congr (N' := Nd (d + 1) (n + 1)) (f' := ff) (v' := vs (d + 1) (n + 1) (some ⟨g1, 0, none⟩) (some ⟨g2, 0, none⟩) (some ⟨g3, 0, none⟩) (some ⟨g4, 0, none⟩) (some ⟨g5, 0, none⟩) (some ⟨g6, 0, none⟩) k1 k2 k3 k4 k5 k6)
                (fun l h1 h2 => match l, h1, h2 with | 1, _, _ => rfl | 2, _, _ => rfl | 3, _, _ => rfl | 4, _, _ => rfl | 5, _, _ => rfl | 6, _, _ => rfl) (fun _ _ _ _ _ => rfl)
                (fun l h1 h2 => match l, h1, h2 with | 1, _, _ => rfl | 2, _, _ => rfl | 3, _, _ => rfl | 4, _, _ => rfl | 5, _, _ => rfl | 6, _, _ => rfl))
              clear HC1 X1 X2 X3 X4 X5 X6 HI3 HZ3 HI34 HZ34 HI21 HZ21 h13 h23 h134 h234 h121 h221
              obtain ⟨sa, mb, vc, hr⟩ := S3.out.read
              have hc : wl1.cell? ⟨p, 104, none⟩ = some (.pointer (some ⟨sa n, 0, none⟩)) := hr.cur
              obtain ⟨g7, c7, q1, q2, -, -⟩ := hr.at7 n (Nat.lt_succ_self n)
              have hsc := hr.sc n (Nat.lt_succ_self n)
              rw [up_at, up_at] at hsc
              obtain ⟨av, cv, hvc⟩ := hr.vcf n
              have hn0 : nc' n = 0 := by have h := X6'.out; exact h
              rw [hvc, hn0] at hsc
              have hmb := hr.mbs n (Nat.lt_succ_self n)
              have RR := Lib.hid hr
              have x15 := hsc.cell 15
              have x3 := hsc.cell 3
              have x2 := hsc.cell 2
              have x1 := hsc.cell 1
              simp only [List.getElem?_toArray, List.getElem?_cons_succ, List.getElem?_cons_zero] at x15 x3 x2 x1
              have xl := hsc.lt
              have hn5 : n + 1 ≤ 1048576 := by omega
              have hnn : n < n + 1 := Nat.lt_succ_self n
              have hpp := fun w => neq_ptr ⟨sa n, 0, none⟩ w
              have hml := fun w r => run_eql_map_nil (P := Tryf.prog) w 38 9 179 r Tryf.underlying38
              have hlm : (Builtin.len_ #[38] 3 #[Value.map (some (mb n))]).run Tryf.prog wl1 = .ok (.int .i64 0) wl1 := run_len_map wl1 38 3 (mb n) #[] 0 (by kernel_rfl) hmb
              clear hr hsc hvc hn0 hmb
              go_upto_if 159 with (first | (go_at_call 8; refine (cur8 _ _ _ hc).mono ?_; rintro e w3 ⟨rfl, rfl⟩) | (go_at_call 9; refine (at9 _ g7 (n + 1) c7 n _ _ q1 hnn hn5 q2).mono ?_; rintro e w3 ⟨rfl, rfl⟩))
              have HFin : Hid (∀ W, Below wl1.heap.size wl1 W → Lx p b (i + 1) (d + 1) (n + 1) (vs (d + 1) (n + 1) (some ⟨g1, 0, none⟩) (some ⟨g2, 0, none⟩) (some ⟨g3, 0, none⟩) (some ⟨g4, 0, none⟩) (some ⟨g5, 0, none⟩) (some ⟨g6, 0, none⟩) k1 k2 k3 k4 k5 k6) u W) := Lib.hid fun W hW => by
                refine ⟨_, _, _, _, _, _, _, ⟨?_, HMD.out⟩⟩
                have h := S3.out.below hW
                rw [← HFF.out] at h
                have e : cuOf (d + 1) (up stk d n) = some n := by show some (up stk d n d) = some n; rw [up_at]
                rw [e]
                exact h
              clear S3 HMD HFF HPS
              go_upto_if 188 with fail
              go_upto_if 190 with fail
              cases d with
              | zero =>
                obtain rfl : pi = -1 := HPI.out.symm
                simp only [cuOf, Option.map, pt] at x1
                go_wp2_with fail
                go_roundg g'
                case measure => omega
                case rel => exact ⟨i + 1, 0 + 1, n + 1, _, _, _, _, _, _, _, _, _, _, _, _, by omega, by go_num, rfl, rfl, rfl, rfl, rfl, rfl, Lib.hid (HFin.out _ (Below.refl _ _))⟩
              | succ e =>
                have hse := M.out.sl e (by omega)
                obtain rfl : pi = ((stk e : Nat) : Int) := HPI.out.symm
                simp only [cuOf, Option.map, pt] at x1
                obtain ⟨gq, cq, r1, r2, -, -⟩ := RR.out.at7 (stk e) (by omega)
                simp only [pt] at r2
                generalize stk e = se at *
                have hse2 : se < n + 1 := by omega
                have hse3 : ¬ ((se : Int) < 0) := by omega
                have H9 : Hid (∀ m, Calls Tryf.prog 9 #[.pointer (some ⟨p, 0, none⟩), .int .i64 se] (wl1.drewN m) fun e w' => e = .returned (.pointer (some ⟨sa se, 0, none⟩)) ∧ w' = wl1.drewN m) := Lib.hid fun m => (at9 p gq (n + 1) cq se _ (wl1.drewN m) r1 hse2 hn5 r2).mono fun e w' h => ⟨h.1, h.2.symm⟩
                have hpq := fun w => neq_ptr ⟨sa se, 0, none⟩ w
                go_upto_region 57 with fail
                go_quiet ((go_at_call 9; exact Calls.quiet_of_same (H9.out _)))
                go_wp2_with fail
                go_roundg g'
                case measure => omega
                case rel => exact ⟨i + 1, e + 1 + 1, n + 1, _, _, _, _, _, _, _, _, _, _, _, _, by omega, by go_num, rfl, rfl, rfl, rfl, rfl, rfl, Lib.hid (HFin.out _ (psh.below_drewN (Below.refl _ _) _))⟩
    · as_aux_lemma =>
        have hi : i = len0 := by omega
        obtain ⟨stk, par, pos, kd, lc, nc, chs, hL⟩ := HL.out
        have M := Lib.hid hL.md
        have S := Lib.hid hL.six
        obtain ⟨sa, mb, vc, hr⟩ := hL.six.read
        have RR := Lib.hid hr
        obtain ⟨aS, cS, hs⟩ := hr.sio
        have hn5 : n ≤ 1048576 := by have := hL.md.ni; omega
        clear hL HL hr R1 HS
        go_upto_region 59 with fail
        go_wp2_with (first | (go_at_call 11; refine (len11 _ n cS aS _ hs).mono ?_; rintro e w3 ⟨rfl, rfl⟩))
        go_loopg [22] n (fun g s22 wx => ∃ j : Nat, j + g = n ∧ s22 = .int .i64 j ∧ Hid (Below wr.heap.size wr wx))
        case atStart => exact ⟨0, by omega, rfl, Lib.hid (Below.refl _ _)⟩
        case round =>
          obtain ⟨j, hjg, rfl, HX⟩ := hrel
          by_cases hjn : j < n
          · obtain ⟨g', rfl⟩ : ∃ g', gk = g' + 1 := ⟨gk - 1, by omega⟩
            have R2 := Lib.hid (RR.out.below HX.out)
            have S2 := Lib.hid (S.out.below HX.out)
            obtain ⟨g7, c7, q1, q2, q3, -⟩ := R2.out.at7 j hjn
            simp only [pt] at q2
            have hsc := R2.out.sc j hjn
            obtain ⟨av, cv, hvc⟩ := R2.out.vcf j
            rw [hvc] at hsc
            have x15 := hsc.cell 15
            have x2 := hsc.cell 2
            have x1 := hsc.cell 1
            simp only [List.getElem?_toArray, List.getElem?_cons_succ, List.getElem?_cons_zero] at x15 x2 x1
            have xl := hsc.lt
            obtain ⟨g2, rfl, t2, -, l2⟩ := S2.out.rd 2 (by decide) (by decide) (a := a2) (k := n) (c := c2) rfl (j := j) (by simpa [Nd] using hjn)
            obtain ⟨g3, rfl, t3, -, l3⟩ := S2.out.rd 3 (by decide) (by decide) (a := a3) (k := n) (c := c3) rfl (j := j) (by simpa [Nd] using hjn)
            obtain ⟨g4, rfl, t4, -, l4⟩ := S2.out.rd 4 (by decide) (by decide) (a := a4) (k := n) (c := c4) rfl (j := j) (by simpa [Nd] using hjn)
            obtain ⟨g5, rfl, t5, -, l5⟩ := S2.out.rd 5 (by decide) (by decide) (a := a5) (k := n) (c := c5) rfl (j := j) (by simpa [Nd] using hjn)
            obtain ⟨g6, rfl, t6, -, l6⟩ := S2.out.rd 6 (by decide) (by decide) (a := a6) (k := n) (c := c6) rfl (j := j) (by simpa [Nd] using hjn)
            simp only [fs] at t2 t3 t4 t5 t6
            have hjn' : (j : Int) < (n : Int) := by omega
            have hps := M.out.ps j
            have hpl := M.out.pl j
            have hpj := fun w => neq_ptr ⟨sa j, 0, none⟩ w
            have H12 : Hid (∀ m, Calls Tryf.prog 12 #[.pointer (some ⟨p, 0, none⟩), .int .i64 j] (wr.drewN m) fun e w' => e = .returned (.int .i32 (lc j)) ∧ w' = wr.drewN m) := Lib.hid fun m => (loc12 p g7 n c7 j _ (wr.drewN m) q1 hjn hn5 q3).mono fun e w' h => ⟨h.1, h.2.symm⟩
            generalize kd j = kj at *
            generalize lc j = lj at *
            generalize hnj : nc j = nj at *
            cases hpar : par j with
            | none =>
              rw [hpar] at x1 t2
              simp only [Option.map, pt, parI] at x1 t2
              clear hps hpl t3
              go_upto_region 65 with (first | (go_at_call 9; refine (at9 _ g7 n c7 j _ _ q1 hjn hn5 q2).mono ?_; rintro e w3 ⟨rfl, rfl⟩))
              go_quiet ((go_at_call 12; exact Calls.quiet_of_same (H12.out _)))
              go_upto_region 67 with fail
              go_quiet (fail)
              go_wp2_with fail
              go_roundg g'
              case measure => omega
              case rel => exact ⟨j + 1, by omega, by go_num, Lib.hid (by
                have := HX.out
                (repeat (first | exact this | with_reducible refine psh.below_drewN ?_ _)))⟩
            | some q =>
              obtain ⟨y1, y2⟩ := hps q hjn hpar
              have hqn := hpl q hjn hpar
              rw [hpar] at x1 t2
              simp only [Option.map, pt, parI] at x1 t2
              have hscq := R2.out.sc q hqn
              obtain ⟨gq, cq, hvq, hcq, lq⟩ := R2.out.ch q (pos j) y1
              rw [y2] at hcq
              rw [hvq] at hscq
              have z2 := hscq.cell 2
              simp only [List.getElem?_toArray, List.getElem?_cons_succ, List.getElem?_cons_zero, pt] at z2 hcq
              have zl := hscq.lt
              obtain ⟨g7', c7', r1, r2, -, -⟩ := R2.out.at7 q hqn
              rw [q1] at r1
              injection r1 with r1
              injection r1 with r1 _ r3
              injection r1 with r1
              injection r1 with r1
              subst r1 r3
              simp only [pt] at r2
              have hpq := fun w => neq_ptr ⟨sa q, 0, none⟩ w
              have H9q : Hid (∀ m, Calls Tryf.prog 9 #[.pointer (some ⟨p, 0, none⟩), .int .i64 q] (wr.drewN m) fun e w' => e = .returned (.pointer (some ⟨sa q, 0, none⟩)) ∧ w' = wr.drewN m) := Lib.hid fun m => (at9 p g7 n c7 q _ (wr.drewN m) q1 hqn hn5 r2).mono fun e w' h => ⟨h.1, h.2.symm⟩
              have y3 : ((pos j : Nat) : Int) < ((nc q : Nat) : Int) := by omega
              have y4 : nc q ≤ 65536 := by have := M.out.nb q; have := M.out.ni; omega
              have hq0 : ¬ ((q : Int) < 0) := by omega
              clear hps hpl hscq hsc hvq y2
              generalize pos j = pj at *
              generalize nc q = ncq at *
              generalize sa q = sq at *
              generalize sa j = sj at *
              go_upto_region 65 with (first | (go_at_call 9; (with_reducible refine (at9 _ g7 n c7 j _ _ q1 hjn hn5 q2).mono ?_); rintro e w3 ⟨rfl, rfl⟩))
              go_quiet ((go_at_call 12; exact Calls.quiet_of_same (H12.out _)))
              go_upto_region 67 with fail
              go_quiet (fail)
              go_upto_region 73 with (first | (go_at_call 9; (with_reducible refine (H9q.out _).mono ?_); rintro e w3 ⟨rfl, rfl⟩))
              go_quiet (fail)
              go_wp2_with fail
              go_roundg g'
              case measure => omega
              case rel => exact ⟨j + 1, by omega, by go_num, Lib.hid (by
                have := HX.out
                (repeat (first | exact this | with_reducible refine psh.below_drewN ?_ _)))⟩
          · have hj : j = n := by omega
            subst hj
            go_wp2_with fail
            go_ret
            exact ⟨rfl, by
              have h1 := S.out.bel.1
              rw [← hp] at h1
              exact (below2 BB.out h1).trans (HX.out.mono (by have := (below2 BB.out h1).size; omega))⟩
end Go.Proofs.YtocljdbihcikhaaFmt.fnPushScopeForParsePassScriptModel
