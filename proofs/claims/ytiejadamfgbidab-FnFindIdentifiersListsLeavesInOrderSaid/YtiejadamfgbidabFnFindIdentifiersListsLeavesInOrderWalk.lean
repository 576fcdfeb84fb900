/- The walk of the law 'FnFindIdentifiersListsLeavesInOrder': it returns true and leaves what was there as it was. No conditions. -/
import Derived.Test.YtiejadamfgbidabFindH
import Derived.BigQuiet
namespace Go.Proofs.Ytiejadamfgbidab.fnFindIdentifiersListsLeavesInOrder
open Go.ChangeShapes Go.WideShapes Go.ChangeAt Go.RowKit Go.Mine find
set_option linter.unusedVariables false
set_option linter.unusedSimpArgs false
set_option maxRecDepth 100000

set_option maxHeartbeats 8000000 in
theorem walk (a0 : Option Addr) (len0 cap0 : Nat) (z0 : List Int) (a1 : Option Addr) (len1 cap1 : Nat) (z1 : List Int) (w : World) (w0 : IntRow .i32 w a0 len0 cap0 z0) (w1 : IntRow .u8 w a1 len1 cap1 z1) :
    Calls Try.prog 5 #[.slice a0 len0 cap0, .slice a1 len1 cap1] w fun e w' => e = .returned (.bool true) ∧ Below w.heap.size w w' := by
  obtain ⟨i0, hi, hz0, hz1, hz2⟩ := info_parts info61
  have hm0 : len0 ≤ maxLen := Nat.le_trans w0.2.1 w0.2.2.1
  have hm1 : len1 ≤ maxLen := Nat.le_trans w1.2.1 w1.2.2.1
  have m0 := hm0
  have m1 := hm1
  unfold maxLen at m0 m1
  have H0 := Lib.hid w0
  have H1 := Lib.hid w1
  clear w0 w1
  go_enter Try.func5, Try.ntmps5
  go_wp2_with fail
  refine (bytes20 _ _ _ _ _ _ _ hm0 hm1).mono ?_
  rintro e w' ⟨⟨r, rfl⟩, rfl⟩
  cases r with
  | false =>
    go_wp2_with fail
    go_ret
    exact ⟨rfl, Below.refl _ _⟩
  | true =>
    by_cases q0 : len0 ≤ 4096
    case neg =>
      go_wp2_with fail
      go_ret
      exact ⟨rfl, Below.refl _ _⟩
    by_cases q1 : len1 ≤ 4096
    case neg =>
      go_wp2_with fail
      go_ret
      exact ⟨rfl, Below.refl _ _⟩
    have F0 : Hid (find.Fd w.heap.size (.slice (some ⟨w.heap.size, 0, none⟩) 0 0) 0 [] [] (w.alloc (.cells #[] 61)) (.slice (some ⟨w.heap.size, 0, none⟩) 0 0) (w.alloc (.cells #[] 61))) :=
      find.Fd.refl (by simpa using World.ownsRow_made (size := 4) (base := w.heap.size) (e := 61) w #[] 0 (Nat.le_refl _) (Nat.zero_le _) (by simp))
    go_wp2_with fail
    go_loopw [30, 5] (fun i s wr => ∃ (K : List (Nat × Int)) (av : Option Addr) (cv : Nat), i = .int .i64 (K.length : Int) ∧ s = .slice av K.length cv ∧ K.length ≤ len0 ∧ Hid (∀ j, j < K.length → (K.getD j (0, 0)).2 = z0.getD j 0) ∧
      Hid (find.Fd w.heap.size (.slice (some ⟨w.heap.size, 0, none⟩) 0 0) 0 [] K (w.alloc (.cells #[] 61)) (.slice av K.length cv) wr)) (fun i _ _ => len0 - (intOf i).toNat)
    case atStart => exact ⟨[], _, _, rfl, rfl, Nat.zero_le _, fun j hj => by simp at hj, F0⟩
    case round =>
      obtain ⟨K, av, cv, rfl, rfl, hKl, hK, F⟩ := hrel
      clear F0
      have hsz := F.out.same.1
      rw [World.size_alloc] at hsz
      have hbw : Below w.heap.size w wr := ((Below.refl _ _).alloc (Nat.le_refl _) _).trans F.out.bel
      have HB := Lib.hid hbw
      clear hbw
      by_cases hlt : K.length < len0
      · obtain ⟨b, off, eb, hb, hc⟩ := (H0.out.below HB.out).at hlt
        have hbl := cell_lt hc
        have hbl1 := Nat.lt_succ_of_lt hbl
        subst eb
        have hnew := new_dec wr (.cells #[.int .u32 0, .int .u32 0] 55) (wr.heap.size, z0.getD K.length 0)
        unfold find.ptr at hnew
        have O := Lib.hid F.out.own
        generalize hz : z0.getD K.length 0 = zc at *
        go_wp2_with (first | (at_builtin; (refine wpList_append_own_at _ rfl _ _ 49 rfl w.heap.size 61 i0 (.agg #[.nilIface, .int .i32 0, .nilIface, .int .i32 0]) 4 48 Try.underlying49 hi hz0 hz1 hz2 rfl (by decide) _ _ _ rfl (((by simpa using O.out : wr.ownsRow w.heap.size 61 4 (.slice av K.length cv) K.length ([] ++ K.flatMap dec)).alloc _).alloc _) ⟨wr.heap.size + 1, 0, none⟩ 1 1 (dec (wr.heap.size, zc)) rfl rfl hnew (fun x hx => by simp [dec] at hx; rcases hx with rfl | rfl | rfl | rfl <;> rfl) (by unfold maxLen; omega) (by omega) (by simp; omega) ?_); intro v4 w4 hown4 hgrow4 hnil4 hat4; obtain ⟨a4, c4, rfl⟩ := own_form hown4; have F4 := Lib.hid (app_fd (by omega) (by simpa using O.out : wr.ownsRow w.heap.size 61 4 (.slice av K.length cv) K.length ([] ++ K.flatMap dec)) wr.heap.size zc hown4 hgrow4 hat4); clear hown4 hgrow4 hnil4 hat4))
        go_wp2_with fail
        go_roundw
        case rel =>
          refine ⟨K ++ [(wr.heap.size, zc)], a4, c4, by simp, by simp, by simp; omega, fun j hj => ?_, ?_⟩
          · by_cases e : j < K.length
            · have := hK.out j e
              simp [List.getD_eq_getElem?_getD, List.getElem?_append_left e] at this ⊢
              exact this
            · have e : j = K.length := by simp at hj; omega
              subst e
              have h : (List.getD (K ++ [(wr.heap.size, zc)]) K.length (0, 0)).2 = zc := by simp
              exact h.trans hz.symm
          · have h := F.out.trans (v2 := .slice a4 (K.length + 1) c4) (by simpa using F4.out)
            exact Lib.hid (by simpa using h)
        case measure => simp [intOf]; omega
      · have hKe : K.length = len0 := by omega
        clear hlt
        subst hKe
        have OK := Lib.hid (by simpa using F.out.own : wr.ownsRow w.heap.size 61 4 (.slice av K.length cv) K.length (K.flatMap dec))
        have D : Calls Try.prog 21 #[.slice a1 len1 cap1, .int .i64 0, .int .i32 0, .slice none 0 0] wr (Dec w.heap.size len1 0 (.slice none 0 0) 0 [] wr) :=
          dec21 w.heap.size w a1 len1 cap1 z1 (Nat.le_refl _) (fun w' hb => H1.out.below hb) q1 (len1 + 1) 0 (Nat.zero_le _) (by omega) (.slice none 0 0) 0 [] wr HB.out (by omega) (World.ownsRow_nil _ _ _ _) (by omega)
        have DH := Lib.hid D
        clear D
        go_wp2_with fail
        refine DH.out.mono ?_
        rintro e w2 ⟨S, T, p, l, ls, pos', a2, c2, rfl, hbt, hS, hnl, L, hp1, hp2, hcnt⟩
        have hcl : ls.length ≤ 4096 := by omega
        have LV := Lib.hid (by simpa using L.own : w2.ownsRow w.heap.size 21 1 (.slice a2 ls.length c2) ls.length (ls.map lv))
        have ZZ : Hid (∀ X, Below w2.heap.size w2 X → Calls Try.prog 22 #[.agg #[.iface T (.pointer (some ⟨p, 0, none⟩)), .int .i32 l], .slice av K.length cv] X fun e w4 => ∃ (a4 : Option Addr) (c4 : Nat), e = .returned (.slice a4 (K.length + ls.length) c4) ∧
            w4.ownsRow w.heap.size 61 4 (.slice a4 (K.length + ls.length) c4) (K.length + ls.length) ((K ++ ls).flatMap dec) ∧ w4.ownsRow w.heap.size 21 1 (.slice a2 ls.length c2) ls.length (ls.map lv) ∧ Below w.heap.size w w4) := fun X hX => by
          have h2 := L.same.1
          have h3 := hX.size
          have ow2 : w2.ownsRow w.heap.size 61 4 (.slice av K.length cv) K.length (K.flatMap dec) := own_same OK.out L.same (fun b hb hx => by simp [Value.ownBlock] at hx)
          have owX := own_below ow2 hX
          have lvX := own_below LV.out hX
          have hav : ∀ b, (Value.slice av K.length cv).ownBlock = some b → b < wr.heap.size := fun b hb => (OK.out.lt b hb).2
          refine (zz22 (by omega) (fun o => find40 w.heap.size S hbt (X.alloc o) _ K.length (K.flatMap dec) (fun b hb => ?_) (by simp; omega) (owX.alloc o) (fun b hb hs => ?_) (fun b hb => ?_) (by omega))).mono ?_
          · have := (hS b hb).2
            rw [Below.heap_alloc _ _ _ (by omega)]
            exact hX.block b this
          · have := hav b hb; have := (hS b hs).1; omega
          · have := (hS b hb).2; simp; omega
          · rintro e w4 ⟨v4, rfl, h4⟩
            obtain ⟨a4, c4, rfl⟩ := own_form h4.own
            refine ⟨a4, c4, rfl, by simpa using h4.own, own_same lvX h4.same (fun b hb hx => ?_), ?_⟩
            · rcases L.blk b (by simpa using hb) with e | e
              · simp [Value.ownBlock] at e
              · have := hav b hx; omega
            · exact ((HB.out.trans L.bel).trans (hX.mono (by omega))).trans h4.bel
        clear hbt hS hnl L hp1 hp2 hcnt DH
        simp only [Nat.zero_add]
        go_wp2_with fail
        refine (ZZ.out _ ?_).mono ?_
        · repeat (first | with_reducible exact Below.refl _ _ | with_reducible refine Below.drew ?_ | with_reducible refine Below.alloc ?_ (by simp <;> omega) _ | with_reducible refine Below.setCell ?_ (by simp <;> omega) _)
        rintro e w4 ⟨a4, c4, rfl, hout, hlv, hb4⟩
        have OUT := Lib.hid hout
        have LVS := Lib.hid hlv
        have B4 := Lib.hid hb4
        have hs4 := hb4.size
        clear hout hlv hb4 ZZ LV
        obtain ⟨wo, rfl⟩ : ∃ wo : World, wo = wr := ⟨_, rfl⟩
        have hle : ((K.length + ls.length : Nat) : Int) = (K.length : Int) + (ls.length : Int) := by omega
        go_wp2_with fail
        go_loopw [12] (fun i wr => ∃ k : Nat, k ≤ K.length ∧ i = .int .i64 k ∧ Hid (Below w4.heap.size w4 wr)) (fun i _ => K.length - (intOf i).toNat)
        case atStart => exact ⟨0, Nat.zero_le _, rfl, Below.refl _ _⟩
        case round =>
          obtain ⟨k, hk, rfl, hbk⟩ := hrel
          have HBK : Hid (Below w.heap.size w wr) := B4.out.trans (hbk.out.mono hs4)
          by_cases hlt : k < K.length
          · obtain ⟨g, x, rfl, hx, hg, c0, c1, c2', c3⟩ := out_at (own_below OUT.out hbk.out) (by simp) (i := k) (by omega)
            obtain ⟨b, off, eb, hb, hc⟩ := (H0.out.below HBK.out).at hlt
            have hbl := cell_lt hc
            subst eb
            have hv : x.2 = z0.getD k 0 := by
              rw [← hK.out k hlt]
              rw [List.getElem?_append_left hlt] at hx
              simp [List.getD_eq_getElem?_getD, hx]
            rw [hv] at c1
            clear hx hv hb
            generalize z0.getD k 0 = zc at *
            go_wp2_with fail
            go_quiet (fail)
            go_wp2_with fail
            go_roundw
            case rel => exact ⟨k + 1, by omega, by go_num, Lib.hid (below_drewN hbk.out _)⟩
            case measure => simp [intOf]; omega
          · have he : k = K.length := by omega
            subst he
            clear hlt
            obtain ⟨wo2, rfl⟩ : ∃ wo2 : World, wo2 = wr := ⟨_, rfl⟩
            go_wp2_with fail
            go_loopw [13] (fun i wr => ∃ k : Nat, k ≤ ls.length ∧ i = .int .i64 k ∧ Hid (Below w4.heap.size w4 wr)) (fun i _ => ls.length - (intOf i).toNat)
            case atStart => exact ⟨0, Nat.zero_le _, rfl, hbk⟩
            case round =>
              obtain ⟨k2, hk2, rfl, hbk2⟩ := hrel
              have HBK2 : Hid (Below w.heap.size w wr) := B4.out.trans (hbk2.out.mono hs4)
              clear HBK hbk
              by_cases hlt : k2 < ls.length
              · obtain ⟨g, x, rfl, hx, hg, c0, c1, c2', c3⟩ := out_at (own_below OUT.out hbk2.out) (by simp) (i := K.length + k2) (by omega)
                obtain ⟨gl, y, rfl, hy, hgl, d0⟩ := leaf_at (own_below LVS.out hbk2.out) rfl hlt
                rw [List.getElem?_append_right (by omega), Nat.add_sub_cancel_left, hy] at hx
                obtain rfl : y = x := by simpa using hx
                have j0 : (0 : Int) ≤ (K.length : Int) + (k2 : Int) := by omega
                have j1 : (K.length : Int) + (k2 : Int) < (K.length : Int) + (ls.length : Int) := by omega
                have j2 : ((K.length : Int) + (k2 : Int)).toNat = K.length + k2 := by omega
                have hgl1 := Nat.lt_succ_of_lt hgl
                have hs : w4.heap.size ≤ wr.heap.size := hbk2.out.size
                clear hx hy
                obtain ⟨yp, yl⟩ := y
                simp only at c0 c1 d0
                go_wp2_with fail
                go_quiet (fail)
                go_wp2_with fail
                go_roundw
                case rel => exact ⟨k2 + 1, by omega, by go_num, Lib.hid (below_drewN (hbk2.out.alloc hs _) _)⟩
                case measure => simp [intOf]; omega
              · have he : k2 = ls.length := by omega
                subst he
                clear hlt
                go_wp2_with fail
                go_ret
                exact ⟨rfl, HBK2.out⟩
end Go.Proofs.Ytiejadamfgbidab.fnFindIdentifiersListsLeavesInOrder
