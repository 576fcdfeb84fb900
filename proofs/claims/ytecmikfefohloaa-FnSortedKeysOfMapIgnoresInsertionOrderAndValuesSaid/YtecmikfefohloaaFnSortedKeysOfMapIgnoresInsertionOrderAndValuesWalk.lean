/- The walk of the law 'FnSortedKeysOfMapIgnoresInsertionOrderAndValues': it returns true and leaves what was there as it was. No conditions. -/
import Derived.Test.YtecmikfefohloaaSrtD
import Derived.Test.YtecmikfefohloaaClones
namespace Go.Proofs.Ytecmikfefohloaa.fnSortedKeysOfMapIgnoresInsertionOrderAndValues
open Go.ChangeShapes Go.WideShapes Go.ChangeAt Go.RowKit Go.Mine Go.Maps Go.Sort srt
set_option linter.unusedVariables false
set_option linter.unusedSimpArgs false
set_option maxRecDepth 100000

theorem key_of (s : ByteArray) (hs : s.size ≤ maxLen) : keyOf Try.prog 9 (.string s) = some (.string (bs s)) := WideMaps.keyOf_string_mk Try.underlying9 hs
theorem ms_sorted {s : List (List UInt8)} (x : List UInt8) : x ∈ s.mergeSort (fun x y => decide (x ≤ y)) ↔ x ∈ s := List.mem_mergeSort
def Row (zs : List (List UInt8)) (k : Nat) (x : List UInt8) : Prop := ∃ j, j < k ∧ zs[j]? = some x
theorem row_succ {zs : List (List UInt8)} {k : Nat} {y : List UInt8} (hy : zs[k]? = some y) (x : List UInt8) : (x = y ∨ Row zs k x) ↔ Row zs (k + 1) x := by
  constructor
  · rintro (rfl | ⟨j, hj, h⟩)
    · exact ⟨k, by omega, hy⟩
    · exact ⟨j, by omega, h⟩
  · rintro ⟨j, hj, h⟩
    by_cases e : j = k
    · subst e; rw [hy] at h; exact .inl (Option.some.inj h).symm
    · exact .inr ⟨j, by omega, h⟩
theorem row_all (zs : List (List UInt8)) (x : List UInt8) : Row zs zs.length x ↔ x ∈ zs := by
  constructor
  · rintro ⟨j, hj, h⟩; exact List.mem_of_getElem? h
  · intro h
    obtain ⟨j, hj, e⟩ := List.getElem_of_mem h
    exact ⟨j, hj, by simp [hj, e]⟩
set_option maxHeartbeats 8000000 in
theorem walk (a0 : Option Addr) (len0 cap0 : Nat) (z0 : List ByteArray) (w : World) (w0 : StrRow w a0 len0 cap0 z0) :
    Calls Try.prog 3 #[.slice a0 len0 cap0] w fun e w' => e = .returned (.bool true) ∧ Below w.heap.size w w' := by
  have BY := Lib.hid (bytesS a0 len0 cap0 z0 w w0)
  have hmx : len0 ≤ 9223372036854775807 := by have := w0.2.1; have := w0.2.2.1; unfold maxLen at this; omega
  have H0 := Lib.hid w0
  clear w0
  go_enter Try.func3, Try.ntmps3
  go_wp2_with fail
  refine BY.out.mono ?_
  rintro e w' ⟨⟨rb, rfl, hrb⟩, rfl⟩
  cases rb with
  | false =>
    go_wp2_with fail
    go_ret
    exact ⟨rfl, Below.refl _ _⟩
  | true =>
    have S0 := Lib.hid (hrb rfl)
    clear hrb BY
    by_cases q1 : len0 ≤ 65536
    case neg =>
      go_wp2_with fail
      go_ret
      exact ⟨rfl, Below.refl _ _⟩
    go_wp2_with fail
    refine (totalS a0 len0 cap0 z0 w H0.out (by omega) S0.out).mono ?_
    rintro e w' ⟨⟨n, hn, rfl⟩, rfl⟩
    by_cases q2 : n ≤ 1048576
    case neg =>
      go_wp2_with fail
      go_ret
      exact ⟨rfl, Below.refl _ _⟩
    go_wp2_with fail
    refine (clone6 a0 len0 cap0 z0 w H0.out (by omega)).mono ?_
    rintro e wa ⟨k1, rfl, r1, _, _, hb⟩
    have R1 := Lib.hid r1
    have Ba := Lib.hid hb
    clear r1 hb H0
    have hmm := fun (w : World) (n : Int) => makeMap_hint w .i64 n
    have M0 : Hid (MapIs (wa.alloc (.map #[] 0)) wa.heap.size 0 (Fst z0 0) ∧ Below wa.heap.size wa (wa.alloc (.map #[] 0))) := ⟨(MapIs.new wa).congr (fun x => ⟨fun h => h.elim, fun ⟨j, hj, _⟩ => by omega⟩), (Below.refl _ _).alloc (Nat.le_refl _) _⟩
    go_wp2_with fail
    go_loopw [4] (fun i wr => ∃ k : Nat, k ≤ len0 ∧ i = .int .i64 (k : Int) ∧ Hid (MapIs wr wa.heap.size k (Fst z0 k) ∧ Below wa.heap.size wa wr)) (fun i _ => len0 - (intOf i).toNat)
    case atStart => exact ⟨0, Nat.zero_le _, rfl, M0⟩
    case round =>
      obtain ⟨k, hk, rfl, RL⟩ := hrel
      clear M0
      by_cases hlt : k < len0
      · obtain ⟨b, off, ea, hbl, hc⟩ := (R1.out.below RL.out.2).at hlt
        subst ea
        obtain ⟨D, hown, hhas⟩ := RL.out.1
        have HO := Lib.hid hown
        have hsz : (z0.getD k ByteArray.empty).size ≤ maxLen := by have := S0.out k hlt; unfold maxLen; omega
        have KY := Lib.hid (key_of _ hsz)
        have NX := Lib.hid fun (w1 : World) (d : DataW Unit) (h : w1.ownsMap Try.prog 9 R0 wa.heap.size (k + 1) (D.put (.string (bs (z0.getD k ByteArray.empty))) d)) (hg : wr.grownBy w1 (some wa.heap.size)) =>
          (show MapIs w1 wa.heap.size (k + 1) (Fst z0 (k + 1)) ∧ Below wa.heap.size wa w1 from ⟨(mapIs_put HO.out hhas _ d h).congr (fst_succ z0 k), RL.out.2.grown hg RL.out.2.size (fun j hj => by cases hj; exact Nat.le_refl _)⟩)
        generalize z0.getD k ByteArray.empty = s at *
        clear hown hhas hsz
        go_wp2_with (first | (at_mapUpdate; refine wpList_mapUpdate_own _ rfl _ _ _ 26 rfl 9 33 lawS Try.underlying26 _ wa.heap.size k _ rfl HO.out (by unfold maxLen; omega) _ _ _ rfl rfl KY.out _ [] rfl ?_; intro w1 hown1 hgrow1; have N1 := Lib.hid (NX.out w1 _ hown1 hgrow1); clear hown1 hgrow1))
        go_roundw
        case rel => exact ⟨k + 1, by omega, by go_num, N1⟩
        case measure => simp [intOf]; omega
      · obtain rfl : k = len0 := by omega
        clear hlt
        obtain ⟨wb, rfl⟩ : ∃ wb : World, wb = wr := ⟨_, rfl⟩
        have M1 : Hid (MapIs (wb.alloc (.map #[] 0)) wb.heap.size (k - k) (Lst z0 k k) ∧ Below wb.heap.size wb (wb.alloc (.map #[] 0))) := by
          rw [Nat.sub_self]
          exact ⟨(MapIs.new wb).congr (fun x => ⟨fun h => h.elim, fun ⟨j, hj, hl, _⟩ => by omega⟩), (Below.refl _ _).alloc (Nat.le_refl _) _⟩
        go_wp2_with fail
        go_loopw [6] (fun i wr => ∃ q : Nat, q ≤ k ∧ i = .int .i64 ((q : Int) - 1) ∧ Hid (MapIs wr wb.heap.size (k - q) (Lst z0 k q) ∧ Below wb.heap.size wb wr)) (fun i _ => (intOf i + 1).toNat)
        case atStart => exact ⟨k, Nat.le_refl _, by go_num, M1⟩
        case round =>
          obtain ⟨q, hq, rfl, RM⟩ := hrel
          clear M1
          by_cases hlt : 0 < q
          · obtain ⟨j, rfl⟩ : ∃ j, q = j + 1 := ⟨q - 1, by omega⟩
            have ej : (((j + 1 : Nat) : Int) - 1) = (j : Int) := by omega
            rw [ej]
            obtain ⟨b, off, ea, hbl, hc⟩ := ((R1.out.below RL.out.2).below RM.out.2).at (i := j) (by omega)
            subst ea
            obtain ⟨D, hown, hhas⟩ := RM.out.1
            have HO := Lib.hid hown
            have hsz : (z0.getD j ByteArray.empty).size ≤ maxLen := by have := S0.out j (by omega); unfold maxLen; omega
            have KY := Lib.hid (key_of _ hsz)
            have NX := Lib.hid fun (w1 : World) (d : DataW Unit) (h : w1.ownsMap Try.prog 9 R0 wb.heap.size (k - (j + 1) + 1) (D.put (.string (bs (z0.getD j ByteArray.empty))) d)) (hg : wr.grownBy w1 (some wb.heap.size)) =>
              (show MapIs w1 wb.heap.size (k - j) (Lst z0 k j) ∧ Below wb.heap.size wb w1 from ⟨by
                have h := (mapIs_put HO.out hhas _ d h).congr (lst_pred z0 k j (by omega))
                rwa [show k - (j + 1) + 1 = k - j by omega] at h, RM.out.2.grown hg RM.out.2.size (fun j hj => by cases hj; exact Nat.le_refl _)⟩)
            generalize z0.getD j ByteArray.empty = s at *
            clear hown hhas hsz ej
            have hjk : j < k := by omega
            go_wp2_with (first | (at_mapUpdate; refine wpList_mapUpdate_own _ rfl _ _ _ 26 rfl 9 33 lawS Try.underlying26 _ wb.heap.size (k - (j + 1)) _ rfl HO.out (by unfold maxLen; omega) _ _ _ rfl rfl KY.out _ [] rfl ?_; intro w1 hown1 hgrow1; have N1 := Lib.hid (NX.out w1 _ hown1 hgrow1); clear hown1 hgrow1))
            go_roundw
            case rel => exact ⟨j, by omega, by go_num, N1⟩
            case measure => simp [intOf]
          · obtain rfl : q = 0 := by omega
            clear hlt
            obtain ⟨wc, rfl⟩ : ∃ wc : World, wc = wr := ⟨_, rfl⟩
            have e0 : (((0 : Nat) : Int) - 1) = -1 := by omega
            rw [e0]
            clear e0
            have FW := Lib.hid (RL.out.1.below RM.out.2)
            have BW := Lib.hid (RM.out.1.congr (lst_fst z0 k))
            have Bc := Lib.hid (below2 (below2 Ba.out RL.out.2) RM.out.2)
            go_wp2_with fail
            refine (sortedZ FW.out (by omega)).mono ?_
            rintro e wd ⟨g1, c1, s1, rfl, hk1, hl1, hr1, hb1⟩
            have BWd := Lib.hid (BW.out.below hb1)
            have Bd := Lib.hid (below2 Bc.out hb1)
            have RR1 := Lib.hid hr1
            have HK1 := Lib.hid hk1
            clear hb1 hr1 hk1 FW BW Bc
            go_wp2_with fail
            refine (sortedZ BWd.out (by omega)).mono ?_
            rintro e we ⟨g2, c2, s2, rfl, hk2, hl2, hr2, hb2⟩
            obtain ⟨es, el⟩ := same_sorted HK1.out hk2
            have Be := Lib.hid (below2 Bd.out hb2)
            have RR1e := Lib.hid (RR1.out.below hb2)
            rw [← el, ← es] at hr2
            have RR2 := Lib.hid hr2
            rw [← el]
            clear hb2 hr2 hk2 hl2 es el BWd Bd RR1
            go_wp2_with fail
            refine (sameS wc.heap.size wd.heap.size g1 g2 c1 c2 s1.length _ we RR1e.out RR2.out (by omega)).mono ?_
            rintro e w' ⟨rfl, m, rfl⟩
            obtain ⟨srt, hsrt⟩ : ∃ l, l = s1.mergeSort (fun x y => decide (x ≤ y)) := ⟨_, rfl⟩
            rw [← hsrt] at RR1e
            have HSR := Lib.hid hsrt
            clear hsrt RR2
            have M2 : Hid (MapIs ((we.alloc (.map #[] 0)).drewN m) we.heap.size 0 (Row srt 0) ∧ Below we.heap.size we ((we.alloc (.map #[] 0)).drewN m)) :=
              ⟨((MapIs.new we).congr (fun x => ⟨fun h => h.elim, fun ⟨j, hj, _⟩ => by omega⟩)).drewN m, below_drewN ((Below.refl _ _).alloc (Nat.le_refl _) _) m⟩
            obtain ⟨ln, hln⟩ : ∃ n, n = s1.length := ⟨_, rfl⟩
            have HLN := Lib.hid hln
            rw [← hln] at RR1e hl1
            rw [← hln]
            clear hln
            go_wp2_with fail
            go_loopw [10] (fun i wr => ∃ q : Nat, q ≤ ln ∧ i = .int .i64 (q : Int) ∧ Hid (MapIs wr we.heap.size q (Row srt q) ∧ Below we.heap.size we wr)) (fun i _ => ln - (intOf i).toNat)
            case atStart => exact ⟨0, Nat.zero_le _, rfl, M2⟩
            case round =>
              obtain ⟨q, hq, rfl, RN⟩ := hrel
              clear M2
              by_cases hlt : q < ln
              · obtain ⟨hg1, x, hx, hc⟩ := (RR1e.out.below RN.out.2).at hlt
                have hxm : x ∈ s1 := by
                  have : x ∈ srt := List.mem_of_getElem? hx
                  rw [HSR.out] at this
                  exact (ms_sorted x).1 this
                obtain ⟨j, hj, ej⟩ := (HK1.out.2 x).1 hxm
                have hsz : (⟨x.toArray⟩ : ByteArray).size ≤ maxLen := by
                  have h1 := S0.out j hj
                  have h2 : x.length = (z0.getD j ByteArray.empty).size := by rw [← ej]; rfl
                  show x.toArray.size ≤ maxLen
                  rw [List.size_toArray]
                  unfold maxLen
                  omega
                have eb : bs ⟨x.toArray⟩ = x := by simp [bs]
                obtain ⟨D, hown, hhas⟩ := RN.out.1
                have HO := Lib.hid hown
                have KY := Lib.hid (key_of _ hsz)
                have NX := Lib.hid fun (w1 : World) (d : DataW Unit) (h : w1.ownsMap Try.prog 9 R0 we.heap.size (q + 1) (D.put (.string (bs ⟨x.toArray⟩)) d)) (hg : wr.grownBy w1 (some we.heap.size)) =>
                  (show MapIs w1 we.heap.size (q + 1) (Row srt (q + 1)) ∧ Below we.heap.size we w1 from ⟨by
                    rw [eb] at h
                    exact (mapIs_put HO.out hhas _ d h).congr (row_succ hx), RN.out.2.grown hg RN.out.2.size (fun j hj => by cases hj; exact Nat.le_refl _)⟩)
                generalize (⟨x.toArray⟩ : ByteArray) = s at *
                clear hown hhas hsz hx hxm eb ej hj
                go_wp2_with (first | (at_mapUpdate; refine wpList_mapUpdate_own _ rfl _ _ _ 26 rfl 9 33 lawS Try.underlying26 _ we.heap.size q _ rfl HO.out (by unfold maxLen; omega) _ _ _ rfl rfl KY.out _ [] rfl ?_; intro w1 hown1 hgrow1; have N1 := Lib.hid (NX.out w1 _ hown1 hgrow1); clear hown1 hgrow1))
                go_roundw
                case rel => exact ⟨q + 1, by omega, by go_num, N1⟩
                case measure => simp [intOf]; omega
              · obtain rfl : q = ln := by omega
                clear hlt
                obtain ⟨wf, rfl⟩ : ∃ wf : World, wf = wr := ⟨_, rfl⟩
                have AG := Lib.hid RN.out.1
                have RA := Lib.hid (RR1e.out.below RN.out.2)
                have Bf := Lib.hid (below2 Be.out RN.out.2)
                go_wp2_with fail
                refine (sortedZ AG.out (by omega)).mono ?_
                rintro e wg ⟨g3, c3, s3, rfl, hk3, hl3, hr3, hb3⟩
                have hk1' : s1.Nodup ∧ ∀ x, x ∈ s1 ↔ Row srt q x := ⟨HK1.out.1, fun x => by
                  have e : q = srt.length := RA.out.1.symm
                  rw [e, row_all, HSR.out, ms_sorted]⟩
                obtain ⟨es, el⟩ := same_sorted hk1' hk3
                rw [← el, ← es, ← HSR.out, ← HLN.out] at hr3
                have RR3 := Lib.hid hr3
                have RAg := Lib.hid (RA.out.below hb3)
                have Bg := Lib.hid (below2 Bf.out hb3)
                rw [← el, ← HLN.out]
                clear hr3 hk3 hk1' es el hb3 hl3
                go_wp2_with fail
                refine (sameS wc.heap.size wf.heap.size g1 g3 c1 c3 q srt wg RAg.out RR3.out (by omega)).mono ?_
                rintro e w' ⟨rfl, m', rfl⟩
                go_wp2_with fail
                go_ret
                exact ⟨rfl, below_drewN Bg.out _⟩
end Go.Proofs.Ytecmikfefohloaa.fnSortedKeysOfMapIgnoresInsertionOrderAndValues
