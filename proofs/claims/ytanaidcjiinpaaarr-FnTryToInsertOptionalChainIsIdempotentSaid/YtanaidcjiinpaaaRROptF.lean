/- The contract of 'TryToInsertOptionalChain' on two chains. No conditions beyond the hypotheses. -/
import Derived.Test.YtanaidcjiinpaaaRROptE
import Derived.Deep.RegionWith
namespace Go.Proofs.YtanaidcjiinpaaaRR.opt
open Go.ChangeShapes Go.WideShapes Go.ChangeAt Go.RowKit Go.Mine
set_option linter.unusedVariables false
set_option linter.unusedSimpArgs false
set_option maxRecDepth 100000

/-- The world behind the call's two boxes. -/
def bx (w : World) (TA pA : Nat) (l1 : Int) (TB pB : Nat) (l2 : Int) : World := (w.alloc (.cells #[.iface TA (.pointer (some ⟨pA, 0, none⟩)), .int .i32 l1] 34)).alloc (.cells #[.iface TB (.pointer (some ⟨pB, 0, none⟩)), .int .i32 l2] 34)
theorem bx_below (w : World) (TA pA : Nat) (l1 : Int) (TB pB : Nat) (l2 : Int) : Below w.heap.size w (bx w TA pA l1 TB pB l2) := ((Below.refl _ _).alloc (Nat.le_refl _) _).alloc (by simp) _
def Try9 (ra rb : Int) (p0 q0 lo lo2 : Nat) (A B : List Nd) : Prop := ∀ (w : World) (l1 l2 : Int), rep w lo p0 ra A → rep w lo2 q0 rb B → lo2 ≤ w.heap.size →
  Calls Try.prog 9 #[.agg #[ifp (ty A) (pl p0 A), .int .i32 l1], .agg #[ifp (ty B) (pl q0 B), .int .i32 l2]] w (Tti ra rb A B lo2 q0 w)
theorem try_id (ra rb : Int) (p0 q0 lo lo2 : Nat) (A : List Nd) : Try9 ra rb p0 q0 lo lo2 A [] := by
  intro w l1 l2 hA hB hl
  have E : Hid (∀ w', Below w.heap.size w w' → Tti ra rb A [] lo2 q0 w (.returned (.bool false)) w') := fun w' hb => ⟨rfl, hB.below hb, Same.of_below hb, hb.mono hl⟩
  clear hA hB hl
  show Calls _ _ #[.agg #[ifp (ty A) (pl p0 A), .int .i32 l1], .agg #[ifp 47 q0, .int .i32 l2]] w _
  generalize ty A = TA
  generalize pl p0 A = pA
  unfold ifp
  go_enter Try.func9, Try.ntmps9
  go_wp2_with fail
  go_ret
  exact E.out _ (bx_below w TA pA l1 47 q0 l2)
set_option maxHeartbeats 4000000 in
theorem try_0 (ra rb : Int) (p0 q0 lo lo2 : Nat) (A : List Nd) (n : Nd) (B : List Nd) (hlt : pl p0 A < lo2) (hk : n.k = 0) (IH : Try9 ra rb p0 q0 lo lo2 A B) : Try9 ra rb p0 q0 lo lo2 A (n :: B) := by
  intro w l1 l2 hA hB hl
  have hn := hB.1
  have hnl := hn.lt
  have cells : w.cell? ⟨n.p, 0, none⟩ = some (ifp (ty B) (pl q0 B)) ∧ w.cell? ⟨n.p, 1, none⟩ = some (.int .i32 0) ∧ w.cell? ⟨n.p, 4, none⟩ = some (.int .u8 n.fl) ∧ w.frozen? ⟨n.p, 4, none⟩ = false := by
    obtain ⟨_, _, h⟩ := hn
    rcases h with ⟨e, b⟩ | ⟨e, q, R, c, C, _, _, _, _, _, _, b, _, _, _⟩ | ⟨e, b⟩
    all_goals first
      | (exfalso; omega)
      | exact ⟨b.cell 0, b.cell 1, b.cell 4, b.free 4⟩
  have hoff : off n = 4 := by unfold off; split <;> omega
  have hnot : ∀ X w2, Below w.heap.size w X → Same (In B) X w2 → w2.cell? ⟨n.p, 4, none⟩ = some (.int .u8 n.fl) ∧ w2.frozen? ⟨n.p, 4, none⟩ = false ∧ n.p < w2.heap.size := fun X w2 hb hs => by
    have e : w2.heap[n.p]? = w.heap[n.p]? := (hs.2 n.p (by have := hb.size; omega) (fun hi => by have := (In.lt hB.2 _ hi).2; have := hB.1.2.1; omega)).trans (hb.block _ hnl)
    refine ⟨(cell_of_block e _).trans cells.2.2.1, ?_, by have := hs.1; have := hb.size; omega⟩
    have := cells.2.2.2
    unfold World.frozen? at this ⊢
    rw [e]
    exact this
  have VL := Lib.hid fun (W : World) (hb : Below w.heap.size w W) (m : Nat) => vls ra rb p0 q0 lo lo2 A B (W.drewN m) ((hA.below hb).drewN m) ((hB.2.below hb).drewN m)
  have RC := Lib.hid fun (W : World) (l : Int) (hb : Below w.heap.size w W) => IH W l1 l (hA.below hb) (hB.2.below hb) (Nat.le_trans hl hb.size)
  have PH := Lib.hid fun (X : World) (hb : Below w.heap.size w X) (hv : vl ra rb A B = true) => post_hit (A := A) (ra := ra) hB hb hv
  have PR := Lib.hid fun (X w2 : World) (hb : Below w.heap.size w X) (hv : vl ra rb A B = false) (ht : (ins ra rb A B).1 = true) (hr2 : rep w2 lo2 q0 rb (ins ra rb A B).2) (hs2 : Same (In B) X w2) (hb2 : Below lo2 X w2) => post_rec hB hb hv ht hr2 hs2 hb2
  have PN := Lib.hid fun (X w2 : World) (hb : Below w.heap.size w X) (hv : vl ra rb A B = false) (ht : (ins ra rb A B).1 = false) (hr2 : rep w2 lo2 q0 rb (ins ra rb A B).2) (hs2 : Same (In B) X w2) (hb2 : Below lo2 X w2) => post_no hB hb hv ht hr2 hs2 hb2
  have NT := Lib.hid hnot
  have HO := Lib.hid hoff
  obtain ⟨c0, c1, c4, f4⟩ := cells
  rw [hoff] at PH PR
  show Calls _ _ #[.agg #[ifp (ty A) (pl p0 A), .int .i32 l1], .agg #[ifp (ty (n :: B)) n.p, .int .i32 l2]] w _
  rw [ty0 hk]
  unfold Tti at RC
  clear hnot hoff hn hA hB hlt IH hk hl
  generalize ty A = TA at *
  generalize pl p0 A = pA at *
  generalize ty B = TB at *
  generalize pl q0 B = pB at *
  unfold ifp at *
  have hnl1 := Nat.lt_succ_of_lt hnl
  have hnl2 := Nat.lt_succ_of_lt hnl1
  cases hv : vl ra rb A B with
  | true =>
    have HV := Lib.hid hv
    have V := Lib.hid (VL.out _ (bx_below w TA pA l1 42 n.p l2))
    rw [hv] at V
    unfold bx at V
    clear hv VL RC PR PN NT
    go_enter Try.func9, Try.ntmps9
    go_wp2_with fail
    go_quiet ((go_at_call 13; exact Calls.quiet_of (V.out _)))
    go_wp2_with fail
    go_ret
    exact PH.out _ (below2 (bx_below w TA pA l1 42 n.p l2) (below_drewN' _)) HV.out
  | false =>
    have HV := Lib.hid hv
    have V := Lib.hid (VL.out _ (bx_below w TA pA l1 42 n.p l2))
    rw [hv] at V
    unfold bx at V
    clear hv VL PH
    cases ht : (ins ra rb A B).1 with
    | true =>
      have HT := Lib.hid ht
      have R := Lib.hid fun (m : Nat) => RC.out ((bx w TA pA l1 42 n.p l2).drewN m) 0 (below2 (bx_below w TA pA l1 42 n.p l2) (below_drewN' m))
      rw [ht] at R
      unfold bx at R
      clear ht RC PN
      go_enter Try.func9, Try.ntmps9
      go_wp2_with fail
      go_quiet ((go_at_call 13; exact Calls.quiet_of (V.out _)))
      go_wp2_with fail
      go_region_with (first | (go_at_call 9; (with_reducible refine (R.out _).mono ?_); rintro e w2 ⟨rfl, hr2, hs2, hb2⟩; have HR2 := Lib.hid hr2; have HS2 := Lib.hid hs2; have HB2 := Lib.hid hb2; clear hr2 hs2 hb2))
      all_goals
        obtain ⟨k1, k2, k3⟩ := NT.out _ w2 (below2 (bx_below w TA pA l1 42 n.p l2) (below_drewN' _)) HS2.out
        by_cases h0 : n.fl = 0
        · have P := Lib.hid ((PR.out _ w2 (below2 (bx_below w TA pA l1 42 n.p l2) (below_drewN' _)) HV.out HT.out HR2.out HS2.out HB2.out).1 h0)
          rw [h0] at k1
          clear h0
          go_wp2_with fail
          go_ret
          exact P.out
        · have P := Lib.hid ((PR.out _ w2 (below2 (bx_below w TA pA l1 42 n.p l2) (below_drewN' _)) HV.out HT.out HR2.out HS2.out HB2.out).2 h0)
          have h1 : (n.fl == 0) = false := by simpa using h0
          clear h0
          go_wp2_with fail
          go_ret
          exact P.out
    | false =>
      have HT := Lib.hid ht
      have R := Lib.hid fun (m : Nat) => RC.out ((bx w TA pA l1 42 n.p l2).drewN m) 0 (below2 (bx_below w TA pA l1 42 n.p l2) (below_drewN' m))
      rw [ht] at R
      unfold bx at R
      clear ht RC PR NT
      go_enter Try.func9, Try.ntmps9
      go_wp2_with fail
      go_quiet ((go_at_call 13; exact Calls.quiet_of (V.out _)))
      go_wp2_with fail
      go_region_with (first | (go_at_call 9; (with_reducible refine (R.out _).mono ?_); rintro e w2 ⟨rfl, hr2, hs2, hb2⟩; have HR2 := Lib.hid hr2; have HS2 := Lib.hid hs2; have HB2 := Lib.hid hb2; clear hr2 hs2 hb2))
      all_goals
        have P := Lib.hid (PN.out _ w2 (below2 (bx_below w TA pA l1 42 n.p l2) (below_drewN' _)) HV.out HT.out HR2.out HS2.out HB2.out)
        go_wp2_with fail
        go_ret
        exact P.out
set_option maxHeartbeats 4000000 in
theorem try_1 (ra rb : Int) (p0 q0 lo lo2 : Nat) (A : List Nd) (n : Nd) (B : List Nd) (hlt : pl p0 A < lo2) (hk : n.k = 1) (IH : Try9 ra rb p0 q0 lo lo2 A B) : Try9 ra rb p0 q0 lo lo2 A (n :: B) := by
  intro w l1 l2 hA hB hl
  have hn := hB.1
  have hnl := hn.lt
  have cells : w.cell? ⟨n.p, 0, none⟩ = some (ifp (ty B) (pl q0 B)) ∧ w.cell? ⟨n.p, 1, none⟩ = some (.int .i32 0) ∧ w.cell? ⟨n.p, 5, none⟩ = some (.int .u8 n.fl) ∧ w.frozen? ⟨n.p, 5, none⟩ = false := by
    obtain ⟨_, _, h⟩ := hn
    rcases h with ⟨e, b⟩ | ⟨e, q, R, c, C, _, _, _, _, _, _, b, _, _, _⟩ | ⟨e, b⟩
    all_goals first
      | (exfalso; omega)
      | exact ⟨b.cell 0, b.cell 1, b.cell 5, b.free 5⟩
  have hoff : off n = 5 := by unfold off; split <;> omega
  have hnot : ∀ X w2, Below w.heap.size w X → Same (In B) X w2 → w2.cell? ⟨n.p, 5, none⟩ = some (.int .u8 n.fl) ∧ w2.frozen? ⟨n.p, 5, none⟩ = false ∧ n.p < w2.heap.size := fun X w2 hb hs => by
    have e : w2.heap[n.p]? = w.heap[n.p]? := (hs.2 n.p (by have := hb.size; omega) (fun hi => by have := (In.lt hB.2 _ hi).2; have := hB.1.2.1; omega)).trans (hb.block _ hnl)
    refine ⟨(cell_of_block e _).trans cells.2.2.1, ?_, by have := hs.1; have := hb.size; omega⟩
    have := cells.2.2.2
    unfold World.frozen? at this ⊢
    rw [e]
    exact this
  have VL := Lib.hid fun (W : World) (hb : Below w.heap.size w W) (m : Nat) => vls ra rb p0 q0 lo lo2 A B (W.drewN m) ((hA.below hb).drewN m) ((hB.2.below hb).drewN m)
  have RC := Lib.hid fun (W : World) (l : Int) (hb : Below w.heap.size w W) => IH W l1 l (hA.below hb) (hB.2.below hb) (Nat.le_trans hl hb.size)
  have PH := Lib.hid fun (X : World) (hb : Below w.heap.size w X) (hv : vl ra rb A B = true) => post_hit (A := A) (ra := ra) hB hb hv
  have PR := Lib.hid fun (X w2 : World) (hb : Below w.heap.size w X) (hv : vl ra rb A B = false) (ht : (ins ra rb A B).1 = true) (hr2 : rep w2 lo2 q0 rb (ins ra rb A B).2) (hs2 : Same (In B) X w2) (hb2 : Below lo2 X w2) => post_rec hB hb hv ht hr2 hs2 hb2
  have PN := Lib.hid fun (X w2 : World) (hb : Below w.heap.size w X) (hv : vl ra rb A B = false) (ht : (ins ra rb A B).1 = false) (hr2 : rep w2 lo2 q0 rb (ins ra rb A B).2) (hs2 : Same (In B) X w2) (hb2 : Below lo2 X w2) => post_no hB hb hv ht hr2 hs2 hb2
  have NT := Lib.hid hnot
  have HO := Lib.hid hoff
  obtain ⟨c0, c1, c4, f4⟩ := cells
  rw [hoff] at PH PR
  show Calls _ _ #[.agg #[ifp (ty A) (pl p0 A), .int .i32 l1], .agg #[ifp (ty (n :: B)) n.p, .int .i32 l2]] w _
  rw [ty1 hk]
  unfold Tti at RC
  clear hnot hoff hn hA hB hlt IH hk hl
  generalize ty A = TA at *
  generalize pl p0 A = pA at *
  generalize ty B = TB at *
  generalize pl q0 B = pB at *
  unfold ifp at *
  have hnl1 := Nat.lt_succ_of_lt hnl
  have hnl2 := Nat.lt_succ_of_lt hnl1
  cases hv : vl ra rb A B with
  | true =>
    have HV := Lib.hid hv
    have V := Lib.hid (VL.out _ (bx_below w TA pA l1 43 n.p l2))
    rw [hv] at V
    unfold bx at V
    clear hv VL RC PR PN NT
    go_enter Try.func9, Try.ntmps9
    go_wp2_with fail
    go_quiet ((go_at_call 13; exact Calls.quiet_of (V.out _)))
    go_wp2_with fail
    go_ret
    exact PH.out _ (below2 (bx_below w TA pA l1 43 n.p l2) (below_drewN' _)) HV.out
  | false =>
    have HV := Lib.hid hv
    have V := Lib.hid (VL.out _ (bx_below w TA pA l1 43 n.p l2))
    rw [hv] at V
    unfold bx at V
    clear hv VL PH
    cases ht : (ins ra rb A B).1 with
    | true =>
      have HT := Lib.hid ht
      have R := Lib.hid fun (m : Nat) => RC.out ((bx w TA pA l1 43 n.p l2).drewN m) 0 (below2 (bx_below w TA pA l1 43 n.p l2) (below_drewN' m))
      rw [ht] at R
      unfold bx at R
      clear ht RC PN
      go_enter Try.func9, Try.ntmps9
      go_wp2_with fail
      go_quiet ((go_at_call 13; exact Calls.quiet_of (V.out _)))
      go_wp2_with fail
      go_region_with (first | (go_at_call 9; (with_reducible refine (R.out _).mono ?_); rintro e w2 ⟨rfl, hr2, hs2, hb2⟩; have HR2 := Lib.hid hr2; have HS2 := Lib.hid hs2; have HB2 := Lib.hid hb2; clear hr2 hs2 hb2))
      all_goals
        obtain ⟨k1, k2, k3⟩ := NT.out _ w2 (below2 (bx_below w TA pA l1 43 n.p l2) (below_drewN' _)) HS2.out
        by_cases h0 : n.fl = 0
        · have P := Lib.hid ((PR.out _ w2 (below2 (bx_below w TA pA l1 43 n.p l2) (below_drewN' _)) HV.out HT.out HR2.out HS2.out HB2.out).1 h0)
          rw [h0] at k1
          clear h0
          go_wp2_with fail
          go_ret
          exact P.out
        · have P := Lib.hid ((PR.out _ w2 (below2 (bx_below w TA pA l1 43 n.p l2) (below_drewN' _)) HV.out HT.out HR2.out HS2.out HB2.out).2 h0)
          have h1 : (n.fl == 0) = false := by simpa using h0
          clear h0
          go_wp2_with fail
          go_ret
          exact P.out
    | false =>
      have HT := Lib.hid ht
      have R := Lib.hid fun (m : Nat) => RC.out ((bx w TA pA l1 43 n.p l2).drewN m) 0 (below2 (bx_below w TA pA l1 43 n.p l2) (below_drewN' m))
      rw [ht] at R
      unfold bx at R
      clear ht RC PR NT
      go_enter Try.func9, Try.ntmps9
      go_wp2_with fail
      go_quiet ((go_at_call 13; exact Calls.quiet_of (V.out _)))
      go_wp2_with fail
      go_region_with (first | (go_at_call 9; (with_reducible refine (R.out _).mono ?_); rintro e w2 ⟨rfl, hr2, hs2, hb2⟩; have HR2 := Lib.hid hr2; have HS2 := Lib.hid hs2; have HB2 := Lib.hid hb2; clear hr2 hs2 hb2))
      all_goals
        have P := Lib.hid (PN.out _ w2 (below2 (bx_below w TA pA l1 43 n.p l2) (below_drewN' _)) HV.out HT.out HR2.out HS2.out HB2.out)
        go_wp2_with fail
        go_ret
        exact P.out
set_option maxHeartbeats 4000000 in
theorem try_2 (ra rb : Int) (p0 q0 lo lo2 : Nat) (A : List Nd) (n : Nd) (B : List Nd) (hlt : pl p0 A < lo2) (hk : n.k = 2) (IH : Try9 ra rb p0 q0 lo lo2 A B) : Try9 ra rb p0 q0 lo lo2 A (n :: B) := by
  intro w l1 l2 hA hB hl
  have hn := hB.1
  have hnl := hn.lt
  have cells : w.cell? ⟨n.p, 0, none⟩ = some (ifp (ty B) (pl q0 B)) ∧ w.cell? ⟨n.p, 1, none⟩ = some (.int .i32 0) ∧ w.cell? ⟨n.p, 4, none⟩ = some (.int .u8 n.fl) ∧ w.frozen? ⟨n.p, 4, none⟩ = false := by
    obtain ⟨_, _, h⟩ := hn
    rcases h with ⟨e, b⟩ | ⟨e, q, R, c, C, _, _, _, _, _, _, b, _, _, _⟩ | ⟨e, b⟩
    all_goals first
      | (exfalso; omega)
      | exact ⟨b.cell 0, b.cell 1, b.cell 4, b.free 4⟩
  have hoff : off n = 4 := by unfold off; split <;> omega
  have hnot : ∀ X w2, Below w.heap.size w X → Same (In B) X w2 → w2.cell? ⟨n.p, 4, none⟩ = some (.int .u8 n.fl) ∧ w2.frozen? ⟨n.p, 4, none⟩ = false ∧ n.p < w2.heap.size := fun X w2 hb hs => by
    have e : w2.heap[n.p]? = w.heap[n.p]? := (hs.2 n.p (by have := hb.size; omega) (fun hi => by have := (In.lt hB.2 _ hi).2; have := hB.1.2.1; omega)).trans (hb.block _ hnl)
    refine ⟨(cell_of_block e _).trans cells.2.2.1, ?_, by have := hs.1; have := hb.size; omega⟩
    have := cells.2.2.2
    unfold World.frozen? at this ⊢
    rw [e]
    exact this
  have VL := Lib.hid fun (W : World) (hb : Below w.heap.size w W) (m : Nat) => vls ra rb p0 q0 lo lo2 A B (W.drewN m) ((hA.below hb).drewN m) ((hB.2.below hb).drewN m)
  have RC := Lib.hid fun (W : World) (l : Int) (hb : Below w.heap.size w W) => IH W l1 l (hA.below hb) (hB.2.below hb) (Nat.le_trans hl hb.size)
  have PH := Lib.hid fun (X : World) (hb : Below w.heap.size w X) (hv : vl ra rb A B = true) => post_hit (A := A) (ra := ra) hB hb hv
  have PR := Lib.hid fun (X w2 : World) (hb : Below w.heap.size w X) (hv : vl ra rb A B = false) (ht : (ins ra rb A B).1 = true) (hr2 : rep w2 lo2 q0 rb (ins ra rb A B).2) (hs2 : Same (In B) X w2) (hb2 : Below lo2 X w2) => post_rec hB hb hv ht hr2 hs2 hb2
  have PN := Lib.hid fun (X w2 : World) (hb : Below w.heap.size w X) (hv : vl ra rb A B = false) (ht : (ins ra rb A B).1 = false) (hr2 : rep w2 lo2 q0 rb (ins ra rb A B).2) (hs2 : Same (In B) X w2) (hb2 : Below lo2 X w2) => post_no hB hb hv ht hr2 hs2 hb2
  have NT := Lib.hid hnot
  have HO := Lib.hid hoff
  obtain ⟨c0, c1, c4, f4⟩ := cells
  rw [hoff] at PH PR
  show Calls _ _ #[.agg #[ifp (ty A) (pl p0 A), .int .i32 l1], .agg #[ifp (ty (n :: B)) n.p, .int .i32 l2]] w _
  rw [ty2 hk]
  unfold Tti at RC
  clear hnot hoff hn hA hB hlt IH hk hl
  generalize ty A = TA at *
  generalize pl p0 A = pA at *
  generalize ty B = TB at *
  generalize pl q0 B = pB at *
  unfold ifp at *
  have hnl1 := Nat.lt_succ_of_lt hnl
  have hnl2 := Nat.lt_succ_of_lt hnl1
  cases hv : vl ra rb A B with
  | true =>
    have HV := Lib.hid hv
    have V := Lib.hid (VL.out _ (bx_below w TA pA l1 44 n.p l2))
    rw [hv] at V
    unfold bx at V
    clear hv VL RC PR PN NT
    go_enter Try.func9, Try.ntmps9
    go_wp2_with fail
    go_quiet ((go_at_call 13; exact Calls.quiet_of (V.out _)))
    go_wp2_with fail
    go_ret
    exact PH.out _ (below2 (bx_below w TA pA l1 44 n.p l2) (below_drewN' _)) HV.out
  | false =>
    have HV := Lib.hid hv
    have V := Lib.hid (VL.out _ (bx_below w TA pA l1 44 n.p l2))
    rw [hv] at V
    unfold bx at V
    clear hv VL PH
    cases ht : (ins ra rb A B).1 with
    | true =>
      have HT := Lib.hid ht
      have R := Lib.hid fun (m : Nat) => RC.out ((bx w TA pA l1 44 n.p l2).drewN m) 0 (below2 (bx_below w TA pA l1 44 n.p l2) (below_drewN' m))
      rw [ht] at R
      unfold bx at R
      clear ht RC PN
      go_enter Try.func9, Try.ntmps9
      go_wp2_with fail
      go_quiet ((go_at_call 13; exact Calls.quiet_of (V.out _)))
      go_wp2_with fail
      go_region_with (first | (go_at_call 9; (with_reducible refine (R.out _).mono ?_); rintro e w2 ⟨rfl, hr2, hs2, hb2⟩; have HR2 := Lib.hid hr2; have HS2 := Lib.hid hs2; have HB2 := Lib.hid hb2; clear hr2 hs2 hb2))
      all_goals
        obtain ⟨k1, k2, k3⟩ := NT.out _ w2 (below2 (bx_below w TA pA l1 44 n.p l2) (below_drewN' _)) HS2.out
        by_cases h0 : n.fl = 0
        · have P := Lib.hid ((PR.out _ w2 (below2 (bx_below w TA pA l1 44 n.p l2) (below_drewN' _)) HV.out HT.out HR2.out HS2.out HB2.out).1 h0)
          rw [h0] at k1
          clear h0
          go_wp2_with fail
          go_ret
          exact P.out
        · have P := Lib.hid ((PR.out _ w2 (below2 (bx_below w TA pA l1 44 n.p l2) (below_drewN' _)) HV.out HT.out HR2.out HS2.out HB2.out).2 h0)
          have h1 : (n.fl == 0) = false := by simpa using h0
          clear h0
          go_wp2_with fail
          go_ret
          exact P.out
    | false =>
      have HT := Lib.hid ht
      have R := Lib.hid fun (m : Nat) => RC.out ((bx w TA pA l1 44 n.p l2).drewN m) 0 (below2 (bx_below w TA pA l1 44 n.p l2) (below_drewN' m))
      rw [ht] at R
      unfold bx at R
      clear ht RC PR NT
      go_enter Try.func9, Try.ntmps9
      go_wp2_with fail
      go_quiet ((go_at_call 13; exact Calls.quiet_of (V.out _)))
      go_wp2_with fail
      go_region_with (first | (go_at_call 9; (with_reducible refine (R.out _).mono ?_); rintro e w2 ⟨rfl, hr2, hs2, hb2⟩; have HR2 := Lib.hid hr2; have HS2 := Lib.hid hs2; have HB2 := Lib.hid hb2; clear hr2 hs2 hb2))
      all_goals
        have P := Lib.hid (PN.out _ w2 (below2 (bx_below w TA pA l1 44 n.p l2) (below_drewN' _)) HV.out HT.out HR2.out HS2.out HB2.out)
        go_wp2_with fail
        go_ret
        exact P.out
theorem try9 (ra rb : Int) (p0 q0 lo lo2 : Nat) (A : List Nd) (hlt : pl p0 A < lo2) : ∀ B, Try9 ra rb p0 q0 lo lo2 A B
  | [] => try_id ra rb p0 q0 lo lo2 A
  | n :: B => by
    intro w l1 l2 hA hB hl
    have IH := try9 ra rb p0 q0 lo lo2 A hlt B
    rcases hB.1.k with k | k | k
    · exact try_0 ra rb p0 q0 lo lo2 A n B hlt k IH w l1 l2 hA hB hl
    · exact try_1 ra rb p0 q0 lo lo2 A n B hlt k IH w l1 l2 hA hB hl
    · exact try_2 ra rb p0 q0 lo lo2 A n B hlt k IH w l1 l2 hA hB hl
end Go.Proofs.YtanaidcjiinpaaaRR.opt
