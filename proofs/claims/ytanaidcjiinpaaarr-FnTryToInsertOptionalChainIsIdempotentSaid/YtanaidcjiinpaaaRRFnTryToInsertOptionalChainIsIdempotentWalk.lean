/- The walk of the law 'FnTryToInsertOptionalChainIsIdempotent': it returns true and leaves what was there as it was. No conditions. -/
import Derived.Test.YtanaidcjiinpaaaRROptF
import Derived.Test.YtanaidcjiinpaaaRROptJ
import Derived.Test.YtanaidcjiinpaaaRRClones
namespace Go.Proofs.YtanaidcjiinpaaaRR.fnTryToInsertOptionalChainIsIdempotent
open Go.ChangeShapes Go.WideShapes Go.ChangeAt Go.RowKit Go.Mine opt
set_option linter.unusedVariables false
set_option linter.unusedSimpArgs false
set_option maxRecDepth 100000

/-- What the first call has left: the chain's new flags, and that a second call will leave them so. -/
structure Mid (ra rb : Int) (A B B1 : List Nd) (b : Bool) : Prop where
  hI : ins ra rb A B = (b, B1)
theorem Mid.again {ra rb : Int} {A B B1 : List Nd} {b : Bool} (h : Mid ra rb A B B1 b) : Mid ra rb A B1 B1 b := by
  refine ⟨?_⟩
  have := ins_ins ra rb A B
  rw [h.hI] at this
  exact this
theorem Mid.ty {ra rb : Int} {A B B1 : List Nd} {b : Bool} (h : Mid ra rb A B B1 b) : ty B1 = ty B := by have := ty_ins ra rb A B; rw [h.hI] at this; exact this
theorem Mid.pl {ra rb : Int} {A B B1 : List Nd} {b : Bool} (h : Mid ra rb A B B1 b) (q : Nat) : pl q B1 = pl q B := by have := pl_ins ra rb A q B; rw [h.hI] at this; exact this
theorem Mid.len {ra rb : Int} {A B B1 : List Nd} {b : Bool} (h : Mid ra rb A B B1 b) : B1.length = B.length := by have := ins_len ra rb A B; rw [h.hI] at this; exact this
theorem Mid.nd {ra rb : Int} {A B B1 : List Nd} {b : Bool} (h : Mid ra rb A B B1 b) (j : Nat) : ndCell B1 j = ndCell B j := by have := ndCell_ins ra rb A B j; rw [h.hI] at this; exact this
theorem flags {w : World} {lo q0 m : Nat} {r : Int} {B : List Nd} {R : Nat} (h : rep w lo q0 r B) (hr : w.rowIs R 46 (m * 3) (ndCell B)) (hB : B.length = m) {j : Nat} (hj : j < m) :
    ∃ v0 v1 v2, w.cell? ⟨R, j * 3, none⟩ = some v0 ∧ w.cell? ⟨R, j * 3 + 1, none⟩ = some v1 ∧ w.cell? ⟨R, j * 3 + 2, none⟩ = some v2 ∧
      ∀ W, Below w.heap.size w W → Calls Try.prog 10 #[.agg #[v0, v1, v2]] W fun e w' => e = .returned (.int .u8 (flAt B j)) ∧ ∃ o, w' = W.alloc o := by
  obtain ⟨k, p, o, hp, hc, hk, hf⟩ := nd_at h j (by omega)
  have c0 := hr.cell (i := j * 3) (by omega)
  have c1 := hr.cell (i := j * 3 + 1) (by omega)
  have c2 := hr.cell (i := j * 3 + 2) (by omega)
  have e0 := hc 0 (by omega)
  rw [Nat.add_zero] at e0
  rw [e0] at c0
  rw [hc 1 (by omega)] at c1
  rw [hc 2 (by omega)] at c2
  exact ⟨_, _, _, c0, c1, c2, fun W hb => flag10 k p o _ W (by have := hb.size; omega) hk ((hb.cell (p := ⟨p, o, none⟩) hp).trans hf)⟩
def snapAt (B : List Nd) (k : Nat) (j : Nat) : Value := if j < k then .int .u8 (flAt B j) else .int .u8 0
theorem snap_set (B : List Nd) (k j : Nat) : (if j = k then Value.int .u8 (flAt B k) else snapAt B k j) = snapAt B (k + 1) j := by
  unfold snapAt
  by_cases e : j = k
  · subst e; rw [if_pos rfl, if_pos (by omega)]
  · rw [if_neg e]
    by_cases h : j < k
    · rw [if_pos h, if_pos (by omega)]
    · rw [if_neg h, if_neg (by omega)]
set_option maxHeartbeats 16000000 in
theorem walk (a0 : Int) (a1 : Option Addr) (len1 cap1 : Nat) (z1 : List Int) (a2 : Option Addr) (len2 cap2 : Nat) (z2 : List ByteArray) (a3 : Int) (a4 : Option Addr) (len4 cap4 : Nat) (z4 : List Int) (a5 : Option Addr) (len5 cap5 : Nat) (z5 : List ByteArray) (w : World) (w0 : (Lit.int .u32 a0).wf = true) (w1 : IntRow .u8 w a1 len1 cap1 z1) (w2 : StrRow w a2 len2 cap2 z2) (w3 : (Lit.int .u32 a3).wf = true) (w4 : IntRow .u8 w a4 len4 cap4 z4) (w5 : StrRow w a5 len5 cap5 z5) :
    Calls Try.prog 3 #[.int .u32 a0, .slice a1 len1 cap1, .slice a2 len2 cap2, .int .u32 a3, .slice a4 len4 cap4, .slice a5 len5 cap5] w fun e w' => e = .returned (.bool true) ∧ Below w.heap.size w w' := by
  have m1 : len1 ≤ maxLen := Nat.le_trans w1.2.1 w1.2.2.1
  have m4 : len4 ≤ maxLen := Nat.le_trans w4.2.1 w4.2.2.1
  have BY := Lib.hid (bytes4 a0 a3 a1 len1 cap1 a2 len2 cap2 z2 a4 len4 cap4 a5 len5 cap5 z5 w m1 w2 m4 w5)
  have H1 := Lib.hid w1
  have H2 := Lib.hid w2
  have H4 := Lib.hid w4
  have H5 := Lib.hid w5
  clear w0 w1 w2 w3 w4 w5 m1 m4
  go_enter Try.func3, Try.ntmps3
  go_wp2_with fail
  refine BY.out.mono ?_
  rintro e w' ⟨⟨rb, rfl, hrb⟩, rfl⟩
  cases rb with
  | false =>
    go_wp2_with fail
    go_ret
    exact ⟨rfl, Below.refl _ _⟩
  | true =>
    obtain ⟨s2, s5, b1, b2, b4, b5⟩ := hrb rfl
    have S2 := Lib.hid s2
    have S5 := Lib.hid s5
    clear hrb s2 s5 BY
    go_wp2_with fail
    refine (chain5 a1 len1 cap1 a2 len2 cap2 z2 w b1 H2.out b2 S2.out).mono ?_
    rintro e w' ⟨⟨n1, hn1, rfl⟩, rfl⟩
    go_wp2_with fail
    refine (chain5 a4 len4 cap4 a5 len5 cap5 z5 w b4 H5.out b5 S5.out).mono ?_
    rintro e w' ⟨⟨n2, hn2, rfl⟩, rfl⟩
    by_cases q0 : n1 + n2 ≤ 1048576
    case neg =>
      go_wp2_with fail
      go_ret
      exact ⟨rfl, Below.refl _ _⟩
    by_cases q1 : len1 ≤ 4096
    case neg =>
      go_wp2_with fail
      go_ret
      exact ⟨rfl, Below.refl _ _⟩
    by_cases q2 : len2 ≤ 65536
    case neg =>
      go_wp2_with fail
      go_ret
      exact ⟨rfl, Below.refl _ _⟩
    by_cases q4 : len4 ≤ 4096
    case neg =>
      go_wp2_with fail
      go_ret
      exact ⟨rfl, Below.refl _ _⟩
    by_cases q5 : len5 ≤ 65536
    case neg =>
      go_wp2_with fail
      go_ret
      exact ⟨rfl, Below.refl _ _⟩
    go_wp2_with fail
    refine (clone6 a1 len1 cap1 z1 w H1.out (by omega)).mono ?_
    rintro e wa ⟨k1, rfl, r1, _, _, hb⟩
    have R1 := Lib.hid r1
    have Ba := Lib.hid hb
    clear r1 hb
    go_wp2_with fail
    refine (clone7 a2 len2 cap2 z2 wa (H2.out.below Ba.out) (by omega)).mono ?_
    rintro e wb ⟨k2, rfl, r2, _, _, hb⟩
    have R2 := Lib.hid r2
    have Bb := Lib.hid (below2 Ba.out hb)
    have R1b := Lib.hid (R1.out.below hb)
    clear r2 hb Ba R1
    go_wp2_with fail
    refine (clone6 a4 len4 cap4 z4 wb (H4.out.below Bb.out) (by omega)).mono ?_
    rintro e wc ⟨k4, rfl, r4, _, _, hb⟩
    have R4 := Lib.hid r4
    have Bc := Lib.hid (below2 Bb.out hb)
    have R1c := Lib.hid (R1b.out.below hb)
    have R2c := Lib.hid (R2.out.below hb)
    clear r4 hb R1b R2
    go_wp2_with fail
    refine (clone7 a5 len5 cap5 z5 wc (H5.out.below Bc.out) (by omega)).mono ?_
    rintro e wd ⟨k5, rfl, r5, _, _, hb⟩
    have R5 := Lib.hid r5
    have Bd := Lib.hid (below2 Bc.out hb)
    have R1d := Lib.hid (R1c.out.below hb)
    have R2d := Lib.hid (R2c.out.below hb)
    have R4d := Lib.hid (R4.out.below hb)
    clear r5 hb R1c R2c R4 Bb Bc H1 H2 H4 H5
    go_wp2_with fail
    refine (build8 a0 k1 len1 len1 z1 k2 len2 len2 z2 wd R1d.out R2d.out q1 S2.out).mono ?_
    rintro e we ⟨A, rfl, hAl, hA, hAr, hb⟩
    have RA := Lib.hid hA
    have Be := Lib.hid (below2 Bd.out hb)
    have R4e := Lib.hid (R4d.out.below hb)
    have R5e := Lib.hid (R5.out.below hb)
    clear hAl hA hAr hb R1d R2d R4d R5 S2
    obtain ⟨pA, hpA⟩ : ∃ p, p = pl (wd.heap.size + 1) A := ⟨_, rfl⟩
    obtain ⟨TA, hTA⟩ : ∃ T, T = ty A := ⟨_, rfl⟩
    have HA := Lib.hid (And.intro hpA hTA)
    unfold ifp
    rw [← hpA, ← hTA]
    clear hpA hTA
    have R4f := Lib.hid (R4e.out.below ((Below.refl we.heap.size we).alloc (Nat.le_refl _) (.cells #[.iface TA (.pointer (some ⟨pA, 0, none⟩)), .int .i32 0] 34)))
    have R5f := Lib.hid (R5e.out.below ((Below.refl we.heap.size we).alloc (Nat.le_refl _) (.cells #[.iface TA (.pointer (some ⟨pA, 0, none⟩)), .int .i32 0] 34)))
    have B8 := Lib.hid (build8 a3 k4 len4 len4 z4 k5 len5 len5 z5 _ R4f.out R5f.out q4 S5.out)
    clear R4e R5e R4f R5f S5
    go_wp2_with fail
    refine B8.out.mono ?_
    rintro e wf ⟨B, rfl, hBl, hB, hBr, hbf⟩
    have hsz : (we.alloc (.cells #[.iface TA (.pointer (some ⟨pA, 0, none⟩)), .int .i32 0] 34)).heap.size = we.heap.size + 1 := World.size_alloc _ _
    rw [hsz] at hB hBr hbf
    rw [hsz]
    obtain ⟨M, hM⟩ : ∃ M, M = we.heap.size + 1 := ⟨_, rfl⟩
    rw [← hM] at hB hBr hbf
    rw [← hM]
    obtain ⟨R, hR⟩ : ∃ R, R = M + 3 := ⟨_, rfl⟩
    rw [← hR] at hBr
    rw [← hR]
    obtain ⟨pB, hpB⟩ : ∃ p, p = pl (M + 1) B := ⟨_, rfl⟩
    obtain ⟨TB, hTB⟩ : ∃ T, T = ty B := ⟨_, rfl⟩
    rw [← hpB, ← hTB]
    have hbxA : Below we.heap.size we (we.alloc (.cells #[.iface TA (.pointer (some ⟨pA, 0, none⟩)), .int .i32 0] 34)) := (Below.refl _ _).alloc (Nat.le_refl _) _
    have hef : Below we.heap.size we wf := hbxA.trans (hbf.mono (by omega))
    have hAf := RA.out.below hef
    have hAlt := RA.out.lt
    have hkA : Blk wf we.heap.size #[.iface TA (.pointer (some ⟨pA, 0, none⟩)), .int .i32 0] 34 := (hbf.block _ (by omega)).trans (Blk.new we _ _)
    have hMf : M ≤ wf.heap.size := by have := hbf.size; rw [hsz] at this; omega
    -- the world W1 ahead of the first call
    have hW1 : Below wf.heap.size wf (wf.alloc (.cells #[.iface TB (.pointer (some ⟨pB, 0, none⟩)), .int .i32 0] 34)) := (Below.refl _ _).alloc (Nat.le_refl _) _
    have hkB : Blk (wf.alloc (.cells #[.iface TB (.pointer (some ⟨pB, 0, none⟩)), .int .i32 0] 34)) wf.heap.size #[.iface TB (.pointer (some ⟨pB, 0, none⟩)), .int .i32 0] 34 := Blk.new _ _ _
    have hkA1 := hkA.below hW1
    have hRr1 := hBr.of_block (hW1.block R hBr.lt)
    have hB1 := hB.below hW1
    have hA1 := hAf.below hW1
    have hplB := hB.lt
    have hwM : w.heap.size ≤ M := by have := Be.out.size; omega
    have hlow1 : M + 4 ≤ (wf.alloc (.cells #[.iface TB (.pointer (some ⟨pB, 0, none⟩)), .int .i32 0] 34)).heap.size := by have := hBr.lt; rw [World.size_alloc]; omega
    have BW1 : Below w.heap.size w (wf.alloc (.cells #[.iface TB (.pointer (some ⟨pB, 0, none⟩)), .int .i32 0] 34)) := below2 (below2 Be.out hef) hW1
    obtain ⟨W1, hW⟩ : ∃ W, W = wf.alloc (.cells #[.iface TB (.pointer (some ⟨pB, 0, none⟩)), .int .i32 0] 34) := ⟨_, rfl⟩
    rw [← hW] at hkB hkA1 hRr1 hB1 hA1 hlow1 BW1 hW1
    obtain ⟨b, B1, hI⟩ : ∃ b B1, Mid a0 a3 A B B1 b := ⟨_, _, ⟨rfl⟩⟩
    have hltA : pl (wd.heap.size + 1) A < M + 4 := by omega
    have T1 : Calls Try.prog 9 #[.agg #[.iface TA (.pointer (some ⟨pA, 0, none⟩)), .int .i32 0], .agg #[.iface TB (.pointer (some ⟨pB, 0, none⟩)), .int .i32 0]] W1 fun e w' => e = .returned (.bool b) ∧ rep w' (M + 4) (M + 1) a3 B1 ∧ Same (In B) W1 w' ∧ Below (M + 4) W1 w' := by
      have h := try9 a0 a3 (wd.heap.size + 1) (M + 1) (wd.heap.size + 4) (M + 4) A hltA B W1 0 0 hA1 hB1 hlow1
      rw [← HA.out.1, ← HA.out.2, ← hpB, ← hTB] at h
      refine h.mono fun e w' ⟨h1, h2, h3, h4⟩ => ⟨?_, ?_, h3, h4⟩
      · rw [h1, hI.hI]
      · rw [hI.hI] at h2; exact h2
    have inB : ∀ k, In B k → M + 4 ≤ k ∧ k < wf.heap.size := fun k hk => by have := In.lt hB k hk; omega
    have G1 : ∀ wg, Same (In B) W1 wg → Below (M + 4) W1 wg → Blk wg we.heap.size #[.iface TA (.pointer (some ⟨pA, 0, none⟩)), .int .i32 0] 34 ∧ Blk wg wf.heap.size #[.iface TB (.pointer (some ⟨pB, 0, none⟩)), .int .i32 0] 34 ∧ wg.rowIs R 46 (len4 * 3) (ndCell B1) ∧ rep wg (wd.heap.size + 4) (wd.heap.size + 1) a0 A ∧ Below w.heap.size w wg := fun wg hs hb => by
      refine ⟨hkA1.same hs (fun h => by have := (inB _ h).1; omega), hkB.same hs (fun h => by have := (inB _ h).2; omega), ?_, hA1.aside hB1 hltA hs, BW1.trans (hb.mono (by omega))⟩
      exact (hRr1.of_block (hs.2 R hRr1.lt (fun h => by have := (inB _ h).1; omega))).congr (fun j _ => (hI.nd j).symm)
    have hB1l : B1.length = len4 := hI.len.trans hBl
    have T1H := Lib.hid T1
    have GH := Lib.hid G1
    have IB := Lib.hid inB
    have HI := Lib.hid hI.again
    have HTY := Lib.hid (And.intro (hI.pl (M + 1)) hI.ty)
    have HPB := Lib.hid (And.intro hpB hTB)
    have HL := Lib.hid hB1l
    have HR4 : Hid (R < M + 4) := by show R < M + 4; omega
    have GA1' := Lib.hid HA.out.1
    have GA2' := Lib.hid HA.out.2
    have HLT := Lib.hid hltA
    have HSW : Hid (W1.heap.size = wf.heap.size + 1) := by rw [hW]; exact World.size_alloc _ _
    have HM := Lib.hid (And.intro hM (And.intro hwM hMf))
    have HLW := Lib.hid hlow1
    have EW := Lib.hid hW
    have cA0 : wf.cell? ⟨we.heap.size, 0, none⟩ = some (.iface TA (.pointer (some ⟨pA, 0, none⟩))) := hkA.cell 0
    have cA1 : wf.cell? ⟨we.heap.size, 1, none⟩ = some (.int .i32 0) := hkA.cell 1
    have cA2 : we.heap.size < wf.heap.size := hkA.lt
    have cA3 := Nat.lt_succ_of_lt cA2
    rw [EW.out] at T1H
    clear hsz hB hBr hbf hR hpB hTB hbxA hef hAf hAlt hkA hMf hW1 hkB hkA1 hRr1 hB1 hA1 hplB hwM hlow1 BW1 hW hI hltA T1 inB G1 hB1l hM RA HA B8 Bd Be hBl
    go_wp2_with fail
    refine T1H.out.mono ?_
    rintro e wg ⟨rfl, hB1, hsg, hbg⟩
    rw [← EW.out] at hsg hbg
    clear cA0 cA1 cA2 cA3
    obtain ⟨kA, kB, hrow, hAg, hbwg⟩ := GH.out wg hsg hbg
    have hsG := hsg.1
    have SG := Lib.hid hsg
    have BG := Lib.hid hbwg
    have RB := Lib.hid hB1
    have RG := Lib.hid hAg
    have RW := Lib.hid hrow
    have KA := Lib.hid kA
    have KB := Lib.hid kB
    have hlt1 := kA.lt
    have hlt2 := kB.lt
    clear hsg hbg hbwg hB1 hAg hrow kA kB
    have hmk := run_make_row' 39 40 (.int .u8 0) 1 Try.underlying39 (by kernel_rfl) rfl .i64 .i64 len4 (by omega) (by omega)
    have S0 : Hid ((wg.alloc (.cells (madeCells #[.int .u8 0] len4) 40)).rowIs wg.heap.size 40 len4 (snapAt B1 0) ∧ Below wg.heap.size wg (wg.alloc (.cells (madeCells #[.int .u8 0] len4) 40))) :=
      ⟨(World.rowIs_made wg (.int .u8 0) len4 40).congr (fun j hj => by unfold snapAt; rw [if_neg (by omega)]), (Below.refl _ _).alloc (Nat.le_refl _) _⟩
    go_wp2_with fail
    go_loopw [19] (fun i wr => ∃ k : Nat, k ≤ len4 ∧ i = .int .i64 (k : Int) ∧ Hid (wr.rowIs wg.heap.size 40 len4 (snapAt B1 k) ∧ Below wg.heap.size wg wr)) (fun i _ => len4 - (intOf i).toNat)
    case atStart => exact ⟨0, Nat.zero_le _, rfl, S0⟩
    case round =>
      obtain ⟨k, hk, rfl, RL⟩ := hrel
      clear S0 hmk
      by_cases hlt : k < len4
      · obtain ⟨v0, v1, v2, c0, c1, c2, hf⟩ := flags (RB.out.below RL.out.2) (RW.out.of_block (RL.out.2.block R RW.out.lt)) HL.out hlt
        have FL := Lib.hid fun W hb => hf W hb
        have s0 : wr.cell? ⟨wg.heap.size, k, none⟩ = some (snapAt B1 k k) := RL.out.1.cell hlt
        have s1 : wr.frozen? ⟨wg.heap.size, k, none⟩ = false := RL.out.1.frozen k
        have s2 := RL.out.1.lt
        have s3 := Nat.lt_succ_of_lt s2
        have hRl : R < wr.heap.size := Nat.lt_of_lt_of_le RW.out.lt RL.out.2.size
        have NX : Hid (∀ o, (((wr.setCell ⟨wg.heap.size, k, none⟩ (.int .u8 (flAt B1 k))).alloc o).rowIs wg.heap.size 40 len4 (snapAt B1 (k + 1)) ∧ Below wg.heap.size wg ((wr.setCell ⟨wg.heap.size, k, none⟩ (.int .u8 (flAt B1 k))).alloc o))) := fun o =>
          ⟨((RL.out.1.set k (.int .u8 (flAt B1 k))).congr (fun j _ => snap_set B1 k j)).alloc o, (RL.out.2.setCell (p := ⟨wg.heap.size, k, none⟩) (Nat.le_refl _) _).alloc (by rw [size_set]; exact Nat.le_of_lt s2) _⟩
        clear hf
        generalize snapAt B1 k k = sv at *
        generalize flAt B1 k = fk at *
        go_wp2_with fail
        refine (FL.out _ (Below.refl _ _)).mono ?_
        rintro e w' ⟨rfl, o, rfl⟩
        go_wp2_with fail
        go_roundw
        case rel => exact ⟨k + 1, by omega, by go_num, NX.out _⟩
        case measure => simp [intOf]; omega
      · obtain rfl : k = len4 := by omega
        clear hlt
        obtain ⟨wh, rfl⟩ : ∃ wh : World, wh = wr := ⟨_, rfl⟩
        have hRBh := RB.out.below RL.out.2
        have hRGh := RG.out.below RL.out.2
        have hlo : M + 4 ≤ wh.heap.size := by have := RL.out.2.size; have := HSW.out; have := HLW.out; omega
        have T2 : Calls Try.prog 9 #[.agg #[.iface TA (.pointer (some ⟨pA, 0, none⟩)), .int .i32 0], .agg #[.iface TB (.pointer (some ⟨pB, 0, none⟩)), .int .i32 0]] wh fun e w' => e = .returned (.bool b) ∧ rep w' (M + 4) (M + 1) a3 B1 ∧ Same (In B1) wh w' ∧ Below (M + 4) wh w' := by
          have h := try9 a0 a3 (wd.heap.size + 1) (M + 1) (wd.heap.size + 4) (M + 4) A HLT.out B1 wh 0 0 hRGh hRBh hlo
          rw [HTY.out.1, HTY.out.2, ← GA1'.out, ← GA2'.out, ← HPB.out.1, ← HPB.out.2] at h
          refine h.mono fun e w' ⟨h1, h2, h3, h4⟩ => ⟨?_, ?_, h3, h4⟩
          · rw [h1, HI.out.hI]
          · rw [HI.out.hI] at h2; exact h2
        have inB : ∀ k, In B1 k → M + 4 ≤ k ∧ k < wg.heap.size := fun k hk => by have := In.lt RB.out k hk; have := RB.out.lt; omega
        have hRlt := RW.out.lt
        have hRM : R < M + 4 := HR4.out
        have G2 : ∀ wk, rep wk (M + 4) (M + 1) a3 B1 → Same (In B1) wh wk → Below (M + 4) wh wk → wk.rowIs R 46 (k * 3) (ndCell B1) ∧ wk.rowIs wg.heap.size 40 k (snapAt B1 k) ∧ Below w.heap.size w wk := fun wk hr hs hb => by
          have h1 := RW.out.of_block (RL.out.2.block R hRlt)
          refine ⟨h1.of_block (hs.2 R h1.lt (fun h => by have := (inB _ h).1; omega)), RL.out.1.of_block (hs.2 _ RL.out.1.lt (fun h => by have := (inB _ h).2; omega)), ?_⟩
          exact (below2 BG.out RL.out.2).trans (hb.mono (by have := HM.out.2.1; omega))
        have T2H := Lib.hid T2
        have G2H := Lib.hid G2
        have kA := KA.out.below RL.out.2
        have kB := KB.out.below RL.out.2
        have cA0 : wh.cell? ⟨we.heap.size, 0, none⟩ = some (.iface TA (.pointer (some ⟨pA, 0, none⟩))) := kA.cell 0
        have cA1 : wh.cell? ⟨we.heap.size, 1, none⟩ = some (.int .i32 0) := kA.cell 1
        have cB0 : wh.cell? ⟨wf.heap.size, 0, none⟩ = some (.iface TB (.pointer (some ⟨pB, 0, none⟩))) := kB.cell 0
        have cB1 : wh.cell? ⟨wf.heap.size, 1, none⟩ = some (.int .i32 0) := kB.cell 1
        have cA2 := kA.lt
        have cB2 := kB.lt
        clear hRBh hRGh hlo T2 inB hRlt hRM G2 kA kB hlt1 hlt2 hsG
        go_wp2_with fail
        refine T2H.out.mono ?_
        rintro e wk ⟨rfl, hB1, hsk, hbk⟩
        obtain ⟨hrw, hsn, hbw⟩ := G2H.out wk hB1 hsk hbk
        have RK := Lib.hid hB1
        have WK := Lib.hid hrw
        have SK := Lib.hid hsn
        have BK := Lib.hid hbw
        clear hrw hsn hbw hB1 hsk hbk cA0 cA1 cB0 cB1 cA2 cB2
        have hbb : (b != b) = false := by cases b <;> rfl
        go_wp2_with fail
        go_loopw [21] (fun i wr => ∃ j : Nat, j ≤ k ∧ i = .int .i64 (j : Int) ∧ Hid (Below wk.heap.size wk wr)) (fun i _ => k - (intOf i).toNat)
        case atStart => exact ⟨0, Nat.zero_le _, rfl, Below.refl _ _⟩
        case round =>
          obtain ⟨j, hj, rfl, RM⟩ := hrel
          by_cases hlt : j < k
          · obtain ⟨v0, v1, v2, c0, c1, c2, hf⟩ := flags (RK.out.below RM.out) (WK.out.of_block (RM.out.block R WK.out.lt)) HL.out hlt
            have FL := Lib.hid fun W hb => hf W hb
            have s0 : wr.cell? ⟨wg.heap.size, j, none⟩ = some (.int .u8 (flAt B1 j)) := by
              have h := (SK.out.of_block (RM.out.block _ SK.out.lt)).cell hlt
              rw [h]
              unfold snapAt
              rw [if_pos hlt]
            have s2 := Nat.lt_of_lt_of_le SK.out.lt RM.out.size
            have s3 := Nat.lt_succ_of_lt s2
            have hRl : R < wr.heap.size := Nat.lt_of_lt_of_le WK.out.lt RM.out.size
            have hRl1 := Nat.lt_succ_of_lt hRl
            have hsk := RM.out.size
            clear hf
            generalize flAt B1 j = fk at *
            go_wp2_with fail
            go_region_with (first | (go_at_call 10; (with_reducible refine (FL.out _ ?_).mono ?_); (repeat (first | with_reducible exact Below.refl _ _ | with_reducible refine Below.drew ?_)); rintro e w' ⟨rfl, o, rfl⟩))
            all_goals
              go_wp2_with fail
              go_roundw
              case rel => exact ⟨j + 1, by omega, by go_num, Lib.hid ((RM.out.alloc hsk _).drew)⟩
              case measure => simp [intOf]; omega
          · go_wp2_with fail
            go_ret
            exact ⟨rfl, BK.out.trans (RM.out.mono BK.out.size)⟩
end Go.Proofs.YtanaidcjiinpaaaRR.fnTryToInsertOptionalChainIsIdempotent
