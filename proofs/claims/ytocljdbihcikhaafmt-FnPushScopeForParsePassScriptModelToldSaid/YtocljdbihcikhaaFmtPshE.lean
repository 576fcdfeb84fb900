/- The contract of 'pushScopeForParsePass' under a current scope. No conditions beyond the hypotheses. -/
import Derived.Test.YtocljdbihcikhaaFmtPshD
namespace Go.Proofs.YtocljdbihcikhaaFmt.psh
open Go.ChangeShapes Go.WideShapes Go.ChangeAt Go.RowKit Go.Mine
set_option linter.unusedVariables false
set_option linter.unusedSimpArgs false
set_option maxRecDepth 100000

section
variable {p n m : Nat} {cu : Option Nat} {par : Nat → Option Nat} {kd lc : Nat → Int} {nc : Nat → Nat} {chs : Nat → Nat → Nat} {sa mb : Nat → Nat} {lo : Nat} {L : Nat → Nat} {F : Nat → Rw} {H : Nat → Option Obj} {w : World} {k l : Int}
theorem infoP : (Tryf.prog.info? 31).map (fun i => (i.zero, i.size, i.bytes)) = some (some (.pointer none), 1, 8) := by kernel_rfl
theorem next_none (U : World) (ty : TypeId) (bm : Nat) (hb : U.heap[bm]? = some (.map #[] 0)) :
    (Instr.next (.pointer (some ⟨U.heap.size, 0, none⟩)) false ty).run Tryf.prog (U.alloc (.mapIter (some bm) 0 #[] 0)) = .ok (.tuple #[.bool false]) (U.alloc (.mapIter (some bm) 0 #[] 0)) := by
  rcases run_next_map (P := Tryf.prog) U ty bm 0 0 #[] #[] 0 hb (by simp) (Nat.le_refl _) with ⟨_, h⟩ | ⟨e, he, _⟩
  · exact h
  · simp [leftOf] at he
set_option maxHeartbeats 4000000 in
theorem push14s {q : Nat} (f : Fo p n n (some q) par kd lc nc chs sa mb F H) (h : ST lo L F H w) (hI : IRef w) (hk : k = 8 → kd q = 7) (hl : ∀ j, n = j + 1 → lc j < l) (hn : n ≤ 65536) :
    Calls Tryf.prog 14 #[.pointer (some ⟨p, 0, none⟩), .int .u8 k, .agg #[.int .i32 l]] w (Pushed lo p n (some q) par kd lc nc chs F k l w) := by
  have h0 : w.cell? ⟨p, 104, none⟩ = some (.pointer (some ⟨sa q, 0, none⟩)) := f.cur h
  have hqn := f.cul q rfl
  have hncn := f.ncs q
  obtain ⟨C, k1, -⟩ := f.pars
  have f0 := (h.blk k1).free 104
  obtain ⟨hlop, fl⟩ := f.lop h
  have fl1 : p < w.heap.size + 1 := by omega
  have fl2 : p < w.heap.size + 1 + 1 := by omega
  have fl3 : p < w.heap.size + 1 + 1 + 1 := by omega
  have z0 : 0 < w.heap.size := by omega
  have i0 := hI.c0
  have i1 := hI.c1
  have q2 := fun w' => run_makeMap (P := Tryf.prog) 38 w'
  obtain ⟨a4, c4, hv4⟩ := f.chv h q
  have hr4 := h.row (8 + q) (by omega)
  rw [f.ec, f.zc, f.nn, hv4] at hr4
  have sq := f.sc h hqn
  rw [hv4] at sq
  have lq := sq.lt
  have HC : ∀ (v' : Value) (w' : World), ((mk3 w k l (.pointer (some ⟨sa q, 0, none⟩))).alloc (.cells #[.pointer (some ⟨w.heap.size + 1 + 1, 0, none⟩)] 31)).grownBy w' (Value.slice a4 (nc q) c4).ownBlock →
      w'.ownsRow lo 31 1 v' (nc q + 1) ((F (8 + q)).xs ++ [.pointer (some ⟨w.heap.size + 1 + 1, 0, none⟩)]) → (v'.ownBlock = (Value.slice a4 (nc q) c4).ownBlock ∨ v'.ownBlock = some (w.heap.size + 1 + 1 + 1 + 1)) →
      ∃ L2 mb2 F2 H2, ST lo L2 F2 H2 (w'.setCell ⟨sa q, 2, none⟩ v') ∧ Fo p (n + 1) n (some q) (up par n (some q)) (up kd n k) lc (up nc q (nc q + 1)) (up chs q (up (chs q) (nc q) n)) (up sa n (w.heap.size + 1 + 1)) mb2 F2 H2 ∧ (∀ i, i < 8 → F2 i = F i) ∧ Below lo w (w'.setCell ⟨sa q, 2, none⟩ v') := by
    rw [← hv4]
    exact fun v' w' => child3 f h
  have bm := mk3_below w k l (.pointer (some ⟨sa q, 0, none⟩))
  have B0 : Blk (mk3 w k l (.pointer (some ⟨sa q, 0, none⟩))) w.heap.size #[.int .i32 l] 42 := (Blk.new w #[.int .i32 l] 42).below (((Below.refl _ _).alloc (by simp) _).alloc (by simp <;> omega) _)
  have f1 : (mk3 w k l (.pointer (some ⟨sa q, 0, none⟩))).frozen? ⟨p, 104, none⟩ = false := ((h.blk k1).below bm).free 104
  have h1 : (mk3 w k l (.pointer (some ⟨sa q, 0, none⟩))).cell? ⟨p, 104, none⟩ = some (.pointer (some ⟨sa q, 0, none⟩)) := bcell bm h0
  have fl' : p < (mk3 w k l (.pointer (some ⟨sa q, 0, none⟩))).heap.size := by simp; omega
  have SQ := sq.below bm
  have HR4 : (mk3 w k l (.pointer (some ⟨sa q, 0, none⟩))).ownsRow lo 31 1 (.slice a4 (nc q) c4) (nc q) (F (8 + q)).xs := own_kept hr4 fun g hg => bm.block g (own_ge hr4 hg).2
  have SZ : (mk3 w k l (.pointer (some ⟨sa q, 0, none⟩))).heap.size = w.heap.size + 1 + 1 + 1 := by simp
  have PB := (h.blk k1).below bm
  simp only [mk3] at HC B0 f1 h1 fl' SQ HR4 SZ PB
  replace HC := Lib.hid HC
  replace B0 := Lib.hid B0
  replace SQ := Lib.hid SQ
  replace HR4 := Lib.hid HR4
  replace PB := Lib.hid PB
  replace SZ := Lib.hid SZ
  have HL := Lib.hid hl
  have HK := Lib.hid hk
  have NE4 := Lib.hid (own_ne HR4.out SQ.out (by decide))
  have NEB := Lib.hid (own_ne HR4.out B0.out (by decide))
  clear k1 hI f h hl hr4 sq bm hk hv4
  obtain ⟨i2, hi, hz⟩ := Option.map_eq_some_iff.1 infoP
  injection hz with hz0 hz
  injection hz with hz1 hz2
  have HI2 := Lib.hid hi
  have HZ2 := Lib.hid hz0
  clear hi hz0
  go_enter Tryf.func14, Tryf.ntmps14
  go_upto_region 3 with fail
  generalize (((w.alloc (Obj.cells #[Value.int IntKind.i32 l] 42)).alloc (Obj.map #[] 0)).alloc _) = W at *
  generalize hb : w.heap.size = b0 at *
  clear q2 i0 i1 h0 f0 fl1 fl2 fl3
  have s2 : W.cell? ⟨sa q, 2, none⟩ = some (.slice a4 (nc q) c4) := (SQ.out.cell 2).trans (by simp)
  have s3 := SQ.out.lt
  have hlW : lo ≤ W.heap.size := by have := SZ.out; omega
  generalize hnq : nc q = m4 at *
  go_upto_region 5 with (first | (at_builtin; (refine wpList_append_lies _ rfl _ _ 37 rfl lo 31 i2 (.pointer none) 1 8 Tryf.underlying37 HI2.out HZ2.out hz1 hz2 rfl (by decide) (.slice a4 m4 c4) m4 _ rfl (HR4.out.alloc _) ⟨W.heap.size, 0, none⟩ 1 1 [.pointer (some ⟨b0 + 1 + 1, 0, none⟩)] rfl rfl (cell_one_new _ _ _) (fun x hx => by simp at hx; subst hx; rfl) (by decide) (by unfold maxLen; omega) (by omega) (by simp; omega) (W.heap.size + 1) (by simp) ?_); intro g4 cap4 w4 hown4 hgrow4 hat4 hlt4; have KK := grown_keep SQ.out ((Below.refl _ _).alloc (Nat.le_refl _) _) hgrow4 NE4.out; have k3 := (KK.cell 2).trans (show _ = some (Value.slice a4 m4 c4) by simp); have k4 := KK.free 2; have k5 := KK.lt; have KB := Lib.hid (grown_keep B0.out ((Below.refl _ _).alloc (Nat.le_refl _) _) hgrow4 NEB.out); have HG4 := Lib.hid hgrow4; have HO4 := Lib.hid hown4; have HT4 := Lib.hid hat4; have l4 : g4 < w4.heap.size := hlt4; clear KK hgrow4 hown4 hat4 hlt4))
  obtain ⟨L2, mb2, F2, H2, st2, fo2, hF2, hB2⟩ := HC.out _ w4 HG4.out HO4.out (by
    have := SZ.out
    rcases HT4.out with e | e
    · exact .inl e.symm
    · exact .inr (by rw [e, this]; simp [Value.ownBlock]))
  have hnb : sa q ≠ b0 := by
    intro e
    have h1 := B0.out
    have h2 := SQ.out
    unfold Blk at h1 h2
    rw [e, h1] at h2
    cases h2
  have KB2 := Lib.hid (KB.out.setOther (a := ⟨sa q, 2, none⟩) (Ne.symm hnb) (Value.slice (some { block := g4, off := 0 }) (m4 + 1) cap4))
  clear k3 k4 k5 s2 s3 HG4 HO4 HT4 l4 h1 f1 fl' HC HR4 PB SZ KB B0 SQ NE4 NEB hlW
  generalize (w4.setCell { block := sa q, off := 2 } (Value.slice (some { block := g4, off := 0 }) (m4 + 1) cap4)) = V4 at *
  have x1 := fo2.sc st2 (j := q) (by omega)
  have x2 := fo2.sc st2 (j := n) (by omega)
  rw [up_ne sa _ (show q ≠ n by omega)] at x1
  rw [up_at] at x2
  have y1 := x1.cell 14
  have y2 := x1.cell 6
  have y3 := x2.cell 14
  have y4 := x2.cell 6
  have y5 := x2.free 14
  have y6 := x2.free 6
  have y7 := x1.lt
  have y8 := x2.lt
  simp at y1 y2 y3 y4
  obtain ⟨C4, c1, c2, -⟩ := fo2.pars
  have y9 := (st2.blk c1).cell 104
  rw [c2] at y9
  simp [up_ne sa _ (show q ≠ n by omega)] at y9
  have y10 := (st2.blk c1).free 104
  have y11 := (st2.blk c1).lt
  have nb1 : b0 + 1 + 1 ≠ b0 := by omega
  have hpb : p ≠ b0 + 1 + 1 := by omega
  have HH := Lib.hid (half2 (nc := nc) (chs := chs) st2 fo2 (up_at _ _ _) hF2 (by rw [hnq]) (by rw [hnq]) hB2)
  clear st2 fo2 hF2 hB2 x1 x2 c1 c2
  go_upto_region 8 with fail
  have B1 := Lib.hid (((KB2.out.setOther (a := ⟨b0 + 1 + 1, 14, none⟩) (by show b0 ≠ b0 + 1 + 1; omega) (Value.int .u8 0)).setOther (a := ⟨b0 + 1 + 1, 6, none⟩) (by show b0 ≠ b0 + 1 + 1; omega) (Value.int .i32 0)).setOther (a := ⟨p, 104, none⟩) (by simp; omega) (Value.pointer (some { block := b0 + 1 + 1, off := 0 })))
  clear y1 y2 y3 y4 y5 y6 y7 y8 y9 y10 y11 KB2 nb1
  generalize (((V4.setCell { block := b0 + 1 + 1, off := 14 } (Value.int IntKind.u8 0)).setCell { block := b0 + 1 + 1, off := 6 } (Value.int IntKind.i32 0)).setCell { block := p, off := 104 } (Value.pointer (some { block := b0 + 1 + 1, off := 0 }))) = V at *
  obtain ⟨nc', chs', sa', mb', L', F', H', s, f', hsa, hF, hN, hS, hB⟩ := HH.out
  obtain ⟨a, c, h177, hr, _, ⟨C', k1, k2⟩, hlV, hfin⟩ := fin (l := l) s f' hsa hF hN hS hB
  have HR := Lib.hid hr
  have HF := Lib.hid hfin
  have K1 := Lib.hid k1
  have K2 := Lib.hid k2
  have e0 := B1.out.cell 0
  have e1 := B1.out.lt
  have fV := k1.lt
  have f177 := k1.free 177
  simp at e0
  have HS := Lib.hid s
  have HFo := Lib.hid f'
  clear B1 HH hr hfin k1 k2 hF hN hS hB hb s f'
  go_upto_if 60 with fail
  go_cut [9] from 14 (fun s9 U => Hid (Below V.heap.size V U))
  case first =>
    rcases Nat.eq_zero_or_pos n with hn0 | hn0
    · exact absurd hqn (by omega)
    · obtain ⟨j, rfl⟩ : ∃ j, n = j + 1 := ⟨n - 1, by omega⟩
      have hj := HL.out j rfl
      obtain ⟨g, c2, g1, g2, g3, g4⟩ := HFo.out.at7 HS.out (j := j) (by omega)
      rw [h177] at g1
      injection g1 with g1
      injection g1 with g1 _ g5
      subst g1 g5
      generalize lc j = lj at *
      clear g2 hsa
      go_upto_region 9 with fail
      go_quiet (fail)
      go_wp2_with fail
      go_meet
      case rel => exact Lib.hid (below_drewN (Below.refl _ _) _)
  case rest =>
    have BU1 := hcut
    have x2 := HFo.out.sc HS.out (j := n) (by omega)
    rw [up_at, up_at, hsa] at x2
    have x1 := HFo.out.sc HS.out (j := q) (by omega)
    rw [up_ne kd _ (show q ≠ n by omega)] at x1
    have xm := (HS.out.box _ _ (HFo.out.scp q (by omega)).2).1
    have z1 := (x2.below BU1.out).cell 1
    have z2 := (x1.below BU1.out).cell 15
    have z3 := (x1.below BU1.out).cell 3
    have z4 := (x1.below BU1.out).lt
    have z5 := (x2.below BU1.out).lt
    simp at z1 z2 z3
    have zm : wc.heap[mb' q]? = some (.map #[] 0) := (BU1.out.block _ (heap_lt xm)).trans xm
    have rr := run_range_map (P := Tryf.prog) wc 38 9 179 (mb' q) #[] 0 Tryf.underlying38 zm
    have rn := fun ty => next_none wc ty (mb' q) zm
    clear hcut HS HFo hsa HL x1 x2 xm
    generalize wc = U1 at *
    go_upto_if 88 with fail
    go_cut [10, 11, 12] from 14 (fun s10 s11 s12 U2 => Hid (Below U1.heap.size U1 U2))
    case first =>
      by_cases hk8 : k = 8
      · have hkq := HK.out hk8
        subst hk8
        rw [hkq] at z2
        clear zm
        go_wp2_with fail
        refine wp_loop_rounds 1 ?_
        rw [rounds_succ]
        go_wp2_with fail
        go_meet
        case rel => exact Lib.hid ((Below.refl _ _).alloc (Nat.le_refl _) _)
      · have hk8' : (k == 8) = false := by rw [beq_eq_false_iff_ne]; exact hk8
        go_wp2_with fail
        go_meet
        case rel => exact Lib.hid (Below.refl _ _)
    case rest =>
    have BU := Lib.hid (below2 BU1.out hcut.out)
    clear hcut z1 z2 z3 z4 z5 zm rr rn BU1 HK
    generalize wc = U at *
    have HRU : Hid (U.ownsRow lo 176 2 (.slice a n c) n (F' 7).xs) := Lib.hid (own_kept HR.out fun g hg => BU.out.block g (own_ge HR.out hg).2)
    have KU := Lib.hid (K1.out.below BU.out)
    have NE := Lib.hid (own_ne HR.out K1.out (by decide))
    have m0 : U.cell? ⟨p, 177, none⟩ = some (.slice a n c) := bcell BU.out h177
    have m1 := KU.out.free 177
    have m2 := KU.out.lt
    have m3 : U.cell? ⟨b0, 0, none⟩ = some (.int .i32 l) := bcell BU.out e0
    have m4 : b0 < U.heap.size := Nat.lt_of_lt_of_le e1 BU.out.size
    have hlU : lo ≤ U.heap.size := Nat.le_trans hlV BU.out.size
    clear h177 e0 e1 f177 fV HR K1
    go_upto_region 22 with fail
    obtain ⟨i0, hi, hz⟩ := Option.map_eq_some_iff.1 infoO
    have hz1 : i0.size = 2 := by injection hz with _ hz; injection hz
    have hz2 : i0.bytes = 16 := by injection hz with _ hz; injection hz
    obtain ⟨zz, hz0, hzs⟩ : ∃ z, i0.zero = some z ∧ z.cells.size = 2 := by
      injection hz with hz _
      exact Option.map_eq_some_iff.1 hz
    clear hz
    have HI := Lib.hid hi
    have HZ := Lib.hid hz0
    clear hi hz0 z0 fl hlop
    refine wp_region_any (by kernel_rfl) ?_
    change wpAny _ _ _ _ _ _ _ (World.drew _)
    refine wpAny_take (i := 0) (oi := { dst := some 134, op := Op.move (Operand.tmp 0), type := 25, pos := "js_parser.go:1212", after := #[], guard := none }) (v := .pointer (some ⟨p, 0, none⟩)) rfl (by kernel_rfl) (by kernel_rfl) (by kernel_rfl) (fun _ _ _ h => h) (Or.inl ⟨by rfl, ?_⟩) ?_
    · intro w; go_simp
    try simp only [Act.put, List.setIfInBounds_toArray, List.set_cons_zero, List.set_cons_succ]
    refine wpAny_take (i := 1) (oi := { dst := some 135, op := Op.move (Operand.tmp 0), type := 25, pos := "js_parser.go:1212", after := #[], guard := none }) (v := .pointer (some ⟨p, 0, none⟩)) rfl (by kernel_rfl) (by kernel_rfl) (by kernel_rfl) (fun _ _ _ h => h) (Or.inl ⟨by rfl, ?_⟩) ?_
    · intro w; go_simp
    try simp only [Act.put, List.setIfInBounds_toArray, List.set_cons_zero, List.set_cons_succ]
    refine wpAny_take (i := 2) (oi := { dst := some 136, op := Op.nilCheck (Operand.tmp 135), type := 0, pos := "js_parser.go:1212", after := #[{ on := 1, ground := Ground.data }], guard := none }) (v := .pointer (some ⟨p, 0, none⟩)) rfl (by kernel_rfl) (by kernel_rfl) (by kernel_rfl) (fun _ _ _ h => h) (Or.inl ⟨by rfl, ?_⟩) ?_
    · intro w; go_simp
    try simp only [Act.put, List.setIfInBounds_toArray, List.set_cons_zero, List.set_cons_succ]
    refine wpAny_take (i := 3) (oi := { dst := some 137, op := Op.fieldAddr 174 (Operand.tmp 136) 48, type := 0, pos := "js_parser.go:1212", after := #[{ on := 2, ground := Ground.data }], guard := none }) (v := .pointer (some ⟨p, 177, none⟩)) rfl (by kernel_rfl) (by kernel_rfl) (by kernel_rfl) (fun _ _ _ h => h) (Or.inl ⟨by rfl, ?_⟩) ?_
    · intro w; go_simp
    try simp only [Act.put, List.setIfInBounds_toArray, List.set_cons_zero, List.set_cons_succ]
    refine wpAny_take (i := 6) (oi := { dst := some 140, op := Op.move (Operand.tmp 8), type := 31, pos := "js_parser.go:1212", after := #[], guard := none }) (v := .pointer (some ⟨b0 + 1 + 1, 0, none⟩)) rfl (by kernel_rfl) (by kernel_rfl) (by kernel_rfl) (fun _ _ _ h => h) (Or.inl ⟨by rfl, ?_⟩) ?_
    · intro w; go_simp
    try simp only [Act.put, List.setIfInBounds_toArray, List.set_cons_zero, List.set_cons_succ]
    refine wpAny_ready (rs := [4, 5]) (by kernel_rfl) (by simp) ?_
    refine AllReady.cons (o := { dst := some 138, op := Op.load 149 (Operand.tmp 137), type := 149, pos := "js_parser.go:1212", after := #[{ on := 3, ground := Ground.data }], guard := none }) rfl (fun K hK => ?_) ?_
    · rw [if_pos (by rfl)]
      go_big_op
      refine hK _ _ ?_
      clear hK K
      try simp only [Act.put, List.setIfInBounds_toArray, List.set_cons_zero, List.set_cons_succ]
      refine wpAny_ready (rs := [5]) (by kernel_rfl) (by simp) ?_
      refine AllReady.cons (o := { dst := some 139, op := Op.load 42 (Operand.tmp 5), type := 42, pos := "js_parser.go:1212", after := #[], guard := none }) rfl (fun K hK => ?_) ?_
      · rw [if_pos (by rfl)]
        go_big_op
        refine hK _ _ ?_
        clear hK K
        try simp only [Act.put, List.setIfInBounds_toArray, List.set_cons_zero, List.set_cons_succ]
        refine wpAny_ready (rs := [7]) (by kernel_rfl) (by simp) ?_
        refine AllReady.cons (o := { dst := some 141, op := Op.build 176 #[(1, Operand.tmp 139), (0, Operand.tmp 140)], type := 176, pos := "js_parser.go:1212", after := #[{ on := 5, ground := Ground.data }, { on := 6, ground := Ground.data }], guard := none }) rfl (fun K hK => ?_) ?_
        · rw [if_pos (by rfl)]
          go_big_op
          refine hK _ _ ?_
          clear hK K
          try simp only [Act.put, List.setIfInBounds_toArray, List.set_cons_zero, List.set_cons_succ]
          refine wpAny_ready (rs := [8]) (by kernel_rfl) (by simp) ?_
          refine AllReady.cons (o := { dst := some 142, op := Op.buildSlice 149 1 #[(0, Operand.tmp 141)], type := 149, pos := "js_parser.go:1212", after := #[{ on := 7, ground := Ground.data }], guard := none }) rfl (fun K hK => ?_) ?_
          · rw [if_pos (by rfl)]
            go_big_op
            refine hK _ _ ?_
            clear hK K
            try simp only [Act.put, List.setIfInBounds_toArray, List.set_cons_zero, List.set_cons_succ]
            refine wpAny_ready (rs := [9]) (by kernel_rfl) (by simp) ?_
            refine AllReady.cons (o := { dst := some 143, op := Op.call { callee := Callee.builtin Builtin.append, args := #[Operand.tmp 138, Operand.tmp 142], argTypes := #[149, 149] }, type := 149, pos := "js_parser.go:1212", after := #[{ on := 4, ground := Ground.data }, { on := 8, ground := Ground.data }], guard := none }) rfl (fun K hK => ?_) ?_
            · (refine step_append_lies _ (by rfl) _ _ _ (by rfl) lo 176 i0 zz 2 16 Tryf.underlying149 HI.out HZ.out hz1 hz2 hzs (by decide) (.slice a n c) n _ (by rfl) (HRU.out.alloc _) ⟨U.heap.size, 0, none⟩ 1 1 [.pointer (some ⟨b0 + 1 + 1, 0, none⟩), .int .i32 l] (by rfl) (by rfl) (World.news_of_block (cs := #[.pointer (some ⟨b0 + 1 + 1, 0, none⟩), .int .i32 l]) (heap_new' _ (by simp))) (by simp [Value.oneCell']) (by decide) (by unfold maxLen; omega) (by omega) (by simp; omega) (U.heap.size + 1) (by simp) ?_; intro gg cap w3 hown3 hgrow3 hat3 hlt3)
              have KK := grown_keep KU.out (by repeat (first | with_reducible exact Below.refl _ _ | with_reducible refine Below.drew ?_ | with_reducible refine Below.alloc ?_ (by simp <;> omega) _)) hgrow3 NE.out
              have k3 := (KK.cell 177).trans K2.out
              have k4 := KK.free 177
              have k5 := KK.lt
              have HG := Lib.hid hgrow3
              have HO := Lib.hid hown3
              have HT := Lib.hid hat3
              clear hgrow3 hown3 hat3 KK
              refine hK _ _ ?_
              clear hK K
              try simp only [Act.put, List.setIfInBounds_toArray, List.set_cons_zero, List.set_cons_succ]
              refine wpAny_take (i := 10) (oi := { dst := some 144, op := Op.nilCheck (Operand.tmp 134), type := 0, pos := "js_parser.go:1212", after := #[{ on := 0, ground := Ground.data }, { on := 0, ground := Ground.phase }, { on := 1, ground := Ground.phase }, { on := 2, ground := Ground.phase }, { on := 3, ground := Ground.phase }, { on := 4, ground := Ground.phase }, { on := 5, ground := Ground.phase }, { on := 6, ground := Ground.phase }, { on := 7, ground := Ground.phase }, { on := 8, ground := Ground.phase }, { on := 9, ground := Ground.phase }], guard := none }) (v := .pointer (some ⟨p, 0, none⟩)) rfl (by kernel_rfl) (by kernel_rfl) (by kernel_rfl) (fun _ _ _ h => h) (Or.inl ⟨by rfl, ?_⟩) ?_
              · intro w; go_simp
              try simp only [Act.put, List.setIfInBounds_toArray, List.set_cons_zero, List.set_cons_succ]
              refine wpAny_take (i := 11) (oi := { dst := some 145, op := Op.fieldAddr 174 (Operand.tmp 144) 48, type := 0, pos := "js_parser.go:1212", after := #[{ on := 10, ground := Ground.data }, { on := 0, ground := Ground.phase }, { on := 1, ground := Ground.phase }, { on := 2, ground := Ground.phase }, { on := 3, ground := Ground.phase }, { on := 4, ground := Ground.phase }, { on := 5, ground := Ground.phase }, { on := 6, ground := Ground.phase }, { on := 7, ground := Ground.phase }, { on := 8, ground := Ground.phase }, { on := 9, ground := Ground.phase }], guard := none }) (v := .pointer (some ⟨p, 177, none⟩)) rfl (by kernel_rfl) (by kernel_rfl) (by kernel_rfl) (fun _ _ _ h => h) (Or.inl ⟨by rfl, ?_⟩) ?_
              · intro w; go_simp
              try simp only [Act.put, List.setIfInBounds_toArray, List.set_cons_zero, List.set_cons_succ]
              refine wpAny_ready (rs := [12]) (by kernel_rfl) (by simp) ?_
              refine AllReady.cons (o := { dst := none, op := Op.store 149 (Operand.tmp 145) (Operand.tmp 143), type := 0, pos := "js_parser.go:1212", after := #[{ on := 11, ground := Ground.data }, { on := 9, ground := Ground.data }, { on := 9, ground := Ground.chain }, { on := 0, ground := Ground.phase }, { on := 1, ground := Ground.phase }, { on := 2, ground := Ground.phase }, { on := 3, ground := Ground.phase }, { on := 4, ground := Ground.phase }, { on := 5, ground := Ground.phase }, { on := 6, ground := Ground.phase }, { on := 7, ground := Ground.phase }, { on := 8, ground := Ground.phase }, { on := 9, ground := Ground.phase }], guard := none }) rfl (fun K hK => ?_) ?_
              · rw [if_pos (by rfl)]
                go_big_op
                refine hK _ _ ?_
                clear hK K
                try simp only [Act.put, List.setIfInBounds_toArray, List.set_cons_zero, List.set_cons_succ]
                refine wpAny_done (by kernel_rfl) ?_ _
                clear k3 k4 k5 m0 m1 m2 m3 m4
                go_wp2_with fail
                go_ret
                exact HF.out _ _ _ (below2 BU.out (by repeat (first | with_reducible exact Below.refl _ _ | with_reducible refine Below.drew ?_ | with_reducible refine Below.alloc ?_ (by simp <;> omega) _))) HG.out HO.out (by rcases HT.out with e | e; exact .inl e.symm; exact .inr (by rw [e]; simp [Value.ownBlock]))
              exact AllReady.nil
            exact AllReady.nil
          exact AllReady.nil
        exact AllReady.nil
      exact AllReady.nil
    refine AllReady.cons (o := { dst := some 139, op := Op.load 42 (Operand.tmp 5), type := 42, pos := "js_parser.go:1212", after := #[], guard := none }) rfl (fun K hK => ?_) ?_
    · rw [if_pos (by rfl)]
      go_big_op
      refine hK _ _ ?_
      clear hK K
      try simp only [Act.put, List.setIfInBounds_toArray, List.set_cons_zero, List.set_cons_succ]
      refine wpAny_ready (rs := [4, 7]) (by kernel_rfl) (by simp) ?_
      refine AllReady.cons (o := { dst := some 138, op := Op.load 149 (Operand.tmp 137), type := 149, pos := "js_parser.go:1212", after := #[{ on := 3, ground := Ground.data }], guard := none }) rfl (fun K hK => ?_) ?_
      · rw [if_pos (by rfl)]
        go_big_op
        refine hK _ _ ?_
        clear hK K
        try simp only [Act.put, List.setIfInBounds_toArray, List.set_cons_zero, List.set_cons_succ]
        refine wpAny_ready (rs := [7]) (by kernel_rfl) (by simp) ?_
        refine AllReady.cons (o := { dst := some 141, op := Op.build 176 #[(1, Operand.tmp 139), (0, Operand.tmp 140)], type := 176, pos := "js_parser.go:1212", after := #[{ on := 5, ground := Ground.data }, { on := 6, ground := Ground.data }], guard := none }) rfl (fun K hK => ?_) ?_
        · rw [if_pos (by rfl)]
          go_big_op
          refine hK _ _ ?_
          clear hK K
          try simp only [Act.put, List.setIfInBounds_toArray, List.set_cons_zero, List.set_cons_succ]
          refine wpAny_ready (rs := [8]) (by kernel_rfl) (by simp) ?_
          refine AllReady.cons (o := { dst := some 142, op := Op.buildSlice 149 1 #[(0, Operand.tmp 141)], type := 149, pos := "js_parser.go:1212", after := #[{ on := 7, ground := Ground.data }], guard := none }) rfl (fun K hK => ?_) ?_
          · rw [if_pos (by rfl)]
            go_big_op
            refine hK _ _ ?_
            clear hK K
            try simp only [Act.put, List.setIfInBounds_toArray, List.set_cons_zero, List.set_cons_succ]
            refine wpAny_ready (rs := [9]) (by kernel_rfl) (by simp) ?_
            refine AllReady.cons (o := { dst := some 143, op := Op.call { callee := Callee.builtin Builtin.append, args := #[Operand.tmp 138, Operand.tmp 142], argTypes := #[149, 149] }, type := 149, pos := "js_parser.go:1212", after := #[{ on := 4, ground := Ground.data }, { on := 8, ground := Ground.data }], guard := none }) rfl (fun K hK => ?_) ?_
            · (refine step_append_lies _ (by rfl) _ _ _ (by rfl) lo 176 i0 zz 2 16 Tryf.underlying149 HI.out HZ.out hz1 hz2 hzs (by decide) (.slice a n c) n _ (by rfl) (HRU.out.alloc _) ⟨U.heap.size, 0, none⟩ 1 1 [.pointer (some ⟨b0 + 1 + 1, 0, none⟩), .int .i32 l] (by rfl) (by rfl) (World.news_of_block (cs := #[.pointer (some ⟨b0 + 1 + 1, 0, none⟩), .int .i32 l]) (heap_new' _ (by simp))) (by simp [Value.oneCell']) (by decide) (by unfold maxLen; omega) (by omega) (by simp; omega) (U.heap.size + 1) (by simp) ?_; intro gg cap w3 hown3 hgrow3 hat3 hlt3)
              have KK := grown_keep KU.out (by repeat (first | with_reducible exact Below.refl _ _ | with_reducible refine Below.drew ?_ | with_reducible refine Below.alloc ?_ (by simp <;> omega) _)) hgrow3 NE.out
              have k3 := (KK.cell 177).trans K2.out
              have k4 := KK.free 177
              have k5 := KK.lt
              have HG := Lib.hid hgrow3
              have HO := Lib.hid hown3
              have HT := Lib.hid hat3
              clear hgrow3 hown3 hat3 KK
              refine hK _ _ ?_
              clear hK K
              try simp only [Act.put, List.setIfInBounds_toArray, List.set_cons_zero, List.set_cons_succ]
              refine wpAny_take (i := 10) (oi := { dst := some 144, op := Op.nilCheck (Operand.tmp 134), type := 0, pos := "js_parser.go:1212", after := #[{ on := 0, ground := Ground.data }, { on := 0, ground := Ground.phase }, { on := 1, ground := Ground.phase }, { on := 2, ground := Ground.phase }, { on := 3, ground := Ground.phase }, { on := 4, ground := Ground.phase }, { on := 5, ground := Ground.phase }, { on := 6, ground := Ground.phase }, { on := 7, ground := Ground.phase }, { on := 8, ground := Ground.phase }, { on := 9, ground := Ground.phase }], guard := none }) (v := .pointer (some ⟨p, 0, none⟩)) rfl (by kernel_rfl) (by kernel_rfl) (by kernel_rfl) (fun _ _ _ h => h) (Or.inl ⟨by rfl, ?_⟩) ?_
              · intro w; go_simp
              try simp only [Act.put, List.setIfInBounds_toArray, List.set_cons_zero, List.set_cons_succ]
              refine wpAny_take (i := 11) (oi := { dst := some 145, op := Op.fieldAddr 174 (Operand.tmp 144) 48, type := 0, pos := "js_parser.go:1212", after := #[{ on := 10, ground := Ground.data }, { on := 0, ground := Ground.phase }, { on := 1, ground := Ground.phase }, { on := 2, ground := Ground.phase }, { on := 3, ground := Ground.phase }, { on := 4, ground := Ground.phase }, { on := 5, ground := Ground.phase }, { on := 6, ground := Ground.phase }, { on := 7, ground := Ground.phase }, { on := 8, ground := Ground.phase }, { on := 9, ground := Ground.phase }], guard := none }) (v := .pointer (some ⟨p, 177, none⟩)) rfl (by kernel_rfl) (by kernel_rfl) (by kernel_rfl) (fun _ _ _ h => h) (Or.inl ⟨by rfl, ?_⟩) ?_
              · intro w; go_simp
              try simp only [Act.put, List.setIfInBounds_toArray, List.set_cons_zero, List.set_cons_succ]
              refine wpAny_ready (rs := [12]) (by kernel_rfl) (by simp) ?_
              refine AllReady.cons (o := { dst := none, op := Op.store 149 (Operand.tmp 145) (Operand.tmp 143), type := 0, pos := "js_parser.go:1212", after := #[{ on := 11, ground := Ground.data }, { on := 9, ground := Ground.data }, { on := 9, ground := Ground.chain }, { on := 0, ground := Ground.phase }, { on := 1, ground := Ground.phase }, { on := 2, ground := Ground.phase }, { on := 3, ground := Ground.phase }, { on := 4, ground := Ground.phase }, { on := 5, ground := Ground.phase }, { on := 6, ground := Ground.phase }, { on := 7, ground := Ground.phase }, { on := 8, ground := Ground.phase }, { on := 9, ground := Ground.phase }], guard := none }) rfl (fun K hK => ?_) ?_
              · rw [if_pos (by rfl)]
                go_big_op
                refine hK _ _ ?_
                clear hK K
                try simp only [Act.put, List.setIfInBounds_toArray, List.set_cons_zero, List.set_cons_succ]
                refine wpAny_done (by kernel_rfl) ?_ _
                clear k3 k4 k5 m0 m1 m2 m3 m4
                go_wp2_with fail
                go_ret
                exact HF.out _ _ _ (below2 BU.out (by repeat (first | with_reducible exact Below.refl _ _ | with_reducible refine Below.drew ?_ | with_reducible refine Below.alloc ?_ (by simp <;> omega) _))) HG.out HO.out (by rcases HT.out with e | e; exact .inl e.symm; exact .inr (by rw [e]; simp [Value.ownBlock]))
              exact AllReady.nil
            exact AllReady.nil
          exact AllReady.nil
        exact AllReady.nil
      refine AllReady.cons (o := { dst := some 141, op := Op.build 176 #[(1, Operand.tmp 139), (0, Operand.tmp 140)], type := 176, pos := "js_parser.go:1212", after := #[{ on := 5, ground := Ground.data }, { on := 6, ground := Ground.data }], guard := none }) rfl (fun K hK => ?_) ?_
      · rw [if_pos (by rfl)]
        go_big_op
        refine hK _ _ ?_
        clear hK K
        try simp only [Act.put, List.setIfInBounds_toArray, List.set_cons_zero, List.set_cons_succ]
        refine wpAny_ready (rs := [4, 8]) (by kernel_rfl) (by simp) ?_
        refine AllReady.cons (o := { dst := some 138, op := Op.load 149 (Operand.tmp 137), type := 149, pos := "js_parser.go:1212", after := #[{ on := 3, ground := Ground.data }], guard := none }) rfl (fun K hK => ?_) ?_
        · rw [if_pos (by rfl)]
          go_big_op
          refine hK _ _ ?_
          clear hK K
          try simp only [Act.put, List.setIfInBounds_toArray, List.set_cons_zero, List.set_cons_succ]
          refine wpAny_ready (rs := [8]) (by kernel_rfl) (by simp) ?_
          refine AllReady.cons (o := { dst := some 142, op := Op.buildSlice 149 1 #[(0, Operand.tmp 141)], type := 149, pos := "js_parser.go:1212", after := #[{ on := 7, ground := Ground.data }], guard := none }) rfl (fun K hK => ?_) ?_
          · rw [if_pos (by rfl)]
            go_big_op
            refine hK _ _ ?_
            clear hK K
            try simp only [Act.put, List.setIfInBounds_toArray, List.set_cons_zero, List.set_cons_succ]
            refine wpAny_ready (rs := [9]) (by kernel_rfl) (by simp) ?_
            refine AllReady.cons (o := { dst := some 143, op := Op.call { callee := Callee.builtin Builtin.append, args := #[Operand.tmp 138, Operand.tmp 142], argTypes := #[149, 149] }, type := 149, pos := "js_parser.go:1212", after := #[{ on := 4, ground := Ground.data }, { on := 8, ground := Ground.data }], guard := none }) rfl (fun K hK => ?_) ?_
            · (refine step_append_lies _ (by rfl) _ _ _ (by rfl) lo 176 i0 zz 2 16 Tryf.underlying149 HI.out HZ.out hz1 hz2 hzs (by decide) (.slice a n c) n _ (by rfl) (HRU.out.alloc _) ⟨U.heap.size, 0, none⟩ 1 1 [.pointer (some ⟨b0 + 1 + 1, 0, none⟩), .int .i32 l] (by rfl) (by rfl) (World.news_of_block (cs := #[.pointer (some ⟨b0 + 1 + 1, 0, none⟩), .int .i32 l]) (heap_new' _ (by simp))) (by simp [Value.oneCell']) (by decide) (by unfold maxLen; omega) (by omega) (by simp; omega) (U.heap.size + 1) (by simp) ?_; intro gg cap w3 hown3 hgrow3 hat3 hlt3)
              have KK := grown_keep KU.out (by repeat (first | with_reducible exact Below.refl _ _ | with_reducible refine Below.drew ?_ | with_reducible refine Below.alloc ?_ (by simp <;> omega) _)) hgrow3 NE.out
              have k3 := (KK.cell 177).trans K2.out
              have k4 := KK.free 177
              have k5 := KK.lt
              have HG := Lib.hid hgrow3
              have HO := Lib.hid hown3
              have HT := Lib.hid hat3
              clear hgrow3 hown3 hat3 KK
              refine hK _ _ ?_
              clear hK K
              try simp only [Act.put, List.setIfInBounds_toArray, List.set_cons_zero, List.set_cons_succ]
              refine wpAny_take (i := 10) (oi := { dst := some 144, op := Op.nilCheck (Operand.tmp 134), type := 0, pos := "js_parser.go:1212", after := #[{ on := 0, ground := Ground.data }, { on := 0, ground := Ground.phase }, { on := 1, ground := Ground.phase }, { on := 2, ground := Ground.phase }, { on := 3, ground := Ground.phase }, { on := 4, ground := Ground.phase }, { on := 5, ground := Ground.phase }, { on := 6, ground := Ground.phase }, { on := 7, ground := Ground.phase }, { on := 8, ground := Ground.phase }, { on := 9, ground := Ground.phase }], guard := none }) (v := .pointer (some ⟨p, 0, none⟩)) rfl (by kernel_rfl) (by kernel_rfl) (by kernel_rfl) (fun _ _ _ h => h) (Or.inl ⟨by rfl, ?_⟩) ?_
              · intro w; go_simp
              try simp only [Act.put, List.setIfInBounds_toArray, List.set_cons_zero, List.set_cons_succ]
              refine wpAny_take (i := 11) (oi := { dst := some 145, op := Op.fieldAddr 174 (Operand.tmp 144) 48, type := 0, pos := "js_parser.go:1212", after := #[{ on := 10, ground := Ground.data }, { on := 0, ground := Ground.phase }, { on := 1, ground := Ground.phase }, { on := 2, ground := Ground.phase }, { on := 3, ground := Ground.phase }, { on := 4, ground := Ground.phase }, { on := 5, ground := Ground.phase }, { on := 6, ground := Ground.phase }, { on := 7, ground := Ground.phase }, { on := 8, ground := Ground.phase }, { on := 9, ground := Ground.phase }], guard := none }) (v := .pointer (some ⟨p, 177, none⟩)) rfl (by kernel_rfl) (by kernel_rfl) (by kernel_rfl) (fun _ _ _ h => h) (Or.inl ⟨by rfl, ?_⟩) ?_
              · intro w; go_simp
              try simp only [Act.put, List.setIfInBounds_toArray, List.set_cons_zero, List.set_cons_succ]
              refine wpAny_ready (rs := [12]) (by kernel_rfl) (by simp) ?_
              refine AllReady.cons (o := { dst := none, op := Op.store 149 (Operand.tmp 145) (Operand.tmp 143), type := 0, pos := "js_parser.go:1212", after := #[{ on := 11, ground := Ground.data }, { on := 9, ground := Ground.data }, { on := 9, ground := Ground.chain }, { on := 0, ground := Ground.phase }, { on := 1, ground := Ground.phase }, { on := 2, ground := Ground.phase }, { on := 3, ground := Ground.phase }, { on := 4, ground := Ground.phase }, { on := 5, ground := Ground.phase }, { on := 6, ground := Ground.phase }, { on := 7, ground := Ground.phase }, { on := 8, ground := Ground.phase }, { on := 9, ground := Ground.phase }], guard := none }) rfl (fun K hK => ?_) ?_
              · rw [if_pos (by rfl)]
                go_big_op
                refine hK _ _ ?_
                clear hK K
                try simp only [Act.put, List.setIfInBounds_toArray, List.set_cons_zero, List.set_cons_succ]
                refine wpAny_done (by kernel_rfl) ?_ _
                clear k3 k4 k5 m0 m1 m2 m3 m4
                go_wp2_with fail
                go_ret
                exact HF.out _ _ _ (below2 BU.out (by repeat (first | with_reducible exact Below.refl _ _ | with_reducible refine Below.drew ?_ | with_reducible refine Below.alloc ?_ (by simp <;> omega) _))) HG.out HO.out (by rcases HT.out with e | e; exact .inl e.symm; exact .inr (by rw [e]; simp [Value.ownBlock]))
              exact AllReady.nil
            exact AllReady.nil
          exact AllReady.nil
        refine AllReady.cons (o := { dst := some 142, op := Op.buildSlice 149 1 #[(0, Operand.tmp 141)], type := 149, pos := "js_parser.go:1212", after := #[{ on := 7, ground := Ground.data }], guard := none }) rfl (fun K hK => ?_) ?_
        · rw [if_pos (by rfl)]
          go_big_op
          refine hK _ _ ?_
          clear hK K
          try simp only [Act.put, List.setIfInBounds_toArray, List.set_cons_zero, List.set_cons_succ]
          refine wpAny_ready (rs := [4]) (by kernel_rfl) (by simp) ?_
          refine AllReady.cons (o := { dst := some 138, op := Op.load 149 (Operand.tmp 137), type := 149, pos := "js_parser.go:1212", after := #[{ on := 3, ground := Ground.data }], guard := none }) rfl (fun K hK => ?_) ?_
          · rw [if_pos (by rfl)]
            go_big_op
            refine hK _ _ ?_
            clear hK K
            try simp only [Act.put, List.setIfInBounds_toArray, List.set_cons_zero, List.set_cons_succ]
            refine wpAny_ready (rs := [9]) (by kernel_rfl) (by simp) ?_
            refine AllReady.cons (o := { dst := some 143, op := Op.call { callee := Callee.builtin Builtin.append, args := #[Operand.tmp 138, Operand.tmp 142], argTypes := #[149, 149] }, type := 149, pos := "js_parser.go:1212", after := #[{ on := 4, ground := Ground.data }, { on := 8, ground := Ground.data }], guard := none }) rfl (fun K hK => ?_) ?_
            · (refine step_append_lies _ (by rfl) _ _ _ (by rfl) lo 176 i0 zz 2 16 Tryf.underlying149 HI.out HZ.out hz1 hz2 hzs (by decide) (.slice a n c) n _ (by rfl) (HRU.out.alloc _) ⟨U.heap.size, 0, none⟩ 1 1 [.pointer (some ⟨b0 + 1 + 1, 0, none⟩), .int .i32 l] (by rfl) (by rfl) (World.news_of_block (cs := #[.pointer (some ⟨b0 + 1 + 1, 0, none⟩), .int .i32 l]) (heap_new' _ (by simp))) (by simp [Value.oneCell']) (by decide) (by unfold maxLen; omega) (by omega) (by simp; omega) (U.heap.size + 1) (by simp) ?_; intro gg cap w3 hown3 hgrow3 hat3 hlt3)
              have KK := grown_keep KU.out (by repeat (first | with_reducible exact Below.refl _ _ | with_reducible refine Below.drew ?_ | with_reducible refine Below.alloc ?_ (by simp <;> omega) _)) hgrow3 NE.out
              have k3 := (KK.cell 177).trans K2.out
              have k4 := KK.free 177
              have k5 := KK.lt
              have HG := Lib.hid hgrow3
              have HO := Lib.hid hown3
              have HT := Lib.hid hat3
              clear hgrow3 hown3 hat3 KK
              refine hK _ _ ?_
              clear hK K
              try simp only [Act.put, List.setIfInBounds_toArray, List.set_cons_zero, List.set_cons_succ]
              refine wpAny_take (i := 10) (oi := { dst := some 144, op := Op.nilCheck (Operand.tmp 134), type := 0, pos := "js_parser.go:1212", after := #[{ on := 0, ground := Ground.data }, { on := 0, ground := Ground.phase }, { on := 1, ground := Ground.phase }, { on := 2, ground := Ground.phase }, { on := 3, ground := Ground.phase }, { on := 4, ground := Ground.phase }, { on := 5, ground := Ground.phase }, { on := 6, ground := Ground.phase }, { on := 7, ground := Ground.phase }, { on := 8, ground := Ground.phase }, { on := 9, ground := Ground.phase }], guard := none }) (v := .pointer (some ⟨p, 0, none⟩)) rfl (by kernel_rfl) (by kernel_rfl) (by kernel_rfl) (fun _ _ _ h => h) (Or.inl ⟨by rfl, ?_⟩) ?_
              · intro w; go_simp
              try simp only [Act.put, List.setIfInBounds_toArray, List.set_cons_zero, List.set_cons_succ]
              refine wpAny_take (i := 11) (oi := { dst := some 145, op := Op.fieldAddr 174 (Operand.tmp 144) 48, type := 0, pos := "js_parser.go:1212", after := #[{ on := 10, ground := Ground.data }, { on := 0, ground := Ground.phase }, { on := 1, ground := Ground.phase }, { on := 2, ground := Ground.phase }, { on := 3, ground := Ground.phase }, { on := 4, ground := Ground.phase }, { on := 5, ground := Ground.phase }, { on := 6, ground := Ground.phase }, { on := 7, ground := Ground.phase }, { on := 8, ground := Ground.phase }, { on := 9, ground := Ground.phase }], guard := none }) (v := .pointer (some ⟨p, 177, none⟩)) rfl (by kernel_rfl) (by kernel_rfl) (by kernel_rfl) (fun _ _ _ h => h) (Or.inl ⟨by rfl, ?_⟩) ?_
              · intro w; go_simp
              try simp only [Act.put, List.setIfInBounds_toArray, List.set_cons_zero, List.set_cons_succ]
              refine wpAny_ready (rs := [12]) (by kernel_rfl) (by simp) ?_
              refine AllReady.cons (o := { dst := none, op := Op.store 149 (Operand.tmp 145) (Operand.tmp 143), type := 0, pos := "js_parser.go:1212", after := #[{ on := 11, ground := Ground.data }, { on := 9, ground := Ground.data }, { on := 9, ground := Ground.chain }, { on := 0, ground := Ground.phase }, { on := 1, ground := Ground.phase }, { on := 2, ground := Ground.phase }, { on := 3, ground := Ground.phase }, { on := 4, ground := Ground.phase }, { on := 5, ground := Ground.phase }, { on := 6, ground := Ground.phase }, { on := 7, ground := Ground.phase }, { on := 8, ground := Ground.phase }, { on := 9, ground := Ground.phase }], guard := none }) rfl (fun K hK => ?_) ?_
              · rw [if_pos (by rfl)]
                go_big_op
                refine hK _ _ ?_
                clear hK K
                try simp only [Act.put, List.setIfInBounds_toArray, List.set_cons_zero, List.set_cons_succ]
                refine wpAny_done (by kernel_rfl) ?_ _
                clear k3 k4 k5 m0 m1 m2 m3 m4
                go_wp2_with fail
                go_ret
                exact HF.out _ _ _ (below2 BU.out (by repeat (first | with_reducible exact Below.refl _ _ | with_reducible refine Below.drew ?_ | with_reducible refine Below.alloc ?_ (by simp <;> omega) _))) HG.out HO.out (by rcases HT.out with e | e; exact .inl e.symm; exact .inr (by rw [e]; simp [Value.ownBlock]))
              exact AllReady.nil
            exact AllReady.nil
          exact AllReady.nil
        exact AllReady.nil
      exact AllReady.nil
    exact AllReady.nil
end
end Go.Proofs.YtocljdbihcikhaaFmt.psh
