/- The contract of 'pushScopeForParsePass': the walks. No conditions beyond the hypotheses. -/
import Derived.Test.YtocljdbihcikhaaFmtPshC
namespace Go.Proofs.YtocljdbihcikhaaFmt.psh
open Go.ChangeShapes Go.WideShapes Go.ChangeAt Go.RowKit Go.Mine
set_option linter.unusedVariables false
set_option linter.unusedSimpArgs false
set_option maxRecDepth 100000

section
variable {p n m : Nat} {cu : Option Nat} {par : Nat → Option Nat} {kd lc : Nat → Int} {nc : Nat → Nat} {chs : Nat → Nat → Nat} {sa mb : Nat → Nat} {lo : Nat} {L : Nat → Nat} {F : Nat → Rw} {H : Nat → Option Obj} {w : World} {k l : Int}
theorem below_drewN {B : Nat} {a w : World} (h : Below B a w) (m : Nat) : Below B a (w.drewN m) := ⟨h.os, h.tape, h.output, h.size, h.block⟩
theorem own_ne {w : World} {B e size n : Nat} {v : Value} {xs : List Value} (h : w.ownsRow B e size v n xs) {q : Nat} {C : Array Value} {t : TypeId} (hq : Blk w q C t) (ht : t ≠ e) : v.ownBlock ≠ some q := by
  rcases h.2 with ⟨rfl, _⟩ | ⟨g, cap, cur, rfl, hb, hg, rest⟩
  · simp [Value.ownBlock]
  · intro e1
    simp only [Value.ownBlock, Option.some.injEq] at e1
    subst e1
    unfold Blk at hq
    rw [hq] at hg
    injection hg with e1
    injection e1 with _ e1
    exact ht e1
theorem grown_keep {wr wA w3 : World} {P : Nat} {C : Array Value} {t : TypeId} {row : Option Nat} (hB : Blk wr P C t) (hA : Below wr.heap.size wr wA) (hg : wA.grownBy w3 row) (hne : row ≠ some P) : Blk w3 P C t :=
  (hg.block P (Nat.lt_of_lt_of_le hB.lt hA.size) (Ne.symm hne)).trans ((hA.block P hB.lt).trans hB)
theorem infoO : (Tryf.prog.info? 176).map (fun i => (i.zero.map (fun z => z.cells.size), i.size, i.bytes)) = some (some 2, 2, 16) := by kernel_rfl
theorem fin {b : Nat} {W : World} {L' F' H' nc' chs' sa' mb'} (s : ST lo L' F' H' W) (f : Fo p (n + 1) n (some n) (up par n cu) (up kd n k) lc nc' chs' sa' mb' F' H') (hsa : sa' n = b) (hF : ∀ i, i < 7 → F' i = F i)
    (hN : cu = none → nc' = nc ∧ chs' = chs) (hS : ∀ q, cu = some q → nc' = up nc q (nc q + 1) ∧ chs' = up chs q (up (chs q) (nc q) n)) (hB : Below lo w W) :
    ∃ a c, W.cell? ⟨p, 177, none⟩ = some (.slice a n c) ∧ W.ownsRow lo 176 2 (.slice a n c) n (F' 7).xs ∧ (∀ C T, Blk W p C T → T = 174) ∧ (∃ C, Blk W p C 174 ∧ C[177]? = some (.slice a n c)) ∧ lo ≤ W.heap.size ∧
      ∀ (WA w3 : World) (v' : Value), Below W.heap.size W WA → WA.grownBy w3 (Value.slice a n c).ownBlock → w3.ownsRow lo 176 2 v' (n + 1) ((F' 7).xs ++ [.pointer (some ⟨b, 0, none⟩), .int .i32 l]) →
        (v'.ownBlock = (Value.slice a n c).ownBlock ∨ v'.ownBlock = some WA.heap.size) → Pushed lo p n cu par kd lc nc chs F k l w (.returned (.int .i64 n)) (w3.setCell ⟨p, 177, none⟩ v') := by
  obtain ⟨a, c, h1, hv⟩ := f.sio s
  have hr := s.row 7 (by decide)
  rw [f.e7, f.z7, f.n7, hv] at hr
  obtain ⟨C, c1, _, c3⟩ := f.pars
  rw [hv] at c3
  obtain ⟨hp, hp2⟩ := f.lop s
  refine ⟨a, c, h1, hr, fun C' T hC' => ?_, ⟨C, s.blk c1, c3⟩, by omega, fun WA w3 v' hW hg ho hat => ?_⟩
  · have := s.blk c1
    unfold Blk at this hC'
    rw [this] at hC'
    injection hC' with e1
    injection e1 with _ e1
    exact e1.symm
  · rw [← hv] at hg hat
    obtain ⟨L2, F2, H2, s2, f2, hF2⟩ := f.order (s.kept hW) (Nat.lt_succ_self n) (l := l) hg (by rw [hsa]; exact ho) hat
    refine ⟨rfl, nc', chs', sa', mb', L2, F2, H2, s2, f2, fun i hi => (hF2 i hi).trans (hF i hi), hN, hS, ?_⟩
    have b1 : Below lo w WA := hB.trans (hW.mono (by omega))
    refine (Below.grown b1 hg ?_ (fun g hg => (own_ge (s.row 7 (by decide)) hg).1)).setCell (p := ⟨p, 177, none⟩) hp _
    have := hW.size
    omega
set_option maxHeartbeats 4000000 in
theorem push14n (f : Fo p n n none par kd lc nc chs sa mb F H) (h : ST lo L F H w) (hI : IRef w) (hk : k ≠ 8) (hl : ∀ j, n = j + 1 → lc j < l) (hn : n ≤ 65536) :
    Calls Tryf.prog 14 #[.pointer (some ⟨p, 0, none⟩), .int .u8 k, .agg #[.int .i32 l]] w (Pushed lo p n none par kd lc nc chs F k l w) := by
  have h0 : w.cell? ⟨p, 104, none⟩ = some (.pointer none) := f.cur h
  obtain ⟨C, k1, -⟩ := f.pars
  have f0 := (h.blk k1).free 104
  obtain ⟨hlop, fl⟩ := f.lop h
  have fl1 : p < w.heap.size + 1 := by omega
  have fl2 : p < w.heap.size + 1 + 1 := by omega
  have fl3 : p < w.heap.size + 1 + 1 + 1 := by omega
  have z0 : 0 < w.heap.size := by omega
  have i0 := hI.c0
  have i1 := hI.c1
  have q2 := fun w' => run_makeMap (P := Tryf.prog) 38 w'
  have HH := half_none (k := k) (l := l) f h
  have B0 : Blk (mk3 w k l (.pointer none)) w.heap.size #[.int .i32 l] 42 := (Blk.new w #[.int .i32 l] 42).below (((Below.refl _ _).alloc (by simp) _).alloc (by simp <;> omega) _)
  have f1 : (mk3 w k l (.pointer none)).frozen? ⟨p, 104, none⟩ = false := ((h.blk k1).below (mk3_below w k l _)).free 104
  have h1 : (mk3 w k l (.pointer none)).cell? ⟨p, 104, none⟩ = some (.pointer none) := bcell (mk3_below w k l _) h0
  have fl' : p < (mk3 w k l (.pointer none)).heap.size := by simp; omega
  simp only [mk3] at HH B0 f1 h1 fl'
  replace HH := Lib.hid HH
  replace B0 := Lib.hid B0
  have HL := Lib.hid hl
  clear k1 hI f h hl
  go_enter Tryf.func14, Tryf.ntmps14
  go_upto_region 3 with fail
  generalize (((w.alloc (Obj.cells #[Value.int IntKind.i32 l] 42)).alloc (Obj.map #[] 0)).alloc _) = W at *
  generalize hb : w.heap.size = b0 at *
  clear q2 i0 i1 h0 f0 fl1 fl2 fl3
  go_upto_region 8 with fail
  have B1 := Lib.hid (B0.out.setOther (a := ⟨p, 104, none⟩) (by simp; omega) (Value.pointer (some { block := b0 + 1 + 1, off := 0 })))
  generalize (W.setCell { block := p, off := 104 } (Value.pointer (some { block := b0 + 1 + 1, off := 0 }))) = V at *
  obtain ⟨nc', chs', sa', mb', L', F', H', s, f', hsa, hF, hN, hS, hB⟩ := HH.out
  obtain ⟨a, c, h177, hr, _, ⟨C', k1, k2⟩, hlV, hfin⟩ := fin (l := l) s f' hsa hF hN hS hB
  have HR := Lib.hid hr
  have HF := Lib.hid hfin
  have K1 := Lib.hid k1
  have K2 := Lib.hid k2
  have e0 := B1.out.cell 0
  have e1 := B1.out.lt
  have fV := k1.lt
  have f177 := k1.free 177
  simp at e0
  have HS := Lib.hid s
  have HFo := Lib.hid f'
  clear B0 B1 HH hr hfin k1 k2 h1 f1 fl' hF hN hS hB hb s f'
  go_upto_if 60 with fail
  go_cut [9] from 14 (fun s9 U => Hid (Below V.heap.size V U))
  case first =>
    rcases Nat.eq_zero_or_pos n with hn0 | hn0
    · subst hn0
      go_wp2_with fail
      go_meet
      case rel => exact Lib.hid (Below.refl _ _)
    · obtain ⟨j, rfl⟩ : ∃ j, n = j + 1 := ⟨n - 1, by omega⟩
      have hj := HL.out j rfl
      obtain ⟨g, c2, g1, g2, g3, g4⟩ := HFo.out.at7 HS.out (j := j) (by omega)
      rw [h177] at g1
      injection g1 with g1
      injection g1 with g1 _ g5
      subst g1 g5
      generalize lc j = lj at *
      clear g2 hsa
      go_upto_region 9 with fail
      go_quiet (fail)
      go_wp2_with fail
      go_meet
      case rel => exact Lib.hid (below_drewN (Below.refl _ _) _)
  case rest =>
    have BU := hcut
    clear hcut HS HFo hsa HL
    generalize wc = U at *
    have HRU : Hid (U.ownsRow lo 176 2 (.slice a n c) n (F' 7).xs) := Lib.hid (own_kept HR.out fun g hg => BU.out.block g (own_ge HR.out hg).2)
    have KU := Lib.hid (K1.out.below BU.out)
    have NE := Lib.hid (own_ne HR.out K1.out (by decide))
    have m0 : U.cell? ⟨p, 177, none⟩ = some (.slice a n c) := bcell BU.out h177
    have m1 := KU.out.free 177
    have m2 := KU.out.lt
    have m3 : U.cell? ⟨b0, 0, none⟩ = some (.int .i32 l) := bcell BU.out e0
    have m4 : b0 < U.heap.size := Nat.lt_of_lt_of_le e1 BU.out.size
    have hlU : lo ≤ U.heap.size := Nat.le_trans hlV BU.out.size
    clear h177 e0 e1 f177 fV HR K1
    go_upto_region 22 with fail
    obtain ⟨i0, hi, hz⟩ := Option.map_eq_some_iff.1 infoO
    have hz1 : i0.size = 2 := by injection hz with _ hz; injection hz
    have hz2 : i0.bytes = 16 := by injection hz with _ hz; injection hz
    obtain ⟨zz, hz0, hzs⟩ : ∃ z, i0.zero = some z ∧ z.cells.size = 2 := by
      injection hz with hz _
      exact Option.map_eq_some_iff.1 hz
    clear hz
    have HI := Lib.hid hi
    have HZ := Lib.hid hz0
    clear hi hz0 z0 fl hlop
    refine wp_region_any (by kernel_rfl) ?_
    change wpAny _ _ _ _ _ _ _ (World.drew _)
    refine wpAny_take (i := 0) (oi := { dst := some 134, op := Op.move (Operand.tmp 0), type := 25, pos := "js_parser.go:1212", after := #[], guard := none }) (v := .pointer (some ⟨p, 0, none⟩)) rfl (by kernel_rfl) (by kernel_rfl) (by kernel_rfl) (fun _ _ _ h => h) (Or.inl ⟨by rfl, ?_⟩) ?_
    · intro w; go_simp
    try simp only [Act.put, List.setIfInBounds_toArray, List.set_cons_zero, List.set_cons_succ]
    refine wpAny_take (i := 1) (oi := { dst := some 135, op := Op.move (Operand.tmp 0), type := 25, pos := "js_parser.go:1212", after := #[], guard := none }) (v := .pointer (some ⟨p, 0, none⟩)) rfl (by kernel_rfl) (by kernel_rfl) (by kernel_rfl) (fun _ _ _ h => h) (Or.inl ⟨by rfl, ?_⟩) ?_
    · intro w; go_simp
    try simp only [Act.put, List.setIfInBounds_toArray, List.set_cons_zero, List.set_cons_succ]
    refine wpAny_take (i := 2) (oi := { dst := some 136, op := Op.nilCheck (Operand.tmp 135), type := 0, pos := "js_parser.go:1212", after := #[{ on := 1, ground := Ground.data }], guard := none }) (v := .pointer (some ⟨p, 0, none⟩)) rfl (by kernel_rfl) (by kernel_rfl) (by kernel_rfl) (fun _ _ _ h => h) (Or.inl ⟨by rfl, ?_⟩) ?_
    · intro w; go_simp
    try simp only [Act.put, List.setIfInBounds_toArray, List.set_cons_zero, List.set_cons_succ]
    refine wpAny_take (i := 3) (oi := { dst := some 137, op := Op.fieldAddr 174 (Operand.tmp 136) 48, type := 0, pos := "js_parser.go:1212", after := #[{ on := 2, ground := Ground.data }], guard := none }) (v := .pointer (some ⟨p, 177, none⟩)) rfl (by kernel_rfl) (by kernel_rfl) (by kernel_rfl) (fun _ _ _ h => h) (Or.inl ⟨by rfl, ?_⟩) ?_
    · intro w; go_simp
    try simp only [Act.put, List.setIfInBounds_toArray, List.set_cons_zero, List.set_cons_succ]
    refine wpAny_take (i := 6) (oi := { dst := some 140, op := Op.move (Operand.tmp 8), type := 31, pos := "js_parser.go:1212", after := #[], guard := none }) (v := .pointer (some ⟨b0 + 1 + 1, 0, none⟩)) rfl (by kernel_rfl) (by kernel_rfl) (by kernel_rfl) (fun _ _ _ h => h) (Or.inl ⟨by rfl, ?_⟩) ?_
    · intro w; go_simp
    try simp only [Act.put, List.setIfInBounds_toArray, List.set_cons_zero, List.set_cons_succ]
    refine wpAny_ready (rs := [4, 5]) (by kernel_rfl) (by simp) ?_
    refine AllReady.cons (o := { dst := some 138, op := Op.load 149 (Operand.tmp 137), type := 149, pos := "js_parser.go:1212", after := #[{ on := 3, ground := Ground.data }], guard := none }) rfl (fun K hK => ?_) ?_
    · rw [if_pos (by rfl)]
      go_big_op
      refine hK _ _ ?_
      clear hK K
      try simp only [Act.put, List.setIfInBounds_toArray, List.set_cons_zero, List.set_cons_succ]
      refine wpAny_ready (rs := [5]) (by kernel_rfl) (by simp) ?_
      refine AllReady.cons (o := { dst := some 139, op := Op.load 42 (Operand.tmp 5), type := 42, pos := "js_parser.go:1212", after := #[], guard := none }) rfl (fun K hK => ?_) ?_
      · rw [if_pos (by rfl)]
        go_big_op
        refine hK _ _ ?_
        clear hK K
        try simp only [Act.put, List.setIfInBounds_toArray, List.set_cons_zero, List.set_cons_succ]
        refine wpAny_ready (rs := [7]) (by kernel_rfl) (by simp) ?_
        refine AllReady.cons (o := { dst := some 141, op := Op.build 176 #[(1, Operand.tmp 139), (0, Operand.tmp 140)], type := 176, pos := "js_parser.go:1212", after := #[{ on := 5, ground := Ground.data }, { on := 6, ground := Ground.data }], guard := none }) rfl (fun K hK => ?_) ?_
        · rw [if_pos (by rfl)]
          go_big_op
          refine hK _ _ ?_
          clear hK K
          try simp only [Act.put, List.setIfInBounds_toArray, List.set_cons_zero, List.set_cons_succ]
          refine wpAny_ready (rs := [8]) (by kernel_rfl) (by simp) ?_
          refine AllReady.cons (o := { dst := some 142, op := Op.buildSlice 149 1 #[(0, Operand.tmp 141)], type := 149, pos := "js_parser.go:1212", after := #[{ on := 7, ground := Ground.data }], guard := none }) rfl (fun K hK => ?_) ?_
          · rw [if_pos (by rfl)]
            go_big_op
            refine hK _ _ ?_
            clear hK K
            try simp only [Act.put, List.setIfInBounds_toArray, List.set_cons_zero, List.set_cons_succ]
            refine wpAny_ready (rs := [9]) (by kernel_rfl) (by simp) ?_
            refine AllReady.cons (o := { dst := some 143, op := Op.call { callee := Callee.builtin Builtin.append, args := #[Operand.tmp 138, Operand.tmp 142], argTypes := #[149, 149] }, type := 149, pos := "js_parser.go:1212", after := #[{ on := 4, ground := Ground.data }, { on := 8, ground := Ground.data }], guard := none }) rfl (fun K hK => ?_) ?_
            · (refine step_append_lies _ (by rfl) _ _ _ (by rfl) lo 176 i0 zz 2 16 Tryf.underlying149 HI.out HZ.out hz1 hz2 hzs (by decide) (.slice a n c) n _ (by rfl) (HRU.out.alloc _) ⟨U.heap.size, 0, none⟩ 1 1 [.pointer (some ⟨b0 + 1 + 1, 0, none⟩), .int .i32 l] (by rfl) (by rfl) (World.news_of_block (cs := #[.pointer (some ⟨b0 + 1 + 1, 0, none⟩), .int .i32 l]) (heap_new' _ (by simp))) (by simp [Value.oneCell']) (by decide) (by unfold maxLen; omega) (by omega) (by simp; omega) (U.heap.size + 1) (by simp) ?_; intro gg cap w3 hown3 hgrow3 hat3 hlt3)
              have KK := grown_keep KU.out (by repeat (first | with_reducible exact Below.refl _ _ | with_reducible refine Below.drew ?_ | with_reducible refine Below.alloc ?_ (by simp <;> omega) _)) hgrow3 NE.out
              have k3 := (KK.cell 177).trans K2.out
              have k4 := KK.free 177
              have k5 := KK.lt
              have HG := Lib.hid hgrow3
              have HO := Lib.hid hown3
              have HT := Lib.hid hat3
              clear hgrow3 hown3 hat3 KK
              refine hK _ _ ?_
              clear hK K
              try simp only [Act.put, List.setIfInBounds_toArray, List.set_cons_zero, List.set_cons_succ]
              refine wpAny_take (i := 10) (oi := { dst := some 144, op := Op.nilCheck (Operand.tmp 134), type := 0, pos := "js_parser.go:1212", after := #[{ on := 0, ground := Ground.data }, { on := 0, ground := Ground.phase }, { on := 1, ground := Ground.phase }, { on := 2, ground := Ground.phase }, { on := 3, ground := Ground.phase }, { on := 4, ground := Ground.phase }, { on := 5, ground := Ground.phase }, { on := 6, ground := Ground.phase }, { on := 7, ground := Ground.phase }, { on := 8, ground := Ground.phase }, { on := 9, ground := Ground.phase }], guard := none }) (v := .pointer (some ⟨p, 0, none⟩)) rfl (by kernel_rfl) (by kernel_rfl) (by kernel_rfl) (fun _ _ _ h => h) (Or.inl ⟨by rfl, ?_⟩) ?_
              · intro w; go_simp
              try simp only [Act.put, List.setIfInBounds_toArray, List.set_cons_zero, List.set_cons_succ]
              refine wpAny_take (i := 11) (oi := { dst := some 145, op := Op.fieldAddr 174 (Operand.tmp 144) 48, type := 0, pos := "js_parser.go:1212", after := #[{ on := 10, ground := Ground.data }, { on := 0, ground := Ground.phase }, { on := 1, ground := Ground.phase }, { on := 2, ground := Ground.phase }, { on := 3, ground := Ground.phase }, { on := 4, ground := Ground.phase }, { on := 5, ground := Ground.phase }, { on := 6, ground := Ground.phase }, { on := 7, ground := Ground.phase }, { on := 8, ground := Ground.phase }, { on := 9, ground := Ground.phase }], guard := none }) (v := .pointer (some ⟨p, 177, none⟩)) rfl (by kernel_rfl) (by kernel_rfl) (by kernel_rfl) (fun _ _ _ h => h) (Or.inl ⟨by rfl, ?_⟩) ?_
              · intro w; go_simp
              try simp only [Act.put, List.setIfInBounds_toArray, List.set_cons_zero, List.set_cons_succ]
              refine wpAny_ready (rs := [12]) (by kernel_rfl) (by simp) ?_
              refine AllReady.cons (o := { dst := none, op := Op.store 149 (Operand.tmp 145) (Operand.tmp 143), type := 0, pos := "js_parser.go:1212", after := #[{ on := 11, ground := Ground.data }, { on := 9, ground := Ground.data }, { on := 9, ground := Ground.chain }, { on := 0, ground := Ground.phase }, { on := 1, ground := Ground.phase }, { on := 2, ground := Ground.phase }, { on := 3, ground := Ground.phase }, { on := 4, ground := Ground.phase }, { on := 5, ground := Ground.phase }, { on := 6, ground := Ground.phase }, { on := 7, ground := Ground.phase }, { on := 8, ground := Ground.phase }, { on := 9, ground := Ground.phase }], guard := none }) rfl (fun K hK => ?_) ?_
              · rw [if_pos (by rfl)]
                go_big_op
                refine hK _ _ ?_
                clear hK K
                try simp only [Act.put, List.setIfInBounds_toArray, List.set_cons_zero, List.set_cons_succ]
                refine wpAny_done (by kernel_rfl) ?_ _
                clear k3 k4 k5 m0 m1 m2 m3 m4
                go_wp2_with fail
                go_ret
                exact HF.out _ _ _ (below2 BU.out (by repeat (first | with_reducible exact Below.refl _ _ | with_reducible refine Below.drew ?_ | with_reducible refine Below.alloc ?_ (by simp <;> omega) _))) HG.out HO.out (by rcases HT.out with e | e; exact .inl e.symm; exact .inr (by rw [e]; simp [Value.ownBlock]))
              exact AllReady.nil
            exact AllReady.nil
          exact AllReady.nil
        exact AllReady.nil
      exact AllReady.nil
    refine AllReady.cons (o := { dst := some 139, op := Op.load 42 (Operand.tmp 5), type := 42, pos := "js_parser.go:1212", after := #[], guard := none }) rfl (fun K hK => ?_) ?_
    · rw [if_pos (by rfl)]
      go_big_op
      refine hK _ _ ?_
      clear hK K
      try simp only [Act.put, List.setIfInBounds_toArray, List.set_cons_zero, List.set_cons_succ]
      refine wpAny_ready (rs := [4, 7]) (by kernel_rfl) (by simp) ?_
      refine AllReady.cons (o := { dst := some 138, op := Op.load 149 (Operand.tmp 137), type := 149, pos := "js_parser.go:1212", after := #[{ on := 3, ground := Ground.data }], guard := none }) rfl (fun K hK => ?_) ?_
      · rw [if_pos (by rfl)]
        go_big_op
        refine hK _ _ ?_
        clear hK K
        try simp only [Act.put, List.setIfInBounds_toArray, List.set_cons_zero, List.set_cons_succ]
        refine wpAny_ready (rs := [7]) (by kernel_rfl) (by simp) ?_
        refine AllReady.cons (o := { dst := some 141, op := Op.build 176 #[(1, Operand.tmp 139), (0, Operand.tmp 140)], type := 176, pos := "js_parser.go:1212", after := #[{ on := 5, ground := Ground.data }, { on := 6, ground := Ground.data }], guard := none }) rfl (fun K hK => ?_) ?_
        · rw [if_pos (by rfl)]
          go_big_op
          refine hK _ _ ?_
          clear hK K
          try simp only [Act.put, List.setIfInBounds_toArray, List.set_cons_zero, List.set_cons_succ]
          refine wpAny_ready (rs := [8]) (by kernel_rfl) (by simp) ?_
          refine AllReady.cons (o := { dst := some 142, op := Op.buildSlice 149 1 #[(0, Operand.tmp 141)], type := 149, pos := "js_parser.go:1212", after := #[{ on := 7, ground := Ground.data }], guard := none }) rfl (fun K hK => ?_) ?_
          · rw [if_pos (by rfl)]
            go_big_op
            refine hK _ _ ?_
            clear hK K
            try simp only [Act.put, List.setIfInBounds_toArray, List.set_cons_zero, List.set_cons_succ]
            refine wpAny_ready (rs := [9]) (by kernel_rfl) (by simp) ?_
            refine AllReady.cons (o := { dst := some 143, op := Op.call { callee := Callee.builtin Builtin.append, args := #[Operand.tmp 138, Operand.tmp 142], argTypes := #[149, 149] }, type := 149, pos := "js_parser.go:1212", after := #[{ on := 4, ground := Ground.data }, { on := 8, ground := Ground.data }], guard := none }) rfl (fun K hK => ?_) ?_
            · (refine step_append_lies _ (by rfl) _ _ _ (by rfl) lo 176 i0 zz 2 16 Tryf.underlying149 HI.out HZ.out hz1 hz2 hzs (by decide) (.slice a n c) n _ (by rfl) (HRU.out.alloc _) ⟨U.heap.size, 0, none⟩ 1 1 [.pointer (some ⟨b0 + 1 + 1, 0, none⟩), .int .i32 l] (by rfl) (by rfl) (World.news_of_block (cs := #[.pointer (some ⟨b0 + 1 + 1, 0, none⟩), .int .i32 l]) (heap_new' _ (by simp))) (by simp [Value.oneCell']) (by decide) (by unfold maxLen; omega) (by omega) (by simp; omega) (U.heap.size + 1) (by simp) ?_; intro gg cap w3 hown3 hgrow3 hat3 hlt3)
              have KK := grown_keep KU.out (by repeat (first | with_reducible exact Below.refl _ _ | with_reducible refine Below.drew ?_ | with_reducible refine Below.alloc ?_ (by simp <;> omega) _)) hgrow3 NE.out
              have k3 := (KK.cell 177).trans K2.out
              have k4 := KK.free 177
              have k5 := KK.lt
              have HG := Lib.hid hgrow3
              have HO := Lib.hid hown3
              have HT := Lib.hid hat3
              clear hgrow3 hown3 hat3 KK
              refine hK _ _ ?_
              clear hK K
              try simp only [Act.put, List.setIfInBounds_toArray, List.set_cons_zero, List.set_cons_succ]
              refine wpAny_take (i := 10) (oi := { dst := some 144, op := Op.nilCheck (Operand.tmp 134), type := 0, pos := "js_parser.go:1212", after := #[{ on := 0, ground := Ground.data }, { on := 0, ground := Ground.phase }, { on := 1, ground := Ground.phase }, { on := 2, ground := Ground.phase }, { on := 3, ground := Ground.phase }, { on := 4, ground := Ground.phase }, { on := 5, ground := Ground.phase }, { on := 6, ground := Ground.phase }, { on := 7, ground := Ground.phase }, { on := 8, ground := Ground.phase }, { on := 9, ground := Ground.phase }], guard := none }) (v := .pointer (some ⟨p, 0, none⟩)) rfl (by kernel_rfl) (by kernel_rfl) (by kernel_rfl) (fun _ _ _ h => h) (Or.inl ⟨by rfl, ?_⟩) ?_
              · intro w; go_simp
              try simp only [Act.put, List.setIfInBounds_toArray, List.set_cons_zero, List.set_cons_succ]
              refine wpAny_take (i := 11) (oi := { dst := some 145, op := Op.fieldAddr 174 (Operand.tmp 144) 48, type := 0, pos := "js_parser.go:1212", after := #[{ on := 10, ground := Ground.data }, { on := 0, ground := Ground.phase }, { on := 1, ground := Ground.phase }, { on := 2, ground := Ground.phase }, { on := 3, ground := Ground.phase }, { on := 4, ground := Ground.phase }, { on := 5, ground := Ground.phase }, { on := 6, ground := Ground.phase }, { on := 7, ground := Ground.phase }, { on := 8, ground := Ground.phase }, { on := 9, ground := Ground.phase }], guard := none }) (v := .pointer (some ⟨p, 177, none⟩)) rfl (by kernel_rfl) (by kernel_rfl) (by kernel_rfl) (fun _ _ _ h => h) (Or.inl ⟨by rfl, ?_⟩) ?_
              · intro w; go_simp
              try simp only [Act.put, List.setIfInBounds_toArray, List.set_cons_zero, List.set_cons_succ]
              refine wpAny_ready (rs := [12]) (by kernel_rfl) (by simp) ?_
              refine AllReady.cons (o := { dst := none, op := Op.store 149 (Operand.tmp 145) (Operand.tmp 143), type := 0, pos := "js_parser.go:1212", after := #[{ on := 11, ground := Ground.data }, { on := 9, ground := Ground.data }, { on := 9, ground := Ground.chain }, { on := 0, ground := Ground.phase }, { on := 1, ground := Ground.phase }, { on := 2, ground := Ground.phase }, { on := 3, ground := Ground.phase }, { on := 4, ground := Ground.phase }, { on := 5, ground := Ground.phase }, { on := 6, ground := Ground.phase }, { on := 7, ground := Ground.phase }, { on := 8, ground := Ground.phase }, { on := 9, ground := Ground.phase }], guard := none }) rfl (fun K hK => ?_) ?_
              · rw [if_pos (by rfl)]
                go_big_op
                refine hK _ _ ?_
                clear hK K
                try simp only [Act.put, List.setIfInBounds_toArray, List.set_cons_zero, List.set_cons_succ]
                refine wpAny_done (by kernel_rfl) ?_ _
                clear k3 k4 k5 m0 m1 m2 m3 m4
                go_wp2_with fail
                go_ret
                exact HF.out _ _ _ (below2 BU.out (by repeat (first | with_reducible exact Below.refl _ _ | with_reducible refine Below.drew ?_ | with_reducible refine Below.alloc ?_ (by simp <;> omega) _))) HG.out HO.out (by rcases HT.out with e | e; exact .inl e.symm; exact .inr (by rw [e]; simp [Value.ownBlock]))
              exact AllReady.nil
            exact AllReady.nil
          exact AllReady.nil
        exact AllReady.nil
      refine AllReady.cons (o := { dst := some 141, op := Op.build 176 #[(1, Operand.tmp 139), (0, Operand.tmp 140)], type := 176, pos := "js_parser.go:1212", after := #[{ on := 5, ground := Ground.data }, { on := 6, ground := Ground.data }], guard := none }) rfl (fun K hK => ?_) ?_
      · rw [if_pos (by rfl)]
        go_big_op
        refine hK _ _ ?_
        clear hK K
        try simp only [Act.put, List.setIfInBounds_toArray, List.set_cons_zero, List.set_cons_succ]
        refine wpAny_ready (rs := [4, 8]) (by kernel_rfl) (by simp) ?_
        refine AllReady.cons (o := { dst := some 138, op := Op.load 149 (Operand.tmp 137), type := 149, pos := "js_parser.go:1212", after := #[{ on := 3, ground := Ground.data }], guard := none }) rfl (fun K hK => ?_) ?_
        · rw [if_pos (by rfl)]
          go_big_op
          refine hK _ _ ?_
          clear hK K
          try simp only [Act.put, List.setIfInBounds_toArray, List.set_cons_zero, List.set_cons_succ]
          refine wpAny_ready (rs := [8]) (by kernel_rfl) (by simp) ?_
          refine AllReady.cons (o := { dst := some 142, op := Op.buildSlice 149 1 #[(0, Operand.tmp 141)], type := 149, pos := "js_parser.go:1212", after := #[{ on := 7, ground := Ground.data }], guard := none }) rfl (fun K hK => ?_) ?_
          · rw [if_pos (by rfl)]
            go_big_op
            refine hK _ _ ?_
            clear hK K
            try simp only [Act.put, List.setIfInBounds_toArray, List.set_cons_zero, List.set_cons_succ]
            refine wpAny_ready (rs := [9]) (by kernel_rfl) (by simp) ?_
            refine AllReady.cons (o := { dst := some 143, op := Op.call { callee := Callee.builtin Builtin.append, args := #[Operand.tmp 138, Operand.tmp 142], argTypes := #[149, 149] }, type := 149, pos := "js_parser.go:1212", after := #[{ on := 4, ground := Ground.data }, { on := 8, ground := Ground.data }], guard := none }) rfl (fun K hK => ?_) ?_
            · (refine step_append_lies _ (by rfl) _ _ _ (by rfl) lo 176 i0 zz 2 16 Tryf.underlying149 HI.out HZ.out hz1 hz2 hzs (by decide) (.slice a n c) n _ (by rfl) (HRU.out.alloc _) ⟨U.heap.size, 0, none⟩ 1 1 [.pointer (some ⟨b0 + 1 + 1, 0, none⟩), .int .i32 l] (by rfl) (by rfl) (World.news_of_block (cs := #[.pointer (some ⟨b0 + 1 + 1, 0, none⟩), .int .i32 l]) (heap_new' _ (by simp))) (by simp [Value.oneCell']) (by decide) (by unfold maxLen; omega) (by omega) (by simp; omega) (U.heap.size + 1) (by simp) ?_; intro gg cap w3 hown3 hgrow3 hat3 hlt3)
              have KK := grown_keep KU.out (by repeat (first | with_reducible exact Below.refl _ _ | with_reducible refine Below.drew ?_ | with_reducible refine Below.alloc ?_ (by simp <;> omega) _)) hgrow3 NE.out
              have k3 := (KK.cell 177).trans K2.out
              have k4 := KK.free 177
              have k5 := KK.lt
              have HG := Lib.hid hgrow3
              have HO := Lib.hid hown3
              have HT := Lib.hid hat3
              clear hgrow3 hown3 hat3 KK
              refine hK _ _ ?_
              clear hK K
              try simp only [Act.put, List.setIfInBounds_toArray, List.set_cons_zero, List.set_cons_succ]
              refine wpAny_take (i := 10) (oi := { dst := some 144, op := Op.nilCheck (Operand.tmp 134), type := 0, pos := "js_parser.go:1212", after := #[{ on := 0, ground := Ground.data }, { on := 0, ground := Ground.phase }, { on := 1, ground := Ground.phase }, { on := 2, ground := Ground.phase }, { on := 3, ground := Ground.phase }, { on := 4, ground := Ground.phase }, { on := 5, ground := Ground.phase }, { on := 6, ground := Ground.phase }, { on := 7, ground := Ground.phase }, { on := 8, ground := Ground.phase }, { on := 9, ground := Ground.phase }], guard := none }) (v := .pointer (some ⟨p, 0, none⟩)) rfl (by kernel_rfl) (by kernel_rfl) (by kernel_rfl) (fun _ _ _ h => h) (Or.inl ⟨by rfl, ?_⟩) ?_
              · intro w; go_simp
              try simp only [Act.put, List.setIfInBounds_toArray, List.set_cons_zero, List.set_cons_succ]
              refine wpAny_take (i := 11) (oi := { dst := some 145, op := Op.fieldAddr 174 (Operand.tmp 144) 48, type := 0, pos := "js_parser.go:1212", after := #[{ on := 10, ground := Ground.data }, { on := 0, ground := Ground.phase }, { on := 1, ground := Ground.phase }, { on := 2, ground := Ground.phase }, { on := 3, ground := Ground.phase }, { on := 4, ground := Ground.phase }, { on := 5, ground := Ground.phase }, { on := 6, ground := Ground.phase }, { on := 7, ground := Ground.phase }, { on := 8, ground := Ground.phase }, { on := 9, ground := Ground.phase }], guard := none }) (v := .pointer (some ⟨p, 177, none⟩)) rfl (by kernel_rfl) (by kernel_rfl) (by kernel_rfl) (fun _ _ _ h => h) (Or.inl ⟨by rfl, ?_⟩) ?_
              · intro w; go_simp
              try simp only [Act.put, List.setIfInBounds_toArray, List.set_cons_zero, List.set_cons_succ]
              refine wpAny_ready (rs := [12]) (by kernel_rfl) (by simp) ?_
              refine AllReady.cons (o := { dst := none, op := Op.store 149 (Operand.tmp 145) (Operand.tmp 143), type := 0, pos := "js_parser.go:1212", after := #[{ on := 11, ground := Ground.data }, { on := 9, ground := Ground.data }, { on := 9, ground := Ground.chain }, { on := 0, ground := Ground.phase }, { on := 1, ground := Ground.phase }, { on := 2, ground := Ground.phase }, { on := 3, ground := Ground.phase }, { on := 4, ground := Ground.phase }, { on := 5, ground := Ground.phase }, { on := 6, ground := Ground.phase }, { on := 7, ground := Ground.phase }, { on := 8, ground := Ground.phase }, { on := 9, ground := Ground.phase }], guard := none }) rfl (fun K hK => ?_) ?_
              · rw [if_pos (by rfl)]
                go_big_op
                refine hK _ _ ?_
                clear hK K
                try simp only [Act.put, List.setIfInBounds_toArray, List.set_cons_zero, List.set_cons_succ]
                refine wpAny_done (by kernel_rfl) ?_ _
                clear k3 k4 k5 m0 m1 m2 m3 m4
                go_wp2_with fail
                go_ret
                exact HF.out _ _ _ (below2 BU.out (by repeat (first | with_reducible exact Below.refl _ _ | with_reducible refine Below.drew ?_ | with_reducible refine Below.alloc ?_ (by simp <;> omega) _))) HG.out HO.out (by rcases HT.out with e | e; exact .inl e.symm; exact .inr (by rw [e]; simp [Value.ownBlock]))
              exact AllReady.nil
            exact AllReady.nil
          exact AllReady.nil
        refine AllReady.cons (o := { dst := some 142, op := Op.buildSlice 149 1 #[(0, Operand.tmp 141)], type := 149, pos := "js_parser.go:1212", after := #[{ on := 7, ground := Ground.data }], guard := none }) rfl (fun K hK => ?_) ?_
        · rw [if_pos (by rfl)]
          go_big_op
          refine hK _ _ ?_
          clear hK K
          try simp only [Act.put, List.setIfInBounds_toArray, List.set_cons_zero, List.set_cons_succ]
          refine wpAny_ready (rs := [4]) (by kernel_rfl) (by simp) ?_
          refine AllReady.cons (o := { dst := some 138, op := Op.load 149 (Operand.tmp 137), type := 149, pos := "js_parser.go:1212", after := #[{ on := 3, ground := Ground.data }], guard := none }) rfl (fun K hK => ?_) ?_
          · rw [if_pos (by rfl)]
            go_big_op
            refine hK _ _ ?_
            clear hK K
            try simp only [Act.put, List.setIfInBounds_toArray, List.set_cons_zero, List.set_cons_succ]
            refine wpAny_ready (rs := [9]) (by kernel_rfl) (by simp) ?_
            refine AllReady.cons (o := { dst := some 143, op := Op.call { callee := Callee.builtin Builtin.append, args := #[Operand.tmp 138, Operand.tmp 142], argTypes := #[149, 149] }, type := 149, pos := "js_parser.go:1212", after := #[{ on := 4, ground := Ground.data }, { on := 8, ground := Ground.data }], guard := none }) rfl (fun K hK => ?_) ?_
            · (refine step_append_lies _ (by rfl) _ _ _ (by rfl) lo 176 i0 zz 2 16 Tryf.underlying149 HI.out HZ.out hz1 hz2 hzs (by decide) (.slice a n c) n _ (by rfl) (HRU.out.alloc _) ⟨U.heap.size, 0, none⟩ 1 1 [.pointer (some ⟨b0 + 1 + 1, 0, none⟩), .int .i32 l] (by rfl) (by rfl) (World.news_of_block (cs := #[.pointer (some ⟨b0 + 1 + 1, 0, none⟩), .int .i32 l]) (heap_new' _ (by simp))) (by simp [Value.oneCell']) (by decide) (by unfold maxLen; omega) (by omega) (by simp; omega) (U.heap.size + 1) (by simp) ?_; intro gg cap w3 hown3 hgrow3 hat3 hlt3)
              have KK := grown_keep KU.out (by repeat (first | with_reducible exact Below.refl _ _ | with_reducible refine Below.drew ?_ | with_reducible refine Below.alloc ?_ (by simp <;> omega) _)) hgrow3 NE.out
              have k3 := (KK.cell 177).trans K2.out
              have k4 := KK.free 177
              have k5 := KK.lt
              have HG := Lib.hid hgrow3
              have HO := Lib.hid hown3
              have HT := Lib.hid hat3
              clear hgrow3 hown3 hat3 KK
              refine hK _ _ ?_
              clear hK K
              try simp only [Act.put, List.setIfInBounds_toArray, List.set_cons_zero, List.set_cons_succ]
              refine wpAny_take (i := 10) (oi := { dst := some 144, op := Op.nilCheck (Operand.tmp 134), type := 0, pos := "js_parser.go:1212", after := #[{ on := 0, ground := Ground.data }, { on := 0, ground := Ground.phase }, { on := 1, ground := Ground.phase }, { on := 2, ground := Ground.phase }, { on := 3, ground := Ground.phase }, { on := 4, ground := Ground.phase }, { on := 5, ground := Ground.phase }, { on := 6, ground := Ground.phase }, { on := 7, ground := Ground.phase }, { on := 8, ground := Ground.phase }, { on := 9, ground := Ground.phase }], guard := none }) (v := .pointer (some ⟨p, 0, none⟩)) rfl (by kernel_rfl) (by kernel_rfl) (by kernel_rfl) (fun _ _ _ h => h) (Or.inl ⟨by rfl, ?_⟩) ?_
              · intro w; go_simp
              try simp only [Act.put, List.setIfInBounds_toArray, List.set_cons_zero, List.set_cons_succ]
              refine wpAny_take (i := 11) (oi := { dst := some 145, op := Op.fieldAddr 174 (Operand.tmp 144) 48, type := 0, pos := "js_parser.go:1212", after := #[{ on := 10, ground := Ground.data }, { on := 0, ground := Ground.phase }, { on := 1, ground := Ground.phase }, { on := 2, ground := Ground.phase }, { on := 3, ground := Ground.phase }, { on := 4, ground := Ground.phase }, { on := 5, ground := Ground.phase }, { on := 6, ground := Ground.phase }, { on := 7, ground := Ground.phase }, { on := 8, ground := Ground.phase }, { on := 9, ground := Ground.phase }], guard := none }) (v := .pointer (some ⟨p, 177, none⟩)) rfl (by kernel_rfl) (by kernel_rfl) (by kernel_rfl) (fun _ _ _ h => h) (Or.inl ⟨by rfl, ?_⟩) ?_
              · intro w; go_simp
              try simp only [Act.put, List.setIfInBounds_toArray, List.set_cons_zero, List.set_cons_succ]
              refine wpAny_ready (rs := [12]) (by kernel_rfl) (by simp) ?_
              refine AllReady.cons (o := { dst := none, op := Op.store 149 (Operand.tmp 145) (Operand.tmp 143), type := 0, pos := "js_parser.go:1212", after := #[{ on := 11, ground := Ground.data }, { on := 9, ground := Ground.data }, { on := 9, ground := Ground.chain }, { on := 0, ground := Ground.phase }, { on := 1, ground := Ground.phase }, { on := 2, ground := Ground.phase }, { on := 3, ground := Ground.phase }, { on := 4, ground := Ground.phase }, { on := 5, ground := Ground.phase }, { on := 6, ground := Ground.phase }, { on := 7, ground := Ground.phase }, { on := 8, ground := Ground.phase }, { on := 9, ground := Ground.phase }], guard := none }) rfl (fun K hK => ?_) ?_
              · rw [if_pos (by rfl)]
                go_big_op
                refine hK _ _ ?_
                clear hK K
                try simp only [Act.put, List.setIfInBounds_toArray, List.set_cons_zero, List.set_cons_succ]
                refine wpAny_done (by kernel_rfl) ?_ _
                clear k3 k4 k5 m0 m1 m2 m3 m4
                go_wp2_with fail
                go_ret
                exact HF.out _ _ _ (below2 BU.out (by repeat (first | with_reducible exact Below.refl _ _ | with_reducible refine Below.drew ?_ | with_reducible refine Below.alloc ?_ (by simp <;> omega) _))) HG.out HO.out (by rcases HT.out with e | e; exact .inl e.symm; exact .inr (by rw [e]; simp [Value.ownBlock]))
              exact AllReady.nil
            exact AllReady.nil
          exact AllReady.nil
        exact AllReady.nil
      exact AllReady.nil
    exact AllReady.nil
end
end Go.Proofs.YtocljdbihcikhaaFmt.psh
