/- What zzParse builds: its contract. No conditions beyond their hypotheses. -/
import Derived.Test.YtiejadamfgbidabLeftA
namespace Go.Proofs.Ytiejadamfgbidab.left
open Go.ChangeShapes Go.WideShapes Go.ChangeAt Go.RowKit Go.Mine
set_option linter.unusedVariables false
set_option maxRecDepth 100000

theorem fz {a w : World} {b o : Nat} (h : Below a.heap.size a w) (hb : b < a.heap.size) (hf : a.frozen? ⟨b, o, none⟩ = false) : w.frozen? ⟨b, o, none⟩ = false := (h.frozen (p := ⟨b, o, none⟩) hb).trans hf
/-- The world behind the last statement of zzParse. -/
abbrev fin (w w3 : World) (l r : E) (op : Int) (L : Int) : World :=
  (((w3.setCell ⟨w.heap.size, 0, none⟩ (.iface 110 (.pointer (some ⟨w3.heap.size + 1, 0, none⟩)))).setCell ⟨w.heap.size, 1, none⟩ (.int .i32 L)).alloc (.cells #[.iface r.ty (.pointer (some ⟨r.at_, 0, none⟩)), .int .i32 (r.n : Int)] 32)).alloc
    (.cells #[.iface l.ty (.pointer (some ⟨l.at_, 0, none⟩)), .int .i32 (l.n : Int), .iface r.ty (.pointer (some ⟨r.at_, 0, none⟩)), .int .i32 (r.n : Int), .int .u8 op, .bool false] 112)
theorem fin_rep {w w3 : World} {l r : E} {op L' : Int} {n : Nat} {D L : Value} (hq : Blk w3 w.heap.size #[D, L] 32) (hl : l.rep w3) (hr : r.rep w3) : (E.bin (w3.heap.size + 1) op n l r).rep (fin w w3 l r op L') := by
  have s1 := hq.set 0 (.iface 110 (.pointer (some ⟨w3.heap.size + 1, 0, none⟩)))
  refine ⟨blkNew _ _ (by simp [size_set]), ?_, ?_⟩
  · exact E.rep_below (balloc (balloc (Below.refl _ _) _) _) (E.rep_set s1 1 _ (E.rep_set hq 0 _ hl))
  · exact E.rep_below (balloc (balloc (Below.refl _ _) _) _) (E.rep_set s1 1 _ (E.rep_set hq 0 _ hr))
theorem fin_below {w w3 : World} {l r : E} {op n : Int} (hb : Below w.heap.size w w3) : Below w.heap.size w (fin w w3 l r op n) :=
  balloc (balloc ((hb.setCell (Nat.le_refl _) _).setCell (Nat.le_refl _) _) _) _

section
variable (len cap : Nat) (base : Nat) (op other : Int)
set_option maxHeartbeats 2000000 in
theorem p_n1 (b off pos : Nat) (c : Int) (w : World) (h : pos < len) (hl : len ≤ 4096) (hB : base ≤ 8192) (hbl : b < w.heap.size) (hc : w.cell? ⟨b, off + pos, none⟩ = some (.int .u8 c)) (h1 : c = 1 ∨ c = 2 ∨ c = 3)
    (ih : ∀ w1, Below w.heap.size w w1 → Calls Try.prog 12 (args (some ⟨b, off, none⟩) len cap base op other (pos + 1)) w1 (PNone (pos + 1) w1)) :
    Calls Try.prog 12 (args (some ⟨b, off, none⟩) len cap base op other pos) w (PNone pos w) := by
  have IH := Lib.hid fun o1 o2 => ih ((w.alloc o1).alloc o2) (balloc (balloc (Below.refl _ _) _) _)
  clear ih
  have e1 : ((pos + 1 : Nat) : Int) = (pos : Int) + 1 := by omega
  unfold args at IH
  rw [e1] at IH
  clear e1
  rcases h1 with rfl | rfl | rfl
  all_goals
    go_enter Try.func12, Try.ntmps12
    go_wp2_with fail
    refine (IH.out _ _).mono ?_
    rintro e w2 ⟨rfl, hb2⟩
    have r0 : w2.cell? ⟨w.heap.size, 0, none⟩ = some .nilIface := bcell hb2 (by simp [go_sem])
    have r1 : w2.cell? ⟨w.heap.size, 1, none⟩ = some (.int .i32 0) := bcell hb2 (by simp [go_sem])
    have f0 : w2.frozen? ⟨w.heap.size, 0, none⟩ = false := fz hb2 (by simp <;> omega) (by simp [go_sem])
    have f1 : w2.frozen? ⟨w.heap.size, 1, none⟩ = false := fz hb2 (by simp <;> omega) (by simp [go_sem])
    have hlt := cell_lt r0
    have B2 := Lib.hid (below2 (balloc (balloc (Below.refl w.heap.size w) _) _) hb2)
    clear hb2
    go_wp2_with fail
    refine bodyPost_ret (v := .tuple #[.agg #[.nilIface, .int .i32 0], .int .i64 (pos : Int), .bool false]) (by simp [results, Try.results12, go_sem, r0, r1, hlt]) rfl ⟨rfl, ?_⟩
    go_light
    have h := B2.out
    have hs := h.size
    first
      | exact h.alloc hs _
      | (repeat (first | with_reducible exact h | with_reducible refine balloc ?_ _ | with_reducible refine Below.setCell ?_ (by simp <;> omega) _))
set_option maxHeartbeats 2000000 in
theorem p_n2 (b off pos : Nat) (c : Int) (w : World) (h : pos < len) (hl : len ≤ 4096) (hB : base ≤ 8192) (hbl : b < w.heap.size) (hc : w.cell? ⟨b, off + pos, none⟩ = some (.int .u8 c)) (h1 : c = 1 ∨ c = 2 ∨ c = 3) (sl : S) (n1 : Nat) (hn1 : n1 ≤ 4096)
    (ih : ∀ w1, Below w.heap.size w w1 → Calls Try.prog 12 (args (some ⟨b, off, none⟩) len cap base op other (pos + 1)) w1 (PSome sl n1 w1))
    (ih2 : ∀ w1, Below w.heap.size w w1 → Calls Try.prog 12 (args (some ⟨b, off, none⟩) len cap base op other n1) w1 (PNone n1 w1)) :
    Calls Try.prog 12 (args (some ⟨b, off, none⟩) len cap base op other pos) w (PNone pos w) := by
  have IH := Lib.hid fun o1 o2 => ih ((w.alloc o1).alloc o2) (balloc (balloc (Below.refl _ _) _) _)
  have IH2 := Lib.hid ih2
  clear ih ih2
  have e1 : ((pos + 1 : Nat) : Int) = (pos : Int) + 1 := by omega
  unfold args at IH IH2
  rw [e1] at IH
  clear e1
  rcases h1 with rfl | rfl | rfl
  all_goals
    go_enter Try.func12, Try.ntmps12
    go_wp2_with fail
    refine (IH.out _ _).mono ?_
    rintro e w2 ⟨tl, hsl, hrl, rfl, hb2⟩
    have r0 : w2.cell? ⟨w.heap.size, 0, none⟩ = some .nilIface := bcell hb2 (by simp [go_sem])
    have r1 : w2.cell? ⟨w.heap.size, 1, none⟩ = some (.int .i32 0) := bcell hb2 (by simp [go_sem])
    have q0 : Blk w2 w.heap.size #[.nilIface, .int .i32 0] 32 := Blk.below (Blk.alloc (blkNew _ _ rfl) _) hb2
    have s0 : w2.cell? ⟨w.heap.size + 1, 0, none⟩ = some (.int .i32 ((pos : Int) + (base : Int))) := bcell hb2 (by simp [go_sem])
    have f0 : w2.frozen? ⟨w.heap.size, 0, none⟩ = false := q0.free 0
    have f1 : w2.frozen? ⟨w.heap.size, 1, none⟩ = false := q0.free 1
    have hlt := cell_lt r0
    have hlt1 := cell_lt s0
    have B2 := Lib.hid (below2 (balloc (balloc (Below.refl w.heap.size w) _) _) hb2)
    have Q0 := Lib.hid q0
    have HSL := Lib.hid hsl
    have HRL := Lib.hid hrl
    clear hb2 q0 hsl hrl
    go_wp2_with fail
    refine (IH2.out _ (balloc B2.out _)).mono ?_
    rintro e w3 ⟨rfl, hb3⟩
    have hbb := below2 (balloc (Below.refl w2.heap.size w2) _) hb3
    have r0' := bcell hbb r0
    have r1' := bcell hbb r1
    have q3 := Q0.out.below hbb
    have f0' := q3.free 0
    have f1' := q3.free 1
    have hlt' := cell_lt r0'
    have B3 := Lib.hid (below2 B2.out hbb)
    clear hb3 hbb q3 r0 r1 s0 f0 f1
    go_wp2_with fail
    refine bodyPost_ret (v := .tuple #[.agg #[.nilIface, .int .i32 0], .int .i64 (pos : Int), .bool false]) (by simp [results, Try.results12, go_sem, r0', r1', hlt']) rfl ⟨rfl, ?_⟩
    go_light
    have h := B3.out
    repeat (first | with_reducible exact h | with_reducible refine balloc ?_ _ | with_reducible refine Below.setCell ?_ (by simp <;> omega) _)
set_option maxHeartbeats 2000000 in
theorem p_bin (b off pos : Nat) (c : Int) (w : World) (h : pos < len) (hl : len ≤ 4096) (hB : base ≤ 8192) (hbl : b < w.heap.size) (hc : w.cell? ⟨b, off + pos, none⟩ = some (.int .u8 c)) (h1 : c = 1 ∨ c = 2 ∨ c = 3) (sl : S) (n1 : Nat) (hn1 : n1 ≤ 4096)
    (ih : ∀ w1, Below w.heap.size w w1 → Calls Try.prog 12 (args (some ⟨b, off, none⟩) len cap base op other (pos + 1)) w1 (PSome sl n1 w1))
    (sr : S) (n2 : Nat) (hn2 : n2 ≤ 4096) (ih2 : ∀ w1, Below w.heap.size w w1 → Calls Try.prog 12 (args (some ⟨b, off, none⟩) len cap base op other n1) w1 (PSome sr n2 w1)) :
    Calls Try.prog 12 (args (some ⟨b, off, none⟩) len cap base op other pos) w (PSome (.bin (if c = 2 then 36 else if c = 3 then other else op) (pos + base) sl sr) n2 w) := by
  have IH := Lib.hid fun o1 o2 => ih ((w.alloc o1).alloc o2) (balloc (balloc (Below.refl _ _) _) _)
  have IH2 := Lib.hid ih2
  clear ih ih2
  have e1 : ((pos + 1 : Nat) : Int) = (pos : Int) + 1 := by omega
  unfold args at IH IH2
  rw [e1] at IH
  clear e1
  rcases h1 with rfl | rfl | rfl
  all_goals
    go_enter Try.func12, Try.ntmps12
    go_wp2_with fail
    refine (IH.out _ _).mono ?_
    rintro e w2 ⟨tl, hsl, hrl, rfl, hb2⟩
    have r0 : w2.cell? ⟨w.heap.size, 0, none⟩ = some .nilIface := bcell hb2 (by simp [go_sem])
    have r1 : w2.cell? ⟨w.heap.size, 1, none⟩ = some (.int .i32 0) := bcell hb2 (by simp [go_sem])
    have q0 : Blk w2 w.heap.size #[.nilIface, .int .i32 0] 32 := Blk.below (Blk.alloc (blkNew _ _ rfl) _) hb2
    have s0 : w2.cell? ⟨w.heap.size + 1, 0, none⟩ = some (.int .i32 ((pos : Int) + (base : Int))) := bcell hb2 (by simp [go_sem])
    have f0 : w2.frozen? ⟨w.heap.size, 0, none⟩ = false := q0.free 0
    have f1 : w2.frozen? ⟨w.heap.size, 1, none⟩ = false := q0.free 1
    have hlt := cell_lt r0
    have hlt1 := cell_lt s0
    have B2 := Lib.hid (below2 (balloc (balloc (Below.refl w.heap.size w) _) _) hb2)
    have Q0 := Lib.hid q0
    have HSL := Lib.hid hsl
    have HRL := Lib.hid hrl
    clear hb2 q0 hsl hrl
    go_wp2_with fail
    refine (IH2.out _ (balloc B2.out _)).mono ?_
    rintro e w3 ⟨tr, hsr, hrr, rfl, hb3⟩
    have t0 : w3.cell? ⟨w2.heap.size, 0, none⟩ = some (.iface tl.ty (.pointer (some ⟨tl.at_, 0, none⟩))) := bcell hb3 (by simp [go_sem])
    have t1 : w3.cell? ⟨w2.heap.size, 1, none⟩ = some (.int .i32 (tl.n : Int)) := bcell hb3 (by simp [go_sem])
    have hbb := below2 (balloc (Below.refl w2.heap.size w2) _) hb3
    have r0' := bcell hbb r0
    have r1' := bcell hbb r1
    have s0' := bcell hbb s0
    have q3 := Q0.out.below hbb
    have Q3 := Lib.hid q3
    have f0' := q3.free 0
    have f1' := q3.free 1
    have hlt' := cell_lt r0'
    have hlt2 := cell_lt t0
    have hlt3 := cell_lt s0'
    have B3 := Lib.hid (below2 B2.out hbb)
    have HSR := Lib.hid hsr
    have HRR := Lib.hid hrr
    have HRL3 := Lib.hid (E.rep_below hbb HRL.out)
    clear hb3 hbb q3 r0 r1 s0 f0 f1 hsr hrr
    go_wp2_with fail
    have e2 : ((pos + base : Nat) : Int) = (pos : Int) + (base : Int) := by omega
    refine bodyPost_ret (v := .tuple #[.agg #[.iface 110 (.pointer (some ⟨w3.heap.size + 1, 0, none⟩)), .int .i32 ((pos : Int) + (base : Int))], .int .i64 (n2 : Int), .bool true]) (by simp [results, Try.results12, go_sem, r0', r1', hlt']) rfl
      ⟨.bin (w3.heap.size + 1) _ (pos + base) tl tr, by simp only [E.sh, HSL.out, HSR.out]; rfl, ?_, by rw [← e2]; rfl, ?_⟩
    · go_light
      exact fin_rep Q3.out HRL3.out HRR.out
    · go_light
      have h := B3.out
      repeat (first | with_reducible exact h | with_reducible refine balloc ?_ _ | with_reducible refine Below.setCell ?_ (by simp <;> omega) _)
end

theorem parse12 (a : Option Addr) (len cap : Nat) (zs : List Int) (base : Nat) (op other : Int) (hl : len ≤ 4096) (hB : base ≤ 8192) : ∀ (f pos : Nat) (w : World), IntRow .u8 w a len cap zs → pos ≤ len → len - pos < f →
    Calls Try.prog 12 (args a len cap base op other pos) w (Parsed (parse zs base op other f pos) pos w)
  | 0, pos, w, _, _, hf => by omega
  | f + 1, pos, w, hrow, hp, hf => by
    have hz := hrow.1
    unfold parse
    by_cases h1 : zs.length ≤ pos
    · rw [if_pos h1]
      exact p_end a len cap base op other pos w (by omega) (by omega)
    · rw [if_neg h1]
      obtain ⟨b, off, rfl, hbl, hc⟩ := hrow.at (i := pos) (by omega)
      have hwf := hrow.2.2.2.1 (zs.getD pos 0) (by
        have hq : pos < zs.length := by omega
        rw [show zs.getD pos 0 = zs[pos] by simp [hq]]
        exact List.getElem_mem _)
      obtain ⟨hc0, hc1⟩ := bounds_u8 hwf
      generalize zs.getD pos 0 = c at *
      by_cases h2 : c = 0
      · subst h2
        rw [if_pos rfl]
        exact p_num len cap base op other b off pos w (by omega) hl hB hbl hc
      · rw [if_neg h2]
        by_cases h3 : 3 < c
        · rw [if_pos h3]
          exact p_big len cap base op other b off pos c w (by omega) hl hB hbl hc h3
        · rw [if_neg h3]
          have ih1 : ∀ w1, Below w.heap.size w w1 → Calls Try.prog 12 (args (some ⟨b, off, none⟩) len cap base op other (pos + 1)) w1 (Parsed (parse zs base op other f (pos + 1)) (pos + 1) w1) :=
            fun w1 hb1 => parse12 (some ⟨b, off, none⟩) len cap zs base op other hl hB f (pos + 1) w1 (hrow.below hb1) (by omega) (by omega)
          cases k1 : parse zs base op other f (pos + 1) with
          | none =>
            rw [k1] at ih1
            exact p_n1 len cap base op other b off pos c w (by omega) hl hB hbl hc (by omega) ih1
          | some x =>
            obtain ⟨sl, n1⟩ := x
            rw [k1] at ih1
            obtain ⟨q1, q2⟩ := parse_bd k1
            have ih2 : ∀ w1, Below w.heap.size w w1 → Calls Try.prog 12 (args (some ⟨b, off, none⟩) len cap base op other n1) w1 (Parsed (parse zs base op other f n1) n1 w1) :=
              fun w1 hb1 => parse12 (some ⟨b, off, none⟩) len cap zs base op other hl hB f n1 w1 (hrow.below hb1) (by omega) (by omega)
            simp only
            cases k2 : parse zs base op other f n1 with
            | none =>
              rw [k2] at ih2
              exact p_n2 len cap base op other b off pos c w (by omega) hl hB hbl hc (by omega) sl n1 (by omega) ih1 ih2
            | some y =>
              obtain ⟨sr, n2⟩ := y
              rw [k2] at ih2
              obtain ⟨q3, q4⟩ := parse_bd k2
              exact p_bin len cap base op other b off pos c w (by omega) hl hB hbl hc (by omega) sl n1 (by omega) ih1 sr n2 (by omega) ih2
end Go.Proofs.Ytiejadamfgbidab.left
