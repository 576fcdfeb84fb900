/- zzSameTree on two trees of one shape. No conditions beyond their hypotheses. -/
import Derived.Test.YtiejadamfgbidabLeftA
import Derived.Test.YtiejadamfgbidabFl
import Derived.Laws.StructEq
namespace Go.Proofs.Ytiejadamfgbidab.left
open Go.ChangeShapes Go.WideShapes Go.ChangeAt Go.RowKit Go.Mine
set_option linter.unusedVariables false
set_option maxRecDepth 100000

theorem guard30 : Try.prog.eqGuardType Try.prog.depth 30 = false := by kernel_rfl
theorem st30 : Try.prog.underlying 30 = some (.struct (Try.prog.fieldsOf 30)) := by kernel_rfl
theorem held30 : Try.prog.stoodInHeld 30 = false := by kernel_rfl
theorem eqIn30 (w : World) (a s : Int) : (Op.equalIn 10000 30 (.agg #[.int .i32 a]) (.agg #[.int .i32 s])).run Try.prog w = .ok ((a == s)) w := by
  have hf : (Try.prog.fieldsOf 30).toList.map (fun f => (f.name, f.type, f.offset)) = [("Start", 21, 0)] := by kernel_rfl
  rw [run_equalIn_agg w 9999 30 _ _ st30 held30]
  generalize (Try.prog.fieldsOf 30).toList = fs at hf
  obtain ⟨f0, fs0, rfl, g0, hf⟩ := List.map_eq_cons_iff.1 hf
  obtain rfl := List.map_eq_nil_iff.1 hf
  simp only [Prod.mk.injEq] at g0
  obtain ⟨p0, q0, r0⟩ := g0
  have e0 : ∀ (x0 : Value) (w : World), (part 21 #[x0] 0).run Try.prog w = .ok x0 w := fun x0 w => by kernel_rfl
  have k0 := fun (w : World) (a b : Int) => run_equalIn_int (P := Try.prog) w 9998 21 .i32 .i32 a b Try.underlying21
  by_cases z0 : a = s <;> simp [Op.eqFields, p0, q0, r0, e0, k0, z0]
theorem eql30 (w : World) (a s : Int) : (binOp .eql 30 (.agg #[.int .i32 a]) (.agg #[.int .i32 s])).run Try.prog w = .ok (.bool ((a == s))) w := by
  rw [run_eql_struct, eqIn30]; rfl
theorem neq30 (w : World) (a s : Int) : (binOp .neq 30 (.agg #[.int .i32 a]) (.agg #[.int .i32 s])).run Try.prog w = .ok (.bool (!((a == s)))) w := by
  rw [run_neq_struct, eqIn30]; rfl


theorem cellAll {a w : World} (h : Below a.heap.size a w) : ∀ b o, b < a.heap.size → w.cell? ⟨b, o, none⟩ = a.cell? ⟨b, o, none⟩ := fun b o hb => h.cell (p := ⟨b, o, none⟩) hb
abbrev val (t : E) : Value := .agg #[.iface t.ty (.pointer (some ⟨t.at_, 0, none⟩)), .int .i32 (t.n : Int)]
def Yes (w : World) (e : Ending) (w' : World) : Prop := e = .returned (.bool true) ∧ Below w.heap.size w w'
/-- Every number of the shape is small. -/
def S.small : S → Prop
  | .num n => n < 12300
  | .bin _ _ l r => l.small ∧ r.small
set_option maxHeartbeats 1000000 in
theorem same_num (p q n : Nat) (w : World) (hn : n < 12300) (h1 : Blk w p #[.float .f64 (floatOfInt .f64 (n : Int))] 109) (h2 : Blk w q #[.float .f64 (floatOfInt .f64 (n : Int))] 109) :
    Calls Try.prog 14 #[.agg #[.iface 46 (.pointer (some ⟨p, 0, none⟩)), .int .i32 (n : Int)], .agg #[.iface 46 (.pointer (some ⟨q, 0, none⟩)), .int .i32 (n : Int)]] w (Yes w) := by
  have c1 : w.cell? ⟨p, 0, none⟩ = some (.float .f64 (floatOfInt .f64 (n : Int))) := h1.cell 0
  have c2 : w.cell? ⟨q, 0, none⟩ = some (.float .f64 (floatOfInt .f64 (n : Int))) := h2.cell 0
  have l1 := h1.lt
  have l2 := h2.lt
  have hf := fl_eq n hn
  have hg := guard30
  have hq := neq30
  generalize floatOfInt .f64 (n : Int) = x at *
  clear h1 h2 hn
  go_enter Try.func14, Try.ntmps14
  go_wp2_with fail
  go_quiet (fail)
  go_wp2_with fail
  go_ret
  refine ⟨ret_bool (by simp [hf]), ?_⟩
  go_light
  exact below_drewN (balloc (balloc (Below.refl _ _) _) _) _
set_option maxHeartbeats 4000000 in
theorem same_bin (p q n : Nat) (op : Int) (l1 r1 l2 r2 : E) (w : World) (h1 : Blk w p #[.iface l1.ty (.pointer (some ⟨l1.at_, 0, none⟩)), .int .i32 (l1.n : Int), .iface r1.ty (.pointer (some ⟨r1.at_, 0, none⟩)), .int .i32 (r1.n : Int), .int .u8 op, .bool false] 112)
    (h2 : Blk w q #[.iface l2.ty (.pointer (some ⟨l2.at_, 0, none⟩)), .int .i32 (l2.n : Int), .iface r2.ty (.pointer (some ⟨r2.at_, 0, none⟩)), .int .i32 (r2.n : Int), .int .u8 op, .bool false] 112)
    (ihl : ∀ w1, Below w.heap.size w w1 → Calls Try.prog 14 #[val l1, val l2] w1 (Yes w1)) (ihr : ∀ w1, Below w.heap.size w w1 → Calls Try.prog 14 #[val r1, val r2] w1 (Yes w1)) :
    Calls Try.prog 14 #[.agg #[.iface 110 (.pointer (some ⟨p, 0, none⟩)), .int .i32 (n : Int)], .agg #[.iface 110 (.pointer (some ⟨q, 0, none⟩)), .int .i32 (n : Int)]] w (Yes w) := by
  have c0 : w.cell? ⟨p, 0, none⟩ = some (.iface l1.ty (.pointer (some ⟨l1.at_, 0, none⟩))) := h1.cell 0
  have c1 : w.cell? ⟨p, 1, none⟩ = some (.int .i32 (l1.n : Int)) := h1.cell 1
  have c2 : w.cell? ⟨p, 2, none⟩ = some (.iface r1.ty (.pointer (some ⟨r1.at_, 0, none⟩))) := h1.cell 2
  have c3 : w.cell? ⟨p, 3, none⟩ = some (.int .i32 (r1.n : Int)) := h1.cell 3
  have c4 : w.cell? ⟨p, 4, none⟩ = some (.int .u8 op) := h1.cell 4
  have c5 : w.cell? ⟨p, 5, none⟩ = some (.bool false) := h1.cell 5
  have d0 : w.cell? ⟨q, 0, none⟩ = some (.iface l2.ty (.pointer (some ⟨l2.at_, 0, none⟩))) := h2.cell 0
  have d1 : w.cell? ⟨q, 1, none⟩ = some (.int .i32 (l2.n : Int)) := h2.cell 1
  have d2 : w.cell? ⟨q, 2, none⟩ = some (.iface r2.ty (.pointer (some ⟨r2.at_, 0, none⟩))) := h2.cell 2
  have d3 : w.cell? ⟨q, 3, none⟩ = some (.int .i32 (r2.n : Int)) := h2.cell 3
  have d4 : w.cell? ⟨q, 4, none⟩ = some (.int .u8 op) := h2.cell 4
  have d5 : w.cell? ⟨q, 5, none⟩ = some (.bool false) := h2.cell 5
  have z1 := h1.lt
  have z2 := h2.lt
  have hg := guard30
  have hq := neq30
  have HC := Lib.hid fun w' (hb : Below w.heap.size w w') => And.intro (bcell hb c0) (And.intro (bcell hb c1) (And.intro (bcell hb c2) (And.intro (bcell hb c3) (And.intro (bcell hb c4) (And.intro (bcell hb c5) (And.intro (bcell hb d0) (And.intro (bcell hb d1) (And.intro (bcell hb d2) (And.intro (bcell hb d3) (And.intro (bcell hb d4) (bcell hb d5)))))))))))
  have IHL := Lib.hid ihl
  have IHR := Lib.hid ihr
  clear h1 h2 ihl ihr
  go_enter Try.func14, Try.ntmps14
  go_wp2_with fail
  go_region_held3 (fun w' => w'.cell? ⟨p, 0, none⟩ = some (.iface l1.ty (.pointer (some ⟨l1.at_, 0, none⟩))) ∧ w'.cell? ⟨p, 1, none⟩ = some (.int .i32 (l1.n : Int)) ∧ w'.cell? ⟨p, 2, none⟩ = some (.iface r1.ty (.pointer (some ⟨r1.at_, 0, none⟩))) ∧ w'.cell? ⟨p, 3, none⟩ = some (.int .i32 (r1.n : Int)) ∧
      w'.cell? ⟨p, 4, none⟩ = some (.int .u8 op) ∧ w'.cell? ⟨p, 5, none⟩ = some (.bool false) ∧ w'.cell? ⟨q, 0, none⟩ = some (.iface l2.ty (.pointer (some ⟨l2.at_, 0, none⟩))) ∧ w'.cell? ⟨q, 1, none⟩ = some (.int .i32 (l2.n : Int)) ∧ w'.cell? ⟨q, 2, none⟩ = some (.iface r2.ty (.pointer (some ⟨r2.at_, 0, none⟩))) ∧ w'.cell? ⟨q, 3, none⟩ = some (.int .i32 (r2.n : Int)) ∧
      w'.cell? ⟨q, 4, none⟩ = some (.int .u8 op) ∧ w'.cell? ⟨q, 5, none⟩ = some (.bool false)) ((refine HC.out _ ?_; (repeat (first | with_reducible exact Below.refl _ _ | with_reducible refine Below.drew ?_ | with_reducible refine balloc ?_ _ | with_reducible refine below2 ?_ BL.out | with_reducible refine below2 ?_ BR.out)); done))
    (first
      | (go_at_call 14; (with_reducible refine (IHL.out _ ?_).mono ?_); (repeat (first | with_reducible exact Below.refl _ _ | with_reducible refine Below.drew ?_ | with_reducible refine balloc ?_ _)); rintro e wL ⟨rfl, hbL⟩; have BL := Lib.hid hbL; clear hbL)
      | (go_at_call 14; (with_reducible refine (IHR.out _ ?_).mono ?_); (repeat (first | with_reducible exact Below.refl _ _ | with_reducible refine Below.drew ?_ | with_reducible refine balloc ?_ _ | with_reducible refine below2 ?_ BL.out)); rintro e wR ⟨rfl, hbR⟩; have BR := Lib.hid hbR; clear hbR))
  all_goals
    go_wp2_with fail
    go_ret
    refine ⟨rfl, ?_⟩
    go_light
    (repeat (first | with_reducible exact Below.refl _ _ | with_reducible refine Below.drew ?_ | with_reducible refine balloc ?_ _ | with_reducible refine below2 ?_ BL.out | with_reducible refine below2 ?_ BR.out))

theorem same14 : ∀ (t1 t2 : E) (w : World), t1.rep w → t2.rep w → t1.sh = t2.sh → t1.sh.small → Calls Try.prog 14 #[val t1, val t2] w (Yes w)
  | .num p n, .num q m, w, h1, h2, hs, hn => by
    obtain rfl : n = m := by simpa [E.sh] using hs
    exact same_num p q n w hn h1 h2
  | .bin p op n l1 r1, .bin q op' m l2 r2, w, ⟨h1, hl1, hr1⟩, ⟨h2, hl2, hr2⟩, hs, hn => by
    simp only [E.sh, S.bin.injEq] at hs
    obtain ⟨rfl, rfl, e1, e2⟩ := hs
    exact same_bin p q n op l1 r1 l2 r2 w h1 h2 (fun w1 hb => same14 l1 l2 w1 (E.rep_below hb hl1) (E.rep_below hb hl2) e1 hn.1) (fun w1 hb => same14 r1 r2 w1 (E.rep_below hb hr1) (E.rep_below hb hr2) e2 hn.2)
  | .num _ _, .bin _ _ _ _ _, _, _, _, hs, _ => by simp [E.sh] at hs
  | .bin _ _ _ _ _, .num _ _, _, _, _, hs, _ => by simp [E.sh] at hs
end Go.Proofs.Ytiejadamfgbidab.left
