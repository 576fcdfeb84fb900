/- The contract of 'ValuesLookTheSame' on two chains. No conditions beyond the hypotheses. -/
import Derived.Test.YtanaidcjiinpaaaRROptB
namespace Go.Proofs.YtanaidcjiinpaaaRR.opt
open Go.ChangeShapes Go.WideShapes Go.ChangeAt Go.RowKit Go.Mine
set_option linter.unusedVariables false
set_option linter.unusedSimpArgs false
set_option maxRecDepth 100000

theorem guard49 : Try.prog.eqGuardType Try.prog.depth 49 = false := by kernel_rfl
theorem st49 : Try.prog.underlying 49 = some (.struct (Try.prog.fieldsOf 49)) := by kernel_rfl
theorem held49 : Try.prog.stoodInHeld 49 = false := by kernel_rfl
theorem eqIn49 (w : World) (a s b t : Int) : (Op.equalIn 10000 49 (.agg #[.int .u32 a, .int .u32 b]) (.agg #[.int .u32 s, .int .u32 t])).run Try.prog w = .ok ((a == s) && (b == t)) w := by
  have hf : (Try.prog.fieldsOf 49).toList.map (fun f => (f.name, f.type, f.offset)) = [("SourceIndex", 22, 0), ("InnerIndex", 22, 1)] := by kernel_rfl
  rw [run_equalIn_agg w 9999 49 _ _ st49 held49]
  generalize (Try.prog.fieldsOf 49).toList = fs at hf
  obtain ⟨f0, fs0, rfl, g0, hf⟩ := List.map_eq_cons_iff.1 hf
  obtain ⟨f1, fs1, rfl, g1, hf⟩ := List.map_eq_cons_iff.1 hf
  obtain rfl := List.map_eq_nil_iff.1 hf
  simp only [Prod.mk.injEq] at g0 g1
  obtain ⟨p0, q0, r0⟩ := g0
  have e0 : ∀ (x0 x1 : Value) (w : World), (part 22 #[x0, x1] 0).run Try.prog w = .ok x0 w := fun x0 x1 w => by kernel_rfl
  have k0 := fun (w : World) (a b : Int) => run_equalIn_int (P := Try.prog) w 9998 22 .u32 .u32 a b Try.underlying22
  obtain ⟨p1, q1, r1⟩ := g1
  have e1 : ∀ (x0 x1 : Value) (w : World), (part 22 #[x0, x1] 1).run Try.prog w = .ok x1 w := fun x0 x1 w => by kernel_rfl
  have k1 := fun (w : World) (a b : Int) => run_equalIn_int (P := Try.prog) w 9998 22 .u32 .u32 a b Try.underlying22
  by_cases z0 : a = s <;> by_cases z1 : b = t <;> simp [Op.eqFields, p0, q0, r0, e0, k0, z0, p1, q1, r1, e1, k1, z1]
theorem eql49 (w : World) (a s b t : Int) : (binOp .eql 49 (.agg #[.int .u32 a, .int .u32 b]) (.agg #[.int .u32 s, .int .u32 t])).run Try.prog w = .ok (.bool ((a == s) && (b == t))) w := by
  rw [run_eql_struct, eqIn49]; rfl
theorem neq49 (w : World) (a s b t : Int) : (binOp .neq 49 (.agg #[.int .u32 a, .int .u32 b]) (.agg #[.int .u32 s, .int .u32 t])).run Try.prog w = .ok (.bool (!((a == s) && (b == t)))) w := by
  rw [run_neq_struct, eqIn49]; rfl
def Vq (b : Bool) (w : World) (e : Ending) (w' : World) : Prop := e = .returned (.bool b) ∧ ∃ n, w' = w.drewN n
set_option maxHeartbeats 1000000 in
theorem vls_dot (p q T1 p1 T2 p2 : Nat) (n1 n2 : ByteArray) (f1 f2 : Int) (r : Bool) (w : World) (b1 : Blk w p #[ifp T1 p1, .int .i32 0, .string n1, .int .i32 0, .int .u8 f1, .bool false, .bool false, .bool false] 54)
    (b2 : Blk w q #[ifp T2 p2, .int .i32 0, .string n2, .int .i32 0, .int .u8 f2, .bool false, .bool false, .bool false] 54)
    (ih : ∀ m, Calls Try.prog 13 #[ifp T1 p1, ifp T2 p2] (w.drewN m) (Vq r (w.drewN m))) :
    Calls Try.prog 13 #[ifp 42 p, ifp 42 q] w (Vq (fb f1 f2 && decide (n1.toList = n2.toList) && r) w) := by
  have HS := Lib.hid fun m => hsD p q f1 f2 (w.drewN m) ((b1.below (below_drewN' m)).cell 4) ((b1.below (below_drewN' m)).cell 5) ((b1.below (below_drewN' m)).cell 6) ((b1.below (below_drewN' m)).cell 7) ((b2.below (below_drewN' m)).cell 4) ((b2.below (below_drewN' m)).cell 5) ((b2.below (below_drewN' m)).cell 6) ((b2.below (below_drewN' m)).cell 7)
  have IH := Lib.hid ih
  have c0 : w.cell? ⟨p, 0, none⟩ = some (ifp T1 p1) := b1.cell 0
  have c2 : w.cell? ⟨p, 2, none⟩ = some (.string n1) := b1.cell 2
  have d0 : w.cell? ⟨q, 0, none⟩ = some (ifp T2 p2) := b2.cell 0
  have d2 : w.cell? ⟨q, 2, none⟩ = some (.string n2) := b2.cell 2
  have l1 := b1.lt
  have l2 := b2.lt
  have CN := Lib.hid fun (W : World) => ceNo 42 42 (.pointer (some ⟨p, 0, none⟩)) (.pointer (some ⟨q, 0, none⟩)) W (by decide) (by decide)
  clear b1 b2 ih
  generalize fb f1 f2 = b at *
  unfold ifp at *
  cases b with
  | false =>
    go_enter Try.func13, Try.ntmps13
    go_wp2_with fail
    go_quiet ((go_at_call 14; exact Calls.quiet_of (HS.out _)))
    go_wp2_with (first | (go_at_call 18; refine (CN.out _).mono ?_; rintro e w' ⟨rfl, rfl⟩))
    go_ret
    exact ⟨ret_bool2 (by simp), _, rfl⟩
  | true =>
    by_cases hn : (n1.toList == n2.toList) = true
    · have en : n1.toList = n2.toList := by simpa using hn
      have EN := Lib.hid en
      clear en
      cases r with
      | false =>
        go_enter Try.func13, Try.ntmps13
        go_wp2_with fail
        go_quiet ((first | (go_at_call 14; exact Calls.quiet_of (HS.out _)) | (go_at_call 13; exact Calls.quiet_of (IH.out _))))
        go_wp2_with (first | (go_at_call 18; refine (CN.out _).mono ?_; rintro e w' ⟨rfl, rfl⟩))
        go_ret
        exact ⟨ret_bool2 (by simp), _, rfl⟩
      | true =>
        go_enter Try.func13, Try.ntmps13
        go_wp2_with fail
        go_quiet ((first | (go_at_call 14; exact Calls.quiet_of (HS.out _)) | (go_at_call 13; exact Calls.quiet_of (IH.out _))))
        go_wp2_with (first | (go_at_call 18; refine (CN.out _).mono ?_; rintro e w' ⟨rfl, rfl⟩))
        go_ret
        exact ⟨ret_bool2 (by simp [EN.out]), _, rfl⟩
    · have hn : (n1.toList == n2.toList) = false := by simpa using hn
      have en : n1.toList ≠ n2.toList := by simpa using hn
      have EN := Lib.hid en
      clear en
      go_enter Try.func13, Try.ntmps13
      go_wp2_with fail
      go_quiet ((first | (go_at_call 14; exact Calls.quiet_of (HS.out _)) | (go_at_call 13; exact Calls.quiet_of (IH.out _))))
      go_wp2_with (first | (go_at_call 18; refine (CN.out _).mono ?_; rintro e w' ⟨rfl, rfl⟩))
      go_ret
      exact ⟨ret_bool2 (by simp [EN.out]), _, rfl⟩
set_option maxHeartbeats 1000000 in
theorem vls_call (p q T1 p1 T2 p2 : Nat) (f1 f2 : Int) (r : Bool) (w : World) (b1 : Blk w p #[ifp T1 p1, .int .i32 0, .slice none 0 0, .int .i32 0, .int .u8 f1, .int .u8 0, .bool false, .bool false] 65)
    (b2 : Blk w q #[ifp T2 p2, .int .i32 0, .slice none 0 0, .int .i32 0, .int .u8 f2, .int .u8 0, .bool false, .bool false] 65)
    (ih : ∀ m, Calls Try.prog 13 #[ifp T1 p1, ifp T2 p2] (w.drewN m) (Vq r (w.drewN m))) :
    Calls Try.prog 13 #[ifp 44 p, ifp 44 q] w (Vq (fb f1 f2 && r) w) := by
  have HS := Lib.hid fun m => hsC p q f1 f2 (w.drewN m) ((b1.below (below_drewN' m)).cell 4) ((b1.below (below_drewN' m)).cell 5) ((b1.below (below_drewN' m)).cell 7) ((b2.below (below_drewN' m)).cell 4) ((b2.below (below_drewN' m)).cell 5) ((b2.below (below_drewN' m)).cell 7)
  have IH := Lib.hid ih
  have c0 : w.cell? ⟨p, 0, none⟩ = some (ifp T1 p1) := b1.cell 0
  have c2 : w.cell? ⟨p, 2, none⟩ = some (.slice none 0 0) := b1.cell 2
  have d0 : w.cell? ⟨q, 0, none⟩ = some (ifp T2 p2) := b2.cell 0
  have d2 : w.cell? ⟨q, 2, none⟩ = some (.slice none 0 0) := b2.cell 2
  have l1 := b1.lt
  have l2 := b2.lt
  have CN := Lib.hid fun (W : World) => ceNo 44 44 (.pointer (some ⟨p, 0, none⟩)) (.pointer (some ⟨q, 0, none⟩)) W (by decide) (by decide)
  clear b1 b2 ih
  generalize fb f1 f2 = b at *
  unfold ifp at *
  cases b with
  | false =>
    go_enter Try.func13, Try.ntmps13
    go_wp2_with fail
    go_quiet ((go_at_call 16; exact Calls.quiet_of (HS.out _)))
    go_wp2_with (first | (go_at_call 18; refine (CN.out _).mono ?_; rintro e w' ⟨rfl, rfl⟩))
    go_ret
    exact ⟨ret_bool2 (by simp), _, rfl⟩
  | true =>
    cases r with
    | false =>
      go_enter Try.func13, Try.ntmps13
      go_wp2_with fail
      go_quiet ((first | (go_at_call 16; exact Calls.quiet_of (HS.out _)) | (go_at_call 13; exact Calls.quiet_of (IH.out _))))
      go_wp2_with (first | (go_at_call 18; refine (CN.out _).mono ?_; rintro e w' ⟨rfl, rfl⟩))
      go_ret
      exact ⟨ret_bool2 (by simp), _, rfl⟩
    | true =>
      go_enter Try.func13, Try.ntmps13
      go_wp2_with fail
      go_quiet ((first | (go_at_call 16; exact Calls.quiet_of (HS.out _)) | (go_at_call 13; exact Calls.quiet_of (IH.out _))))
      go_wp2_with fail
      refine wp_loop_rounds 1 ?_
      rw [rounds_succ]
      go_wp2_with fail
      go_ret
      exact ⟨ret_bool2 (by simp), _, rfl⟩
theorem vls_str (p q : Nat) (la ra : Option Addr) (l0 c0 l1 c1 : Nat) (lz rz : List Int) (w : World) (hl : w.cell? ⟨p, 0, none⟩ = some (.slice la l0 c0)) (hsl : IntRow .u16 w la l0 c0 lz) (hr : w.cell? ⟨q, 0, none⟩ = some (.slice ra l1 c1)) (hsr : IntRow .u16 w ra l1 c1 rz) :
    Calls Try.prog 13 #[ifp 55 p, ifp 55 q] w (Vq (decide (lz = rz)) w) := by
  have CN := Lib.hid (ceStr p q la ra l0 c0 l1 c1 lz rz w hl hsl hr hsr)
  clear hl hsl hr hsr
  unfold ifp at *
  go_enter Try.func13, Try.ntmps13
  go_wp2_with fail
  refine CN.out.mono ?_
  rintro e w' ⟨rfl, n, rfl⟩
  go_wp2_with fail
  go_ret
  exact ⟨rfl, _, rfl⟩
set_option maxHeartbeats 1000000 in
theorem vls_idx (p q T1 p1 T2 p2 s1 s2 : Nat) (f1 f2 : Int) (r rs : Bool) (w : World) (b1 : Blk w p #[ifp T1 p1, .int .i32 0, ifp 55 s1, .int .i32 0, .int .i32 0, .int .u8 f1, .bool false, .bool false, .bool false] 61)
    (b2 : Blk w q #[ifp T2 p2, .int .i32 0, ifp 55 s2, .int .i32 0, .int .i32 0, .int .u8 f2, .bool false, .bool false, .bool false] 61)
    (ih : ∀ m, Calls Try.prog 13 #[ifp T1 p1, ifp T2 p2] (w.drewN m) (Vq r (w.drewN m)))
    (is : ∀ m, Calls Try.prog 13 #[ifp 55 s1, ifp 55 s2] (w.drewN m) (Vq rs (w.drewN m))) :
    Calls Try.prog 13 #[ifp 43 p, ifp 43 q] w (Vq (fb f1 f2 && rs && r) w) := by
  have HS := Lib.hid fun m => hsX p q f1 f2 (w.drewN m) ((b1.below (below_drewN' m)).cell 5) ((b1.below (below_drewN' m)).cell 6) ((b1.below (below_drewN' m)).cell 7) ((b1.below (below_drewN' m)).cell 8) ((b2.below (below_drewN' m)).cell 5) ((b2.below (below_drewN' m)).cell 6) ((b2.below (below_drewN' m)).cell 7) ((b2.below (below_drewN' m)).cell 8)
  have IH := Lib.hid ih
  have IS := Lib.hid is
  have c0 : w.cell? ⟨p, 0, none⟩ = some (ifp T1 p1) := b1.cell 0
  have c2 : w.cell? ⟨p, 2, none⟩ = some (ifp 55 s1) := b1.cell 2
  have d0 : w.cell? ⟨q, 0, none⟩ = some (ifp T2 p2) := b2.cell 0
  have d2 : w.cell? ⟨q, 2, none⟩ = some (ifp 55 s2) := b2.cell 2
  have l1 := b1.lt
  have l2 := b2.lt
  have CN := Lib.hid fun (W : World) => ceNo 43 43 (.pointer (some ⟨p, 0, none⟩)) (.pointer (some ⟨q, 0, none⟩)) W (by decide) (by decide)
  clear b1 b2 ih is
  generalize fb f1 f2 = b at *
  unfold ifp at *
  cases b with
  | false =>
    go_enter Try.func13, Try.ntmps13
    go_wp2_with fail
    go_quiet ((go_at_call 15; exact Calls.quiet_of (HS.out _)))
    go_wp2_with (first | (go_at_call 18; refine (CN.out _).mono ?_; rintro e w' ⟨rfl, rfl⟩))
    go_ret
    exact ⟨ret_bool2 (by simp), _, rfl⟩
  | true =>
    cases r with
    | false =>
      go_enter Try.func13, Try.ntmps13
      go_wp2_with fail
      go_quiet ((first | (go_at_call 15; exact Calls.quiet_of (HS.out _)) | (go_at_call 13; first | (with_reducible exact Calls.quiet_of (IH.out _)) | (with_reducible exact Calls.quiet_of (IS.out _)))))
      go_wp2_with (first | (go_at_call 18; refine (CN.out _).mono ?_; rintro e w' ⟨rfl, rfl⟩))
      go_ret
      exact ⟨ret_bool2 (by simp), _, rfl⟩
    | true =>
      cases rs with
      | false =>
        go_enter Try.func13, Try.ntmps13
        go_wp2_with fail
        go_quiet ((first | (go_at_call 15; exact Calls.quiet_of (HS.out _)) | (go_at_call 13; first | (with_reducible exact Calls.quiet_of (IH.out _)) | (with_reducible exact Calls.quiet_of (IS.out _)))))
        go_wp2_with (first | (go_at_call 18; refine (CN.out _).mono ?_; rintro e w' ⟨rfl, rfl⟩))
        go_ret
        exact ⟨ret_bool2 (by simp), _, rfl⟩
      | true =>
        go_enter Try.func13, Try.ntmps13
        go_wp2_with fail
        go_quiet ((first | (go_at_call 15; exact Calls.quiet_of (HS.out _)) | (go_at_call 13; first | (with_reducible exact Calls.quiet_of (IH.out _)) | (with_reducible exact Calls.quiet_of (IS.out _)))))
        go_wp2_with (first | (go_at_call 18; refine (CN.out _).mono ?_; rintro e w' ⟨rfl, rfl⟩))
        go_ret
        exact ⟨ret_bool2 (by simp), _, rfl⟩
theorem vls_id (p q : Nat) (r1 r2 : Int) (w : World) (b1 : Blk w p #[.int .u32 0, .int .u32 r1, .bool false, .bool false, .bool false] 51) (b2 : Blk w q #[.int .u32 0, .int .u32 r2, .bool false, .bool false, .bool false] 51) :
    Calls Try.prog 13 #[ifp 47 p, ifp 47 q] w (Vq (decide (r1 = r2)) w) := by
  have g := guard49
  have e := fun w => eql49 w 0 r1 0 r2
  have c0 : w.cell? ⟨p, 0, none⟩ = some (.int .u32 0) := b1.cell 0
  have c1 : w.cell? ⟨p, 1, none⟩ = some (.int .u32 r1) := b1.cell 1
  have d0 : w.cell? ⟨q, 0, none⟩ = some (.int .u32 0) := b2.cell 0
  have d1 : w.cell? ⟨q, 1, none⟩ = some (.int .u32 r2) := b2.cell 1
  have l1 := b1.lt
  have l2 := b2.lt
  have CN := Lib.hid fun (W : World) => ceNo 47 47 (.pointer (some ⟨p, 0, none⟩)) (.pointer (some ⟨q, 0, none⟩)) W (by decide) (by decide)
  clear b1 b2
  unfold ifp at *
  by_cases h : r1 = r2
  · subst h
    go_enter Try.func13, Try.ntmps13
    go_wp2_with fail
    go_quiet (fail)
    go_wp2_with (first | (go_at_call 18; refine (CN.out _).mono ?_; rintro e w' ⟨rfl, rfl⟩))
    go_ret
    exact ⟨ret_bool2 (by simp), _, rfl⟩
  · have h1 : (r1 == r2) = false := by simpa using h
    have H := Lib.hid h
    clear h
    go_enter Try.func13, Try.ntmps13
    go_wp2_with fail
    go_quiet (fail)
    go_wp2_with (first | (go_at_call 18; refine (CN.out _).mono ?_; rintro e w' ⟨rfl, rfl⟩))
    go_ret
    exact ⟨ret_bool2 (by simp [H.out]), _, rfl⟩
theorem vls_ne (T T2 p q : Nat) (w : World) (h : (T = 47 ∨ T = 42 ∨ T = 43 ∨ T = 44)) (h2 : (T2 = 47 ∨ T2 = 42 ∨ T2 = 43 ∨ T2 = 44)) (hne : T ≠ T2) :
    Calls Try.prog 13 #[ifp T p, ifp T2 q] w (Vq false w) := by
  have CN := Lib.hid fun (W : World) => ceNo T T2 (.pointer (some ⟨p, 0, none⟩)) (.pointer (some ⟨q, 0, none⟩)) W h h2
  unfold ifp at *
  rcases h with rfl | rfl | rfl | rfl <;> rcases h2 with rfl | rfl | rfl | rfl <;> first | (exact absurd rfl hne) | skip
  all_goals
    clear hne
    go_enter Try.func13, Try.ntmps13
    go_wp2_with fail
    try go_quiet (fail)
    go_wp2_with (first | (go_at_call 18; refine (CN.out _).mono ?_; rintro e w' ⟨rfl, rfl⟩))
    go_ret
    exact ⟨rfl, _, rfl⟩
end Go.Proofs.YtanaidcjiinpaaaRR.opt
