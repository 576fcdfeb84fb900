/- Plain facts on the last rune of a text, and the contract of 'strings.IndexRune' at the two separators. No conditions beyond the hypotheses. -/
import Derived.Test.YtifngbfkcpfagaaDoorRows
import Derived.Test.YtifngbfkcpfagaaDoorLib
import Derived.Test.YtifngbfkcpfagaaDoorShelf
import Derived.Test.YtifngbfkcpfagaaDoorGenP
import Derived.Lib.MapLaws
import Derived.Lib.OthersKept
import Derived.Deep.LoopGhost
import Derived.Deep.QuietTactic
import Derived.BigQuiet
import Derived.WalkMore
import Derived.Outline
import Derived.Stop.FmtQuoteTie
namespace Go.Proofs.YtifngbfkcpfagaaDoor.gen
open Go.ChangeShapes Go.WideShapes Go.ChangeAt Go.RowKit Go.Mine
set_option linter.unusedVariables false
set_option maxRecDepth 100000

def Plain (t : List UInt8) : Prop := ∀ b ∈ t, b ≠ 47 ∧ b ≠ 92
theorem getD_drop (l : List UInt8) (s o : Nat) : (l.drop s).getD o 0 = l.getD (s + o) 0 := by simp [List.getD, List.getElem?_drop]
theorem last_sep (a : List UInt8) : Lib.decodeLastL (a ++ [47]) = (47, 1) := by
  unfold Lib.decodeLastL
  have h1 : (a ++ [(47 : UInt8)]).getD ((a ++ [(47 : UInt8)]).length - 1) 0 = 47 := by simp [List.getD]
  rw [if_neg (by simp), h1]
  rfl
theorem last_in (a t : List UInt8) (ht : t ≠ []) (hp : Plain t) :
    (Lib.decodeLastL (a ++ 47 :: t)).1 ≠ 47 ∧ (Lib.decodeLastL (a ++ 47 :: t)).1 ≠ 92 ∧ 1 ≤ (Lib.decodeLastL (a ++ 47 :: t)).2 ∧ (Lib.decodeLastL (a ++ 47 :: t)).2 ≤ t.length ∧ (Lib.decodeLastL (a ++ 47 :: t)).1 ≤ 1114111 := by
  have htl : 0 < t.length := List.length_pos_iff.2 ht
  have hlen : (a ++ 47 :: t).length = a.length + 1 + t.length := by simp; omega
  have hmid : (a ++ 47 :: t).getD a.length 0 = 47 := by simp [List.getD]
  have hlast : (a ++ 47 :: t).getD ((a ++ 47 :: t).length - 1) 0 = t.getD (t.length - 1) 0 := by
    rw [hlen]
    simp only [List.getD]
    rw [List.getElem?_append_right (by omega)]
    rw [show a.length + 1 + t.length - 1 - a.length = (t.length - 1) + 1 by omega, List.getElem?_cons_succ]
  have hpl := hp (t.getD (t.length - 1) 0) (by
    have : t.length - 1 < t.length := by omega
    simp [List.getD, this])
  unfold Lib.decodeLastL
  rw [if_neg (by simp), hlast]
  generalize a ++ 47 :: t = l at *
  by_cases hb : (t.getD (t.length - 1) 0).toNat < 128
  · rw [if_pos hb]
    refine ⟨fun e => hpl.1 (UInt8.toNat_inj.1 e), fun e => hpl.2 (UInt8.toNat_inj.1 e), Nat.le_refl _, htl, ?_⟩
    show (t.getD (t.length - 1) 0).toNat ≤ _
    omega
  · rw [if_neg hb]
    dsimp only
    have bad : (Utf8.runeError, 1).1 ≠ 47 ∧ (Utf8.runeError, 1).1 ≠ 92 ∧ 1 ≤ (Utf8.runeError, 1).2 ∧ (Utf8.runeError, 1).2 ≤ t.length ∧ (Utf8.runeError, 1).1 ≤ 1114111 := ⟨by decide, by decide, Nat.le_refl _, htl, by decide⟩
    generalize hst : Lib.lastStart l = st at *
    split
    · rename_i hd
      have hN := Lib.decodeL_N (l.drop st)
      simp only [getD_drop, Nat.add_zero] at hN
      have hb0 : st + 1 = l.length → (l.getD st 0).toNat ≥ 128 := fun e => by
        rw [show st = l.length - 1 by omega, hlast]
        omega
      have hm : ∀ o, st + o = a.length → (l.getD (st + o) 0).toNat = 47 := fun o e => by rw [e, hmid]; rfl
      rcases Lib.decodeN_shape (l.drop st).length (l.getD st 0).toNat (l.getD (st + 1) 0).toNat (l.getD (st + 2) 0).toNat (l.getD (st + 3) 0).toNat with ⟨c, e⟩ | ⟨c1, c2, c3, cv, e⟩ | ⟨c1, c2, c3, c4, cv, cs, e⟩ | ⟨c1, c2, c3, c4, c5, cv, cw, e⟩ | e
      · rw [e] at hN
        rw [hN] at hd
        have := hb0 hd
        omega
      · rw [e] at hN
        rw [hN] at hd ⊢
        simp only at hd ⊢
        have m0 := hm 0
        have m1 := hm 1
        rw [Nat.add_zero] at m0
        refine ⟨by omega, by omega, by omega, ?_, by omega⟩
        apply Classical.byContradiction
        intro hn
        have : st = a.length ∨ st + 1 = a.length := by omega
        rcases this with h | h
        · have := m0 h; omega
        · have := m1 h; omega
      · rw [e] at hN
        rw [hN] at hd ⊢
        simp only at hd ⊢
        have m0 := hm 0
        have m1 := hm 1
        have m2 := hm 2
        rw [Nat.add_zero] at m0
        refine ⟨by omega, by omega, by omega, ?_, by omega⟩
        apply Classical.byContradiction
        intro hn
        have : st = a.length ∨ st + 1 = a.length ∨ st + 2 = a.length := by omega
        rcases this with h | h | h
        · have := m0 h; omega
        · have := m1 h; omega
        · have := m2 h; omega
      · rw [e] at hN
        rw [hN] at hd ⊢
        simp only at hd ⊢
        have m0 := hm 0
        have m1 := hm 1
        have m2 := hm 2
        have m3 := hm 3
        rw [Nat.add_zero] at m0
        refine ⟨by omega, by omega, by omega, ?_, by omega⟩
        apply Classical.byContradiction
        intro hn
        have : st = a.length ∨ st + 1 = a.length ∨ st + 2 = a.length ∨ st + 3 = a.length := by omega
        rcases this with h | h | h | h
        · have := m0 h; omega
        · have := m1 h; omega
        · have := m2 h; omega
        · have := m3 h; omega
      · rw [e] at hN
        rw [hN]
        exact bad
    · exact bad
abbrev seps : ByteArray := ⟨#[47, 92]⟩
def No (w : World) (e : Ending) (w' : World) : Prop := e = .returned (.int .i64 (-1)) ∧ Below w.heap.size w w'
theorem irune_yes (w : World) : Calls Tryd.prog 15 #[.string seps, .int .i32 47] w fun e w' => e = .returned (.int .i64 0) ∧ Below w.heap.size w w' :=
  (Tryd.strings_IndexRune_ascii seps 47 w (by decide) (by decide)).mono fun e w' ⟨h1, h2⟩ => ⟨by rw [h1]; rfl, by rw [h2]; exact Below.refl _ _⟩
theorem irune_ascii (r : Int) (w : World) (h0 : 0 ≤ r) (h1 : r < 128) (h2 : r ≠ 47) (h3 : r ≠ 92) : Calls Tryd.prog 15 #[.string seps, .int .i32 r] w (No w) :=
  (Tryd.strings_IndexRune_ascii seps r w h0 h1).mono fun e w' ⟨k1, k2⟩ => ⟨by
    rw [k1]
    have e1 : (47 : UInt8) ≠ r.toNat.toUInt8 := fun e => by have := congrArg UInt8.toNat e; simp at this; omega
    have e2 : (92 : UInt8) ≠ r.toNat.toUInt8 := fun e => by have := congrArg UInt8.toNat e; simp at this; omega
    have : Lib.indexByte seps.data.toList r.toNat.toUInt8 = -1 := by
      show Lib.indexByte [47, 92] _ = -1
      simp [Lib.indexByte, e1, e2]
    rw [this], by rw [k2]; exact Below.refl _ _⟩
theorem iter_new (w : World) (s : ByteArray) : (w.iter s 0).heap[w.heap.size]? = some (.stringIter s 0) := World.iter_heap w s 0
set_option maxHeartbeats 2000000 in
theorem irune_err (w : World) : Calls Tryd.prog 15 #[.string seps, .int .i32 65533] w (No w) := by
  go_enter Tryd.func15, Tryd.ntmps15
  go_wp2_with fail
  go_loopg [5] 2 (fun gf s5 wx => ∃ pos : Nat, pos + gf = 2 ∧ wx.heap[w.heap.size]? = some (.stringIter seps pos) ∧ Below w.heap.size w wx)
  case atStart => exact ⟨0, rfl, iter_new w seps, (Below.refl _ _).alloc (Nat.le_refl _) _⟩
  case round =>
    obtain ⟨pos, hp, hit, hbw⟩ := hrel
    match gk, hp with
    | 0, hp =>
      obtain rfl : pos = 2 := by omega
      have hnx : ∀ ty, (Instr.next (.pointer (some ⟨w.heap.size, 0, none⟩)) true ty).run Tryd.prog wr = _ := fun ty => Lib.run_next_end_at wr _ seps 2 ty hit (by decide)
      have HB := Lib.hid hbw
      clear hit hbw
      go_wp2_with fail
      go_ret
      exact ⟨rfl, HB.out⟩
    | 1, hp =>
      obtain rfl : pos = 1 := by omega
      have hd : Utf8.decode seps 1 = (92, 1) := by decide +kernel
      have hnx : ∀ ty, (Instr.next (.pointer (some ⟨w.heap.size, 0, none⟩)) true ty).run Tryd.prog wr = _ := fun ty => Lib.run_next_any_at wr _ seps 1 ty hit (by decide)
      rw [hd] at hnx
      have hit2 := Lib.hid (Lib.iterAt_heap wr _ seps 1 2 hit)
      have hbw2 := Lib.hid (Lib.below_iterAt hbw (k := w.heap.size) (Nat.le_refl _) seps 2)
      clear hit hbw hd
      go_wp2_with fail
      go_roundg 0
      case measure => omega
      case rel => exact ⟨2, rfl, hit2.out, hbw2.out⟩
    | 2, hp =>
      obtain rfl : pos = 0 := by omega
      have hd : Utf8.decode seps 0 = (47, 1) := by decide +kernel
      have hnx : ∀ ty, (Instr.next (.pointer (some ⟨w.heap.size, 0, none⟩)) true ty).run Tryd.prog wr = _ := fun ty => Lib.run_next_any_at wr _ seps 0 ty hit (by decide)
      rw [hd] at hnx
      have hit2 := Lib.hid (Lib.iterAt_heap wr _ seps 0 1 hit)
      have hbw2 := Lib.hid (Lib.below_iterAt hbw (k := w.heap.size) (Nat.le_refl _) seps 1)
      clear hit hbw hd
      go_wp2_with fail
      go_roundg 1
      case measure => omega
      case rel => exact ⟨1, rfl, hit2.out, hbw2.out⟩
    | n + 3, hp => omega
set_option maxHeartbeats 2000000 in
theorem irune_bad (r : Int) (w : World) (h0 : 128 ≤ r) (h1 : r ≤ 1114111) (he : (r == 65533) = false) (hv : Lib.validRune r = false) : Calls Tryd.prog 15 #[.string seps, .int .i32 r] w (No w) := by
  go_enter Tryd.func15, Tryd.ntmps15
  go_wp2_with (first | (go_at_call 22; (with_reducible refine (Tryd.utf8_ValidRune _ _).mono ?_); rintro e w' ⟨rfl, rfl⟩; rw [hv]))
  go_ret
  exact ⟨rfl, Below.refl _ _⟩
theorem quiet_add_same {P : Program} {f : FuncId} {args : Array Value} {w : World} {a n : Nat} {v : Value} (h : Calls P f args (w.drewN (a + n)) fun e w' => e = .returned v ∧ w' = w.drewN (a + n)) :
    Calls P f args (w.drewN (a + n)) fun e w'' => e = .returned v ∧ ∃ m, w'' = w.drewN (a + m) := h.mono fun _ _ ⟨he, hm⟩ => ⟨he, n, hm⟩
theorem encB2 (n : Nat) (h0 : 128 ≤ n) (h1 : n ≤ 2047) : ∃ x y : UInt8, Utf8.encode (n : Int) = ⟨#[x, y]⟩ ∧ 128 ≤ y.toNat := by
  refine ⟨UInt8.ofNat (192 + n / 64), UInt8.ofNat (128 + n % 64), ByteArray.ext (Array.toList_inj.1 (Go.Extern.FmtText.enc2 n (by omega) (by omega))), ?_⟩
  simp
  omega
theorem encB3 (n : Nat) (h0 : 2048 ≤ n) : 3 ≤ (Utf8.encode (n : Int)).size ∧ (Utf8.encode (n : Int)).size ≤ 4 := by
  have hs : (Utf8.encode (n : Int)).size = (Utf8.encode (n : Int)).data.toList.length := by simp
  rw [hs]
  by_cases hb : (55296 ≤ n ∧ n ≤ 57343) ∨ 1114111 < n
  · rw [Go.Extern.FmtText.encBad n hb]; simp
  · by_cases c3 : n < 65536
    · rw [Go.Extern.FmtText.enc3 n (by omega) c3 (by omega)]; simp
    · rw [Go.Extern.FmtText.enc4 n c3 (by omega)]; simp
theorem encI2 (r : Int) (h0 : 128 ≤ r) (h1 : r ≤ 2047) : ∃ x y : UInt8, Utf8.encode r = ⟨#[x, y]⟩ ∧ 128 ≤ y.toNat := by
  obtain ⟨n, rfl⟩ : ∃ n : Nat, r = n := ⟨r.toNat, by omega⟩
  exact encB2 n (by omega) (by omega)
theorem encI3 (r : Int) (h0 : 2048 ≤ r) : 3 ≤ (Utf8.encode r).size ∧ (Utf8.encode r).size ≤ 4 := by
  obtain ⟨n, rfl⟩ : ∃ n : Nat, r = n := ⟨r.toNat, by omega⟩
  exact encB3 n (by omega)
set_option maxHeartbeats 4000000 in
theorem irune_good (r : Int) (w : World) (h0 : 128 ≤ r) (h1 : r ≤ 1114111) (he : (r == 65533) = false) (hv : Lib.validRune r = true) : Calls Tryd.prog 15 #[.string seps, .int .i32 r] w (No w) := by
  by_cases h2 : r ≤ 2047
  · obtain ⟨x, y, hE, hy⟩ := encI2 r h0 h2
    have HE := Lib.hid hE
    clear hE
    go_enter Tryd.func15, Tryd.ntmps15
    go_wp2_with (first | (go_at_call 22; (with_reducible refine (Tryd.utf8_ValidRune _ _).mono ?_); rintro e w' ⟨rfl, rfl⟩; rw [hv]))
    go_step3
    have hE := HE.out
    go_wp2_with fail
    have z1 : 1 < seps.size := by decide
    have z2 : 1 < (⟨#[x, y]⟩ : ByteArray).size := by show 1 < 2; omega
    have q1 : (((seps[1]'z1).toNat : Int) != (((⟨#[x, y]⟩ : ByteArray)[1]'z2).toNat : Int)) = true := by
      show ((92 : Int) != (y.toNat : Int)) = true
      simp
      omega
    have IB : Hid (∀ (c : Int) (m : Nat), Calls Tryd.prog 21 #[.string (seps.extract 2 2), .int .u8 c] (w'.drewN m) fun e w'' => e = .returned (.int .i64 (-1)) ∧ w'' = w'.drewN m) := Lib.hid fun c m => (Tryd.strings_IndexByte _ c _).mono fun e w'' h => ⟨h.1, h.2⟩
    refine wp_loop_rounds 1 ?_
    rw [rounds_succ]
    go_wp2_with fail
    go_step3
    go_wp2_with fail
    go_quiet (fail)
    go_wp2_with fail
    go_quiet ((go_at_call 21; exact quiet_add_same (IB.out _ _)))
    go_wp2_with fail
    rw [Exit.noGoto_ret]
    go_ret
    exact ⟨rfl, below_drewN' _⟩
  · obtain ⟨hE3, hE4⟩ := encI3 r (by omega)
    generalize hE : Utf8.encode r = E at *
    go_enter Tryd.func15, Tryd.ntmps15
    go_wp2_with (first | (go_at_call 22; (with_reducible refine (Tryd.utf8_ValidRune _ _).mono ?_); rintro e w' ⟨rfl, rfl⟩; rw [hv]))
    go_step3
    go_wp2_with fail
    refine wp_loop_rounds 1 ?_
    rw [rounds_succ]
    go_wp2_with fail
    rw [Exit.noGoto_ret]
    go_ret
    exact ⟨rfl, Below.refl _ _⟩
/-- 'strings.IndexRune' at the two separators and a rune that is neither. -/
theorem irune_no (r : Nat) (w : World) (h1 : r ≤ 1114111) (h2 : r ≠ 47) (h3 : r ≠ 92) : Calls Tryd.prog 15 #[.string seps, .int .i32 (r : Int)] w (No w) := by
  have k0 : (0 : Int) ≤ (r : Int) := Int.natCast_nonneg r
  have k1 : (r : Int) ≤ 1114111 := by omega
  have k2 : (r : Int) ≠ 47 := by omega
  have k3 : (r : Int) ≠ 92 := by omega
  generalize (r : Int) = z at *
  by_cases ha : z < 128
  · exact irune_ascii z w k0 ha k2 k3
  · by_cases he : z = 65533
    · rw [he]; exact irune_err w
    · have he' : (z == 65533) = false := by simpa using he
      cases hv : Lib.validRune z
      · exact irune_bad z w (by omega) k1 he' hv
      · exact irune_good z w (by omega) k1 he' hv
end Go.Proofs.YtifngbfkcpfagaaDoor.gen
