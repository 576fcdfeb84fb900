/- The contract of 'formatBits' at a base that is no power of two. No conditions beyond the hypotheses. -/
import Derived.Test.YtlhcgkocnckddaaDoorDigC
import Derived.Deep.LoopGhost
namespace Go.Proofs.YtlhcgkocnckddaaDoor.dig
open Go.ChangeShapes Go.WideShapes Go.ChangeAt Go.RowKit Go.Mine
set_option linter.unusedVariables false
set_option linter.unusedSimpArgs false
set_option maxRecDepth 100000

def signed (neg : Bool) (l : List UInt8) : List UInt8 := if neg = true then 45 :: l else l
def Z65 : Array Value := Array.replicate 65 (.int .u8 0)
theorem zero46 (w : World) : (zeroValue 46).run Tryd.prog w = .ok (.agg Z65) w := run_zero_of w (by kernel_rfl)
theorem arr_new (w : World) (T : TypeId) : Arr (w.alloc (.cells Z65 T)) w.heap.size (fun _ => 0) := by
  refine ⟨fun t ht => ?_, fun t ht => World.frozen?_alloc_new _ _ _ _, by simp⟩
  rw [World.cell?_alloc_new]
  unfold Z65
  rw [Array.getElem?_replicate, if_pos ht]
theorem sl65 (R i : Nat) (hi : i < 65) (W : World) : (Instr.sliceAt 46 (.pointer (some ⟨R, 0, none⟩)) (some (.int .i64 (i : Int))) none none).run Tryd.prog W = .ok (.slice (some ⟨R, i, none⟩) (65 - i) (65 - i)) W := by
  have hal : Tryd.prog.arrayLen 46 = 65 := by simp [Program.arrayLen, Tryd.underlying46]
  rw [run_sliceAt_array_l W 46 ⟨R, 0, none⟩ (by simp [Program.arrayLen, Program.elem, Tryd.underlying46]) .i64 (i : Int) (by omega) (by rw [hal]; omega)]
  simp only [slicedAt, Program.elem, Tryd.underlying46, Tryd.sizeOf5, Result.andThen]
  rw [hal, Int.toNat_natCast, if_neg (by omega), Nat.mul_one]
  simp [Addr.add]
  exact fun h => h.symm
theorem back (W : World) (R : Nat) (G : Nat → Int) (bs : List UInt8) (hA : Arr W R G) (hF : Fits G bs) (n c : Nat) (hn : n = bs.length) :
    (convert 37 9 (.slice (some ⟨R, 65 - bs.length, none⟩) n c)).run Tryd.prog W = .ok (.string ⟨bs.toArray⟩) W := by
  subst hn
  have h := run_convert_bytes_back (P := Tryd.prog) W 37 9 5 ⟨R, 65 - bs.length, none⟩ c bs Tryd.underlying37 Tryd.underlying5 Tryd.underlying9 (fun j hj => by
    have := hF.1
    rw [Lib.add_plain, hA.cell _ (by omega), hF.2 j hj])
  exact h
theorem tz_alloc {w : World} (h : Tz w) (Z : Array Value) (T : TypeId) : Tz (w.alloc (.cells Z T)) := by
  have e : ∀ i v, w.cell? ⟨3, i, none⟩ = some v → (w.alloc (.cells Z T)).cell? ⟨3, i, none⟩ = some v := fun i v hc => by
    rw [World.cell?_alloc_lt _ _ _ (World.block_lt_of_cell? w _ hc)]
    exact hc
  exact ⟨e _ _ h.c1, e _ _ h.c2, e _ _ h.c3, e _ _ h.c4, e _ _ h.c5⟩
set_option maxHeartbeats 2000000 in
theorem bits_gen (b m : Nat) (w : World) (hb : 2 ≤ b ∧ b ≤ 36) (h10 : b ≠ 10) (hp : isP b = false) (hm : m ≤ 2147483648) :
    Calls Tryd.prog 14 #[.slice none 0 0, .int .u64 (m : Int), .int .i64 b, .bool false, .bool false] w fun e w' => e = .returned (.tuple #[.slice none 0 0, .string ⟨(signed false (txt b m)).toArray⟩]) ∧ Below w.heap.size w w' := by
  have H := Lib.hid (fun w => hp ▸ isPow b hb w)
  have q1 : ((b : Int) == 10) = false := beq_false_of_ne (by omega)
  have hz := zero46
  go_enter Tryd.func14, Tryd.ntmps14
  have eD : (⟨#[48, 49, 50, 51, 52, 53, 54, 55, 56, 57, 97, 98, 99, 100, 101, 102, 103, 104, 105, 106, 107, 108, 109, 110, 111, 112, 113, 114, 115, 116, 117, 118, 119, 120, 121, 122]⟩ : ByteArray) = D36 := by decide +kernel
  rw [eD]
  clear eD
  go_wp2_with fail
  refine (H.out _).mono ?_
  rintro e w' ⟨rfl, rfl⟩
  go_wp2_with fail
  go_loopg [1, 13, 18] m (fun g s1 s13 s18 wr => ∃ (u : Nat) (i : Nat) (G : Nat → Int) (bs : List UInt8), s1 = .int .u64 (u : Int) ∧ s13 = .int .i64 (i : Int) ∧ Hid (i = 65 - bs.length) ∧ Hid (txt b m = txt b u ++ bs) ∧ Hid (Arr wr w.heap.size G) ∧ Hid (Fits G bs) ∧ Hid (Below w.heap.size w wr) ∧ u ≤ g ∧ u ≤ 2147483648)
  case atStart => exact ⟨m, 65, fun _ => 0, [], rfl, rfl, Lib.hid rfl, Lib.hid (by simp), Lib.hid (arr_new _ _), Lib.hid (Fits.nil _), Lib.hid ((Below.refl _ _).alloc (Nat.le_refl _) _), by omega, hm⟩
  case round =>
    obtain ⟨u, i, G, bs, rfl, rfl, hi, ht, hA, hF, hB, hug, hu⟩ := hrel
    have hlen : bs.length + (txt b u).length ≤ 32 := by
      have h1 := (txt_len b hb.1 m hm).2
      rw [ht.out, List.length_append] at h1
      omega
    have hul := (txt_len b hb.1 u hu).1
    have hie := hi.out
    have hi1 : 34 ≤ i ∧ i ≤ 65 := by omega
    clear hie
    have hci := hA.out.cell (i - 1) (by omega)
    have hfi := hA.out.free (i - 1) (by omega)
    have hlt := hA.out.lt
    have ei : ((i - 1 : Nat) : Int) = (i : Int) - 1 := by omega
    by_cases hbu : b ≤ u
    · obtain ⟨g', rfl⟩ : ∃ g', gk = g' + 1 := ⟨gk - 1, by omega⟩
      obtain ⟨r, hr⟩ : ∃ r, u % b = r := ⟨_, rfl⟩
      obtain ⟨Q, hQ⟩ : ∃ Q, u / b = Q := ⟨_, rfl⟩
      have hrb : r < b := by rw [← hr]; exact Nat.mod_lt u (by omega)
      have hQu : Q < u := by rw [← hQ]; exact Nat.div_lt_self (by omega) (by omega)
      obtain ⟨M, hM⟩ : ∃ M, Q * b = M := ⟨_, rfl⟩
      have huM : M + r = u := by rw [← hr, ← hM, ← hQ]; exact Nat.div_add_mod' u b
      have e1 : IntKind.u64.wrap ((u : Int) / (b : Int)) = (Q : Int) := by
        have : ((u : Int) / (b : Int)) = (Q : Int) := by rw [← hQ]; rfl
        rw [this, IntKind.wrap_u64]; omega
      have e2 : IntKind.u64.wrap ((Q : Int) * (b : Int)) = (M : Int) := by
        have : ((Q : Int) * (b : Int)) = (M : Int) := by rw [← hM]; exact (Int.natCast_mul Q b).symm
        rw [this, IntKind.wrap_u64]; omega
      have e3 : IntKind.u64.wrap ((u : Int) - (M : Int)) = (r : Int) := by rw [IntKind.wrap_u64]; omega
      have hidx : ∀ W, (Instr.index 9 (.string D36) (.int .u64 (r : Int))).run Tryd.prog W = .ok (.int .u8 ((ch r).toNat : Int)) W := idx36 9 Tryd.underlying9 .u64 _ r rfl (by omega)
      have hN := Lib.hid (show txt b m = txt b Q ++ (ch r :: bs) by rw [ht.out, txt_big hb.1 hbu, hQ, hr, List.append_assoc]; rfl)
      clear ht hr hQ hM hlen
      generalize hc : (((ch r).toNat : Nat) : Int) = c at hidx
      have HC := Lib.hid hc
      clear hc
      go_wp2_with fail
      go_roundg g'
      case measure => omega
      case rel =>
        refine ⟨Q, i - 1, _, ch r :: bs, rfl, by congr 1; omega, Lib.hid (by have := hi.out; simp; omega), hN, Lib.hid (hA.out.set (i - 1) (by omega) _), ?_, Lib.hid (hB.out.setCell (by simp) _), by omega, by omega⟩
        refine Lib.hid ?_
        have := hF.out.cons (by have := hi.out; omega) (ch r)
        rw [← hi.out, HC.out] at this
        exact this
    · have hidx : ∀ W, (Instr.index 9 (.string D36) (.int .u64 (u : Int))).run Tryd.prog W = .ok (.int .u8 ((ch u).toNat : Int)) W := idx36 9 Tryd.underlying9 .u64 _ u rfl (by omega)
      have hN : txt b m = ch u :: bs := by rw [ht.out, txt_small (by omega)]; rfl
      have hF1 := hF.out.cons (by have := hi.out; omega) (ch u)
      rw [← hi.out] at hF1
      have hA1 := hA.out.set (i - 1) (by omega) ((ch u).toNat : Int)
      have hcv1 := back _ w.heap.size _ (ch u :: bs) hA1 hF1 (65 - (i - 1)) (65 - (i - 1)) (by have := hi.out; simp; omega)
      rw [show 65 - (ch u :: bs).length = i - 1 by have := hi.out; simp; omega, ← hN] at hcv1
      have hs := sl65 w.heap.size (i - 1) (by omega)
      rw [ei] at hs
      have HB := Lib.hid (hB.out.setCell (p := ⟨w.heap.size, i - 1, none⟩) (by simp) (.int .u8 ((ch u).toNat : Int)))
      clear hN hF1 hA1 hF hA ht hi hB hlen hul
      generalize hc : (((ch u).toNat : Nat) : Int) = c at *
      generalize hT : txt b m = T at *
      clear hc
      go_wp2_with fail
      go_ret2
      exact ⟨by rw [hT]; rfl, HB.out⟩
set_option maxHeartbeats 2000000 in
theorem bits_genN (b m : Nat) (w : World) (hb : 2 ≤ b ∧ b ≤ 36) (h10 : b ≠ 10) (hp : isP b = false) (hm0 : 1 ≤ m) (hm : m ≤ 2147483648) :
    Calls Tryd.prog 14 #[.slice none 0 0, .int .u64 (18446744073709551616 - (m : Int)), .int .i64 b, .bool true, .bool false] w fun e w' => e = .returned (.tuple #[.slice none 0 0, .string ⟨(signed true (txt b m)).toArray⟩]) ∧ Below w.heap.size w w' := by
  have H := Lib.hid (fun w => hp ▸ isPow b hb w)
  have q1 : ((b : Int) == 10) = false := beq_false_of_ne (by omega)
  have hz := zero46
  have e0 : IntKind.u64.wrap (-(18446744073709551616 - (m : Int))) = (m : Int) := by rw [IntKind.wrap_u64]; omega
  go_enter Tryd.func14, Tryd.ntmps14
  have eD : (⟨#[48, 49, 50, 51, 52, 53, 54, 55, 56, 57, 97, 98, 99, 100, 101, 102, 103, 104, 105, 106, 107, 108, 109, 110, 111, 112, 113, 114, 115, 116, 117, 118, 119, 120, 121, 122]⟩ : ByteArray) = D36 := by decide +kernel
  rw [eD]
  clear eD
  go_wp2_with fail
  refine (H.out _).mono ?_
  rintro e w' ⟨rfl, rfl⟩
  go_wp2_with fail
  go_loopg [1, 13, 18] m (fun g s1 s13 s18 wr => ∃ (u : Nat) (i : Nat) (G : Nat → Int) (bs : List UInt8), s1 = .int .u64 (u : Int) ∧ s13 = .int .i64 (i : Int) ∧ Hid (i = 65 - bs.length) ∧ Hid (txt b m = txt b u ++ bs) ∧ Hid (Arr wr w.heap.size G) ∧ Hid (Fits G bs) ∧ Hid (Below w.heap.size w wr) ∧ u ≤ g ∧ u ≤ 2147483648)
  case atStart => exact ⟨m, 65, fun _ => 0, [], rfl, rfl, Lib.hid rfl, Lib.hid (by simp), Lib.hid (arr_new _ _), Lib.hid (Fits.nil _), Lib.hid ((Below.refl _ _).alloc (Nat.le_refl _) _), by omega, hm⟩
  case round =>
    obtain ⟨u, i, G, bs, rfl, rfl, hi, ht, hA, hF, hB, hug, hu⟩ := hrel
    have hlen : bs.length + (txt b u).length ≤ 32 := by
      have h1 := (txt_len b hb.1 m hm).2
      rw [ht.out, List.length_append] at h1
      omega
    have hul := (txt_len b hb.1 u hu).1
    have hie := hi.out
    have hi1 : 34 ≤ i ∧ i ≤ 65 := by omega
    clear hie
    have hci := hA.out.cell (i - 1) (by omega)
    have hfi := hA.out.free (i - 1) (by omega)
    have hlt := hA.out.lt
    have ei : ((i - 1 : Nat) : Int) = (i : Int) - 1 := by omega
    have ei2 : ((i - 2 : Nat) : Int) = (i : Int) - 2 := by omega
    have ei3 : (i : Int) - 1 - 1 = (i : Int) - 2 := by omega
    by_cases hbu : b ≤ u
    · obtain ⟨g', rfl⟩ : ∃ g', gk = g' + 1 := ⟨gk - 1, by omega⟩
      obtain ⟨r, hr⟩ : ∃ r, u % b = r := ⟨_, rfl⟩
      obtain ⟨Q, hQ⟩ : ∃ Q, u / b = Q := ⟨_, rfl⟩
      have hrb : r < b := by rw [← hr]; exact Nat.mod_lt u (by omega)
      have hQu : Q < u := by rw [← hQ]; exact Nat.div_lt_self (by omega) (by omega)
      obtain ⟨M, hM⟩ : ∃ M, Q * b = M := ⟨_, rfl⟩
      have huM : M + r = u := by rw [← hr, ← hM, ← hQ]; exact Nat.div_add_mod' u b
      have e1 : IntKind.u64.wrap ((u : Int) / (b : Int)) = (Q : Int) := by
        have : ((u : Int) / (b : Int)) = (Q : Int) := by rw [← hQ]; rfl
        rw [this, IntKind.wrap_u64]; omega
      have e2 : IntKind.u64.wrap ((Q : Int) * (b : Int)) = (M : Int) := by
        have : ((Q : Int) * (b : Int)) = (M : Int) := by rw [← hM]; exact (Int.natCast_mul Q b).symm
        rw [this, IntKind.wrap_u64]; omega
      have e3 : IntKind.u64.wrap ((u : Int) - (M : Int)) = (r : Int) := by rw [IntKind.wrap_u64]; omega
      have hidx : ∀ W, (Instr.index 9 (.string D36) (.int .u64 (r : Int))).run Tryd.prog W = .ok (.int .u8 ((ch r).toNat : Int)) W := idx36 9 Tryd.underlying9 .u64 _ r rfl (by omega)
      have hN := Lib.hid (show txt b m = txt b Q ++ (ch r :: bs) by rw [ht.out, txt_big hb.1 hbu, hQ, hr, List.append_assoc]; rfl)
      clear ht hr hQ hM hlen
      generalize hc : (((ch r).toNat : Nat) : Int) = c at hidx
      have HC := Lib.hid hc
      clear hc
      go_wp2_with fail
      go_roundg g'
      case measure => omega
      case rel =>
        refine ⟨Q, i - 1, _, ch r :: bs, rfl, by congr 1; omega, Lib.hid (by have := hi.out; simp; omega), hN, Lib.hid (hA.out.set (i - 1) (by omega) _), ?_, Lib.hid (hB.out.setCell (by simp) _), by omega, by omega⟩
        refine Lib.hid ?_
        have := hF.out.cons (by have := hi.out; omega) (ch r)
        rw [← hi.out, HC.out] at this
        exact this
    · have hidx : ∀ W, (Instr.index 9 (.string D36) (.int .u64 (u : Int))).run Tryd.prog W = .ok (.int .u8 ((ch u).toNat : Int)) W := idx36 9 Tryd.underlying9 .u64 _ u rfl (by omega)
      have hN : txt b m = ch u :: bs := by rw [ht.out, txt_small (by omega)]; rfl
      have hF1 := hF.out.cons (by have := hi.out; omega) (ch u)
      rw [← hi.out] at hF1
      have hA1 := hA.out.set (i - 1) (by omega) ((ch u).toNat : Int)
      have hF2 := hF1.cons (by have := hi.out; simp; omega) 45
      rw [show 65 - (ch u :: bs).length - 1 = i - 2 by have := hi.out; simp; omega] at hF2
      have hA2 := hA1.set (i - 2) (by omega) ((45 : UInt8).toNat : Int)
      have hci2 := hA1.cell (i - 2) (by omega)
      have hfi2 := hA1.free (i - 2) (by omega)
      have hcv1 := back _ w.heap.size _ (45 :: ch u :: bs) hA2 hF2 (65 - (i - 2)) (65 - (i - 2)) (by have := hi.out; simp; omega)
      rw [show 65 - (45 :: ch u :: bs).length = i - 2 by have := hi.out; simp; omega, ← hN, show (((45 : UInt8).toNat : Nat) : Int) = 45 by decide] at hcv1
      have hs := sl65 w.heap.size (i - 2) (by omega)
      rw [ei2] at hs
      have HB := Lib.hid ((hB.out.setCell (p := ⟨w.heap.size, i - 1, none⟩) (by simp) (.int .u8 ((ch u).toNat : Int))).setCell (p := ⟨w.heap.size, i - 2, none⟩) (by simp) (.int .u8 45))
      clear hN hF1 hA1 hF2 hA2 hF hA ht hi hB hlen hul
      generalize hc : (((ch u).toNat : Nat) : Int) = c at *
      generalize hT : txt b m = T at *
      clear hc
      go_wp2_with fail
      go_ret2
      exact ⟨by rw [hT]; rfl, HB.out⟩
set_option maxHeartbeats 2000000 in
theorem bits_2 (m : Nat) (w : World) (hT : Tz w) (hm : m ≤ 2147483648) :
    Calls Tryd.prog 14 #[.slice none 0 0, .int .u64 (m : Int), .int .i64 2, .bool false, .bool false] w fun e w' => e = .returned (.tuple #[.slice none 0 0, .string ⟨(signed false (txt 2 m)).toArray⟩]) ∧ Below w.heap.size w w' := by
  have hb : 2 ≤ 2 ∧ 2 ≤ 36 := by decide
  have H : Hid (∀ w, Calls Tryd.prog 20 #[.int .i64 2] w fun e w' => e = .returned (.bool true) ∧ w = w') := Lib.hid fun w => isPow 2 (by decide) w
  have H2 := Lib.hid (tz_2 _ (tz_alloc hT Z65 46))
  clear hT
  have hz := zero46
  go_enter Tryd.func14, Tryd.ntmps14
  have eD : (⟨#[48, 49, 50, 51, 52, 53, 54, 55, 56, 57, 97, 98, 99, 100, 101, 102, 103, 104, 105, 106, 107, 108, 109, 110, 111, 112, 113, 114, 115, 116, 117, 118, 119, 120, 121, 122]⟩ : ByteArray) = D36 := by decide +kernel
  rw [eD]
  clear eD
  go_wp2_with fail
  refine (H.out _).mono ?_
  rintro e w' ⟨rfl, rfl⟩
  go_wp2_with fail
  refine H2.out.mono ?_
  rintro e w' ⟨rfl, rfl⟩
  go_wp2_with fail
  go_loopg [1, 13] m (fun g s1 s13 wr => ∃ (u : Nat) (i : Nat) (G : Nat → Int) (bs : List UInt8), s1 = .int .u64 (u : Int) ∧ s13 = .int .i64 (i : Int) ∧ Hid (i = 65 - bs.length) ∧ Hid (txt 2 m = txt 2 u ++ bs) ∧ Hid (Arr wr w.heap.size G) ∧ Hid (Fits G bs) ∧ Hid (Below w.heap.size w wr) ∧ u ≤ g ∧ u ≤ 2147483648)
  case atStart => exact ⟨m, 65, fun _ => 0, [], rfl, rfl, Lib.hid rfl, Lib.hid (by simp), Lib.hid (arr_new _ _), Lib.hid (Fits.nil _), Lib.hid ((Below.refl _ _).alloc (Nat.le_refl _) _), by omega, hm⟩
  case round =>
    obtain ⟨u, i, G, bs, rfl, rfl, hi, ht, hA, hF, hB, hug, hu⟩ := hrel
    have hlen : bs.length + (txt 2 u).length ≤ 32 := by
      have h1 := (txt_len 2 hb.1 m hm).2
      rw [ht.out, List.length_append] at h1
      omega
    have hul := (txt_len 2 hb.1 u hu).1
    have hie := hi.out
    have hi1 : 34 ≤ i ∧ i ≤ 65 := by omega
    clear hie
    have hci := hA.out.cell (i - 1) (by omega)
    have hfi := hA.out.free (i - 1) (by omega)
    have hlt := hA.out.lt
    have ei : ((i - 1 : Nat) : Int) = (i : Int) - 1 := by omega
    by_cases hbu : 2 ≤ u
    · obtain ⟨g', rfl⟩ : ∃ g', gk = g' + 1 := ⟨gk - 1, by omega⟩
      obtain ⟨r, hr⟩ : ∃ r, u % 2 = r := ⟨_, rfl⟩
      obtain ⟨Q, hQ⟩ : ∃ Q, u / 2 = Q := ⟨_, rfl⟩
      have hrb : r < 2 := by rw [← hr]; exact Nat.mod_lt u (by omega)
      have hQu : Q < u := by rw [← hQ]; exact Nat.div_lt_self (by omega) (by omega)
      have e1 : bits .and .u64 (u : Int) 1 = (r : Int) := by
        rw [u64_and (u : Int) 1 (by omega) (by omega) (by decide) (by decide), ← hr, Int.toNat_natCast]
        show ((u &&& 1 : Nat) : Int) = _
        rw [nat_mask1]
      have e2 : (u : Int) / 2 = (Q : Int) := by omega
      have hidx : ∀ W, (Instr.index 9 (.string D36) (.int .u64 (r : Int))).run Tryd.prog W = .ok (.int .u8 ((ch r).toNat : Int)) W := idx36 9 Tryd.underlying9 .u64 _ r rfl (by omega)
      have hN := Lib.hid (show txt 2 m = txt 2 Q ++ (ch r :: bs) by rw [ht.out, txt_big hb.1 hbu, hQ, hr, List.append_assoc]; rfl)
      clear ht hr hQ hlen
      generalize hc : (((ch r).toNat : Nat) : Int) = c at hidx
      have HC := Lib.hid hc
      clear hc
      go_wp2_with fail
      go_roundg g'
      case measure => omega
      case rel =>
        refine ⟨Q, i - 1, _, ch r :: bs, rfl, by congr 1; omega, Lib.hid (by have := hi.out; simp; omega), hN, Lib.hid (hA.out.set (i - 1) (by omega) _), ?_, Lib.hid (hB.out.setCell (by simp) _), by omega, by omega⟩
        refine Lib.hid ?_
        have := hF.out.cons (by have := hi.out; omega) (ch r)
        rw [← hi.out, HC.out] at this
        exact this
    · have hidx : ∀ W, (Instr.index 9 (.string D36) (.int .u64 (u : Int))).run Tryd.prog W = .ok (.int .u8 ((ch u).toNat : Int)) W := idx36 9 Tryd.underlying9 .u64 _ u rfl (by omega)
      have hN : txt 2 m = ch u :: bs := by rw [ht.out, txt_small (by omega)]; rfl
      have hF1 := hF.out.cons (by have := hi.out; omega) (ch u)
      rw [← hi.out] at hF1
      have hA1 := hA.out.set (i - 1) (by omega) ((ch u).toNat : Int)
      have hcv1 := back _ w.heap.size _ (ch u :: bs) hA1 hF1 (65 - (i - 1)) (65 - (i - 1)) (by have := hi.out; simp; omega)
      rw [show 65 - (ch u :: bs).length = i - 1 by have := hi.out; simp; omega, ← hN] at hcv1
      have hs := sl65 w.heap.size (i - 1) (by omega)
      rw [ei] at hs
      have HB := Lib.hid (hB.out.setCell (p := ⟨w.heap.size, i - 1, none⟩) (by simp) (.int .u8 ((ch u).toNat : Int)))
      clear hN hF1 hA1 hF hA ht hi hB hlen hul
      generalize hc : (((ch u).toNat : Nat) : Int) = c at *
      generalize hT : txt 2 m = T at *
      clear hc
      go_wp2_with fail
      go_ret2
      exact ⟨by rw [hT]; rfl, HB.out⟩
set_option maxHeartbeats 2000000 in
theorem bits_2N (m : Nat) (w : World) (hT : Tz w) (hm0 : 1 ≤ m) (hm : m ≤ 2147483648) :
    Calls Tryd.prog 14 #[.slice none 0 0, .int .u64 (18446744073709551616 - (m : Int)), .int .i64 2, .bool true, .bool false] w fun e w' => e = .returned (.tuple #[.slice none 0 0, .string ⟨(signed true (txt 2 m)).toArray⟩]) ∧ Below w.heap.size w w' := by
  have hb : 2 ≤ 2 ∧ 2 ≤ 36 := by decide
  have H : Hid (∀ w, Calls Tryd.prog 20 #[.int .i64 2] w fun e w' => e = .returned (.bool true) ∧ w = w') := Lib.hid fun w => isPow 2 (by decide) w
  have H2 := Lib.hid (tz_2 _ (tz_alloc hT Z65 46))
  clear hT
  have hz := zero46
  have e0 : IntKind.u64.wrap (-(18446744073709551616 - (m : Int))) = (m : Int) := by rw [IntKind.wrap_u64]; omega
  go_enter Tryd.func14, Tryd.ntmps14
  have eD : (⟨#[48, 49, 50, 51, 52, 53, 54, 55, 56, 57, 97, 98, 99, 100, 101, 102, 103, 104, 105, 106, 107, 108, 109, 110, 111, 112, 113, 114, 115, 116, 117, 118, 119, 120, 121, 122]⟩ : ByteArray) = D36 := by decide +kernel
  rw [eD]
  clear eD
  go_wp2_with fail
  refine (H.out _).mono ?_
  rintro e w' ⟨rfl, rfl⟩
  go_wp2_with fail
  refine H2.out.mono ?_
  rintro e w' ⟨rfl, rfl⟩
  go_wp2_with fail
  go_loopg [1, 13] m (fun g s1 s13 wr => ∃ (u : Nat) (i : Nat) (G : Nat → Int) (bs : List UInt8), s1 = .int .u64 (u : Int) ∧ s13 = .int .i64 (i : Int) ∧ Hid (i = 65 - bs.length) ∧ Hid (txt 2 m = txt 2 u ++ bs) ∧ Hid (Arr wr w.heap.size G) ∧ Hid (Fits G bs) ∧ Hid (Below w.heap.size w wr) ∧ u ≤ g ∧ u ≤ 2147483648)
  case atStart => exact ⟨m, 65, fun _ => 0, [], rfl, rfl, Lib.hid rfl, Lib.hid (by simp), Lib.hid (arr_new _ _), Lib.hid (Fits.nil _), Lib.hid ((Below.refl _ _).alloc (Nat.le_refl _) _), by omega, hm⟩
  case round =>
    obtain ⟨u, i, G, bs, rfl, rfl, hi, ht, hA, hF, hB, hug, hu⟩ := hrel
    have hlen : bs.length + (txt 2 u).length ≤ 32 := by
      have h1 := (txt_len 2 hb.1 m hm).2
      rw [ht.out, List.length_append] at h1
      omega
    have hul := (txt_len 2 hb.1 u hu).1
    have hie := hi.out
    have hi1 : 34 ≤ i ∧ i ≤ 65 := by omega
    clear hie
    have hci := hA.out.cell (i - 1) (by omega)
    have hfi := hA.out.free (i - 1) (by omega)
    have hlt := hA.out.lt
    have ei : ((i - 1 : Nat) : Int) = (i : Int) - 1 := by omega
    have ei2 : ((i - 2 : Nat) : Int) = (i : Int) - 2 := by omega
    have ei3 : (i : Int) - 1 - 1 = (i : Int) - 2 := by omega
    by_cases hbu : 2 ≤ u
    · obtain ⟨g', rfl⟩ : ∃ g', gk = g' + 1 := ⟨gk - 1, by omega⟩
      obtain ⟨r, hr⟩ : ∃ r, u % 2 = r := ⟨_, rfl⟩
      obtain ⟨Q, hQ⟩ : ∃ Q, u / 2 = Q := ⟨_, rfl⟩
      have hrb : r < 2 := by rw [← hr]; exact Nat.mod_lt u (by omega)
      have hQu : Q < u := by rw [← hQ]; exact Nat.div_lt_self (by omega) (by omega)
      have e1 : bits .and .u64 (u : Int) 1 = (r : Int) := by
        rw [u64_and (u : Int) 1 (by omega) (by omega) (by decide) (by decide), ← hr, Int.toNat_natCast]
        show ((u &&& 1 : Nat) : Int) = _
        rw [nat_mask1]
      have e2 : (u : Int) / 2 = (Q : Int) := by omega
      have hidx : ∀ W, (Instr.index 9 (.string D36) (.int .u64 (r : Int))).run Tryd.prog W = .ok (.int .u8 ((ch r).toNat : Int)) W := idx36 9 Tryd.underlying9 .u64 _ r rfl (by omega)
      have hN := Lib.hid (show txt 2 m = txt 2 Q ++ (ch r :: bs) by rw [ht.out, txt_big hb.1 hbu, hQ, hr, List.append_assoc]; rfl)
      clear ht hr hQ hlen
      generalize hc : (((ch r).toNat : Nat) : Int) = c at hidx
      have HC := Lib.hid hc
      clear hc
      go_wp2_with fail
      go_roundg g'
      case measure => omega
      case rel =>
        refine ⟨Q, i - 1, _, ch r :: bs, rfl, by congr 1; omega, Lib.hid (by have := hi.out; simp; omega), hN, Lib.hid (hA.out.set (i - 1) (by omega) _), ?_, Lib.hid (hB.out.setCell (by simp) _), by omega, by omega⟩
        refine Lib.hid ?_
        have := hF.out.cons (by have := hi.out; omega) (ch r)
        rw [← hi.out, HC.out] at this
        exact this
    · have hidx : ∀ W, (Instr.index 9 (.string D36) (.int .u64 (u : Int))).run Tryd.prog W = .ok (.int .u8 ((ch u).toNat : Int)) W := idx36 9 Tryd.underlying9 .u64 _ u rfl (by omega)
      have hN : txt 2 m = ch u :: bs := by rw [ht.out, txt_small (by omega)]; rfl
      have hF1 := hF.out.cons (by have := hi.out; omega) (ch u)
      rw [← hi.out] at hF1
      have hA1 := hA.out.set (i - 1) (by omega) ((ch u).toNat : Int)
      have hF2 := hF1.cons (by have := hi.out; simp; omega) 45
      rw [show 65 - (ch u :: bs).length - 1 = i - 2 by have := hi.out; simp; omega] at hF2
      have hA2 := hA1.set (i - 2) (by omega) ((45 : UInt8).toNat : Int)
      have hci2 := hA1.cell (i - 2) (by omega)
      have hfi2 := hA1.free (i - 2) (by omega)
      have hcv1 := back _ w.heap.size _ (45 :: ch u :: bs) hA2 hF2 (65 - (i - 2)) (65 - (i - 2)) (by have := hi.out; simp; omega)
      rw [show 65 - (45 :: ch u :: bs).length = i - 2 by have := hi.out; simp; omega, ← hN, show (((45 : UInt8).toNat : Nat) : Int) = 45 by decide] at hcv1
      have hs := sl65 w.heap.size (i - 2) (by omega)
      rw [ei2] at hs
      have HB := Lib.hid ((hB.out.setCell (p := ⟨w.heap.size, i - 1, none⟩) (by simp) (.int .u8 ((ch u).toNat : Int))).setCell (p := ⟨w.heap.size, i - 2, none⟩) (by simp) (.int .u8 45))
      clear hN hF1 hA1 hF2 hA2 hF hA ht hi hB hlen hul
      generalize hc : (((ch u).toNat : Nat) : Int) = c at *
      generalize hT : txt 2 m = T at *
      clear hc
      go_wp2_with fail
      go_ret2
      exact ⟨by rw [hT]; rfl, HB.out⟩
set_option maxHeartbeats 2000000 in
theorem bits_4 (m : Nat) (w : World) (hT : Tz w) (hm : m ≤ 2147483648) :
    Calls Tryd.prog 14 #[.slice none 0 0, .int .u64 (m : Int), .int .i64 4, .bool false, .bool false] w fun e w' => e = .returned (.tuple #[.slice none 0 0, .string ⟨(signed false (txt 4 m)).toArray⟩]) ∧ Below w.heap.size w w' := by
  have hb : 2 ≤ 4 ∧ 4 ≤ 36 := by decide
  have H : Hid (∀ w, Calls Tryd.prog 20 #[.int .i64 4] w fun e w' => e = .returned (.bool true) ∧ w = w') := Lib.hid fun w => isPow 4 (by decide) w
  have H2 := Lib.hid (tz_4 _ (tz_alloc hT Z65 46))
  clear hT
  have hz := zero46
  go_enter Tryd.func14, Tryd.ntmps14
  have eD : (⟨#[48, 49, 50, 51, 52, 53, 54, 55, 56, 57, 97, 98, 99, 100, 101, 102, 103, 104, 105, 106, 107, 108, 109, 110, 111, 112, 113, 114, 115, 116, 117, 118, 119, 120, 121, 122]⟩ : ByteArray) = D36 := by decide +kernel
  rw [eD]
  clear eD
  go_wp2_with fail
  refine (H.out _).mono ?_
  rintro e w' ⟨rfl, rfl⟩
  go_wp2_with fail
  refine H2.out.mono ?_
  rintro e w' ⟨rfl, rfl⟩
  go_wp2_with fail
  go_loopg [1, 13] m (fun g s1 s13 wr => ∃ (u : Nat) (i : Nat) (G : Nat → Int) (bs : List UInt8), s1 = .int .u64 (u : Int) ∧ s13 = .int .i64 (i : Int) ∧ Hid (i = 65 - bs.length) ∧ Hid (txt 4 m = txt 4 u ++ bs) ∧ Hid (Arr wr w.heap.size G) ∧ Hid (Fits G bs) ∧ Hid (Below w.heap.size w wr) ∧ u ≤ g ∧ u ≤ 2147483648)
  case atStart => exact ⟨m, 65, fun _ => 0, [], rfl, rfl, Lib.hid rfl, Lib.hid (by simp), Lib.hid (arr_new _ _), Lib.hid (Fits.nil _), Lib.hid ((Below.refl _ _).alloc (Nat.le_refl _) _), by omega, hm⟩
  case round =>
    obtain ⟨u, i, G, bs, rfl, rfl, hi, ht, hA, hF, hB, hug, hu⟩ := hrel
    have hlen : bs.length + (txt 4 u).length ≤ 32 := by
      have h1 := (txt_len 4 hb.1 m hm).2
      rw [ht.out, List.length_append] at h1
      omega
    have hul := (txt_len 4 hb.1 u hu).1
    have hie := hi.out
    have hi1 : 34 ≤ i ∧ i ≤ 65 := by omega
    clear hie
    have hci := hA.out.cell (i - 1) (by omega)
    have hfi := hA.out.free (i - 1) (by omega)
    have hlt := hA.out.lt
    have ei : ((i - 1 : Nat) : Int) = (i : Int) - 1 := by omega
    by_cases hbu : 4 ≤ u
    · obtain ⟨g', rfl⟩ : ∃ g', gk = g' + 1 := ⟨gk - 1, by omega⟩
      obtain ⟨r, hr⟩ : ∃ r, u % 4 = r := ⟨_, rfl⟩
      obtain ⟨Q, hQ⟩ : ∃ Q, u / 4 = Q := ⟨_, rfl⟩
      have hrb : r < 4 := by rw [← hr]; exact Nat.mod_lt u (by omega)
      have hQu : Q < u := by rw [← hQ]; exact Nat.div_lt_self (by omega) (by omega)
      have e1 : bits .and .u64 (u : Int) 3 = (r : Int) := by
        rw [u64_and (u : Int) 3 (by omega) (by omega) (by decide) (by decide), ← hr, Int.toNat_natCast]
        show ((u &&& 3 : Nat) : Int) = _
        rw [nat_mask2]
      have e2 : (u : Int) / 4 = (Q : Int) := by omega
      have hidx : ∀ W, (Instr.index 9 (.string D36) (.int .u64 (r : Int))).run Tryd.prog W = .ok (.int .u8 ((ch r).toNat : Int)) W := idx36 9 Tryd.underlying9 .u64 _ r rfl (by omega)
      have hN := Lib.hid (show txt 4 m = txt 4 Q ++ (ch r :: bs) by rw [ht.out, txt_big hb.1 hbu, hQ, hr, List.append_assoc]; rfl)
      clear ht hr hQ hlen
      generalize hc : (((ch r).toNat : Nat) : Int) = c at hidx
      have HC := Lib.hid hc
      clear hc
      go_wp2_with fail
      go_roundg g'
      case measure => omega
      case rel =>
        refine ⟨Q, i - 1, _, ch r :: bs, rfl, by congr 1; omega, Lib.hid (by have := hi.out; simp; omega), hN, Lib.hid (hA.out.set (i - 1) (by omega) _), ?_, Lib.hid (hB.out.setCell (by simp) _), by omega, by omega⟩
        refine Lib.hid ?_
        have := hF.out.cons (by have := hi.out; omega) (ch r)
        rw [← hi.out, HC.out] at this
        exact this
    · have hidx : ∀ W, (Instr.index 9 (.string D36) (.int .u64 (u : Int))).run Tryd.prog W = .ok (.int .u8 ((ch u).toNat : Int)) W := idx36 9 Tryd.underlying9 .u64 _ u rfl (by omega)
      have hN : txt 4 m = ch u :: bs := by rw [ht.out, txt_small (by omega)]; rfl
      have hF1 := hF.out.cons (by have := hi.out; omega) (ch u)
      rw [← hi.out] at hF1
      have hA1 := hA.out.set (i - 1) (by omega) ((ch u).toNat : Int)
      have hcv1 := back _ w.heap.size _ (ch u :: bs) hA1 hF1 (65 - (i - 1)) (65 - (i - 1)) (by have := hi.out; simp; omega)
      rw [show 65 - (ch u :: bs).length = i - 1 by have := hi.out; simp; omega, ← hN] at hcv1
      have hs := sl65 w.heap.size (i - 1) (by omega)
      rw [ei] at hs
      have HB := Lib.hid (hB.out.setCell (p := ⟨w.heap.size, i - 1, none⟩) (by simp) (.int .u8 ((ch u).toNat : Int)))
      clear hN hF1 hA1 hF hA ht hi hB hlen hul
      generalize hc : (((ch u).toNat : Nat) : Int) = c at *
      generalize hT : txt 4 m = T at *
      clear hc
      go_wp2_with fail
      go_ret2
      exact ⟨by rw [hT]; rfl, HB.out⟩
set_option maxHeartbeats 2000000 in
theorem bits_4N (m : Nat) (w : World) (hT : Tz w) (hm0 : 1 ≤ m) (hm : m ≤ 2147483648) :
    Calls Tryd.prog 14 #[.slice none 0 0, .int .u64 (18446744073709551616 - (m : Int)), .int .i64 4, .bool true, .bool false] w fun e w' => e = .returned (.tuple #[.slice none 0 0, .string ⟨(signed true (txt 4 m)).toArray⟩]) ∧ Below w.heap.size w w' := by
  have hb : 2 ≤ 4 ∧ 4 ≤ 36 := by decide
  have H : Hid (∀ w, Calls Tryd.prog 20 #[.int .i64 4] w fun e w' => e = .returned (.bool true) ∧ w = w') := Lib.hid fun w => isPow 4 (by decide) w
  have H2 := Lib.hid (tz_4 _ (tz_alloc hT Z65 46))
  clear hT
  have hz := zero46
  have e0 : IntKind.u64.wrap (-(18446744073709551616 - (m : Int))) = (m : Int) := by rw [IntKind.wrap_u64]; omega
  go_enter Tryd.func14, Tryd.ntmps14
  have eD : (⟨#[48, 49, 50, 51, 52, 53, 54, 55, 56, 57, 97, 98, 99, 100, 101, 102, 103, 104, 105, 106, 107, 108, 109, 110, 111, 112, 113, 114, 115, 116, 117, 118, 119, 120, 121, 122]⟩ : ByteArray) = D36 := by decide +kernel
  rw [eD]
  clear eD
  go_wp2_with fail
  refine (H.out _).mono ?_
  rintro e w' ⟨rfl, rfl⟩
  go_wp2_with fail
  refine H2.out.mono ?_
  rintro e w' ⟨rfl, rfl⟩
  go_wp2_with fail
  go_loopg [1, 13] m (fun g s1 s13 wr => ∃ (u : Nat) (i : Nat) (G : Nat → Int) (bs : List UInt8), s1 = .int .u64 (u : Int) ∧ s13 = .int .i64 (i : Int) ∧ Hid (i = 65 - bs.length) ∧ Hid (txt 4 m = txt 4 u ++ bs) ∧ Hid (Arr wr w.heap.size G) ∧ Hid (Fits G bs) ∧ Hid (Below w.heap.size w wr) ∧ u ≤ g ∧ u ≤ 2147483648)
  case atStart => exact ⟨m, 65, fun _ => 0, [], rfl, rfl, Lib.hid rfl, Lib.hid (by simp), Lib.hid (arr_new _ _), Lib.hid (Fits.nil _), Lib.hid ((Below.refl _ _).alloc (Nat.le_refl _) _), by omega, hm⟩
  case round =>
    obtain ⟨u, i, G, bs, rfl, rfl, hi, ht, hA, hF, hB, hug, hu⟩ := hrel
    have hlen : bs.length + (txt 4 u).length ≤ 32 := by
      have h1 := (txt_len 4 hb.1 m hm).2
      rw [ht.out, List.length_append] at h1
      omega
    have hul := (txt_len 4 hb.1 u hu).1
    have hie := hi.out
    have hi1 : 34 ≤ i ∧ i ≤ 65 := by omega
    clear hie
    have hci := hA.out.cell (i - 1) (by omega)
    have hfi := hA.out.free (i - 1) (by omega)
    have hlt := hA.out.lt
    have ei : ((i - 1 : Nat) : Int) = (i : Int) - 1 := by omega
    have ei2 : ((i - 2 : Nat) : Int) = (i : Int) - 2 := by omega
    have ei3 : (i : Int) - 1 - 1 = (i : Int) - 2 := by omega
    by_cases hbu : 4 ≤ u
    · obtain ⟨g', rfl⟩ : ∃ g', gk = g' + 1 := ⟨gk - 1, by omega⟩
      obtain ⟨r, hr⟩ : ∃ r, u % 4 = r := ⟨_, rfl⟩
      obtain ⟨Q, hQ⟩ : ∃ Q, u / 4 = Q := ⟨_, rfl⟩
      have hrb : r < 4 := by rw [← hr]; exact Nat.mod_lt u (by omega)
      have hQu : Q < u := by rw [← hQ]; exact Nat.div_lt_self (by omega) (by omega)
      have e1 : bits .and .u64 (u : Int) 3 = (r : Int) := by
        rw [u64_and (u : Int) 3 (by omega) (by omega) (by decide) (by decide), ← hr, Int.toNat_natCast]
        show ((u &&& 3 : Nat) : Int) = _
        rw [nat_mask2]
      have e2 : (u : Int) / 4 = (Q : Int) := by omega
      have hidx : ∀ W, (Instr.index 9 (.string D36) (.int .u64 (r : Int))).run Tryd.prog W = .ok (.int .u8 ((ch r).toNat : Int)) W := idx36 9 Tryd.underlying9 .u64 _ r rfl (by omega)
      have hN := Lib.hid (show txt 4 m = txt 4 Q ++ (ch r :: bs) by rw [ht.out, txt_big hb.1 hbu, hQ, hr, List.append_assoc]; rfl)
      clear ht hr hQ hlen
      generalize hc : (((ch r).toNat : Nat) : Int) = c at hidx
      have HC := Lib.hid hc
      clear hc
      go_wp2_with fail
      go_roundg g'
      case measure => omega
      case rel =>
        refine ⟨Q, i - 1, _, ch r :: bs, rfl, by congr 1; omega, Lib.hid (by have := hi.out; simp; omega), hN, Lib.hid (hA.out.set (i - 1) (by omega) _), ?_, Lib.hid (hB.out.setCell (by simp) _), by omega, by omega⟩
        refine Lib.hid ?_
        have := hF.out.cons (by have := hi.out; omega) (ch r)
        rw [← hi.out, HC.out] at this
        exact this
    · have hidx : ∀ W, (Instr.index 9 (.string D36) (.int .u64 (u : Int))).run Tryd.prog W = .ok (.int .u8 ((ch u).toNat : Int)) W := idx36 9 Tryd.underlying9 .u64 _ u rfl (by omega)
      have hN : txt 4 m = ch u :: bs := by rw [ht.out, txt_small (by omega)]; rfl
      have hF1 := hF.out.cons (by have := hi.out; omega) (ch u)
      rw [← hi.out] at hF1
      have hA1 := hA.out.set (i - 1) (by omega) ((ch u).toNat : Int)
      have hF2 := hF1.cons (by have := hi.out; simp; omega) 45
      rw [show 65 - (ch u :: bs).length - 1 = i - 2 by have := hi.out; simp; omega] at hF2
      have hA2 := hA1.set (i - 2) (by omega) ((45 : UInt8).toNat : Int)
      have hci2 := hA1.cell (i - 2) (by omega)
      have hfi2 := hA1.free (i - 2) (by omega)
      have hcv1 := back _ w.heap.size _ (45 :: ch u :: bs) hA2 hF2 (65 - (i - 2)) (65 - (i - 2)) (by have := hi.out; simp; omega)
      rw [show 65 - (45 :: ch u :: bs).length = i - 2 by have := hi.out; simp; omega, ← hN, show (((45 : UInt8).toNat : Nat) : Int) = 45 by decide] at hcv1
      have hs := sl65 w.heap.size (i - 2) (by omega)
      rw [ei2] at hs
      have HB := Lib.hid ((hB.out.setCell (p := ⟨w.heap.size, i - 1, none⟩) (by simp) (.int .u8 ((ch u).toNat : Int))).setCell (p := ⟨w.heap.size, i - 2, none⟩) (by simp) (.int .u8 45))
      clear hN hF1 hA1 hF2 hA2 hF hA ht hi hB hlen hul
      generalize hc : (((ch u).toNat : Nat) : Int) = c at *
      generalize hT : txt 4 m = T at *
      clear hc
      go_wp2_with fail
      go_ret2
      exact ⟨by rw [hT]; rfl, HB.out⟩
set_option maxHeartbeats 2000000 in
theorem bits_8 (m : Nat) (w : World) (hT : Tz w) (hm : m ≤ 2147483648) :
    Calls Tryd.prog 14 #[.slice none 0 0, .int .u64 (m : Int), .int .i64 8, .bool false, .bool false] w fun e w' => e = .returned (.tuple #[.slice none 0 0, .string ⟨(signed false (txt 8 m)).toArray⟩]) ∧ Below w.heap.size w w' := by
  have hb : 2 ≤ 8 ∧ 8 ≤ 36 := by decide
  have H : Hid (∀ w, Calls Tryd.prog 20 #[.int .i64 8] w fun e w' => e = .returned (.bool true) ∧ w = w') := Lib.hid fun w => isPow 8 (by decide) w
  have H2 := Lib.hid (tz_8 _ (tz_alloc hT Z65 46))
  clear hT
  have hz := zero46
  go_enter Tryd.func14, Tryd.ntmps14
  have eD : (⟨#[48, 49, 50, 51, 52, 53, 54, 55, 56, 57, 97, 98, 99, 100, 101, 102, 103, 104, 105, 106, 107, 108, 109, 110, 111, 112, 113, 114, 115, 116, 117, 118, 119, 120, 121, 122]⟩ : ByteArray) = D36 := by decide +kernel
  rw [eD]
  clear eD
  go_wp2_with fail
  refine (H.out _).mono ?_
  rintro e w' ⟨rfl, rfl⟩
  go_wp2_with fail
  refine H2.out.mono ?_
  rintro e w' ⟨rfl, rfl⟩
  go_wp2_with fail
  go_loopg [1, 13] m (fun g s1 s13 wr => ∃ (u : Nat) (i : Nat) (G : Nat → Int) (bs : List UInt8), s1 = .int .u64 (u : Int) ∧ s13 = .int .i64 (i : Int) ∧ Hid (i = 65 - bs.length) ∧ Hid (txt 8 m = txt 8 u ++ bs) ∧ Hid (Arr wr w.heap.size G) ∧ Hid (Fits G bs) ∧ Hid (Below w.heap.size w wr) ∧ u ≤ g ∧ u ≤ 2147483648)
  case atStart => exact ⟨m, 65, fun _ => 0, [], rfl, rfl, Lib.hid rfl, Lib.hid (by simp), Lib.hid (arr_new _ _), Lib.hid (Fits.nil _), Lib.hid ((Below.refl _ _).alloc (Nat.le_refl _) _), by omega, hm⟩
  case round =>
    obtain ⟨u, i, G, bs, rfl, rfl, hi, ht, hA, hF, hB, hug, hu⟩ := hrel
    have hlen : bs.length + (txt 8 u).length ≤ 32 := by
      have h1 := (txt_len 8 hb.1 m hm).2
      rw [ht.out, List.length_append] at h1
      omega
    have hul := (txt_len 8 hb.1 u hu).1
    have hie := hi.out
    have hi1 : 34 ≤ i ∧ i ≤ 65 := by omega
    clear hie
    have hci := hA.out.cell (i - 1) (by omega)
    have hfi := hA.out.free (i - 1) (by omega)
    have hlt := hA.out.lt
    have ei : ((i - 1 : Nat) : Int) = (i : Int) - 1 := by omega
    by_cases hbu : 8 ≤ u
    · obtain ⟨g', rfl⟩ : ∃ g', gk = g' + 1 := ⟨gk - 1, by omega⟩
      obtain ⟨r, hr⟩ : ∃ r, u % 8 = r := ⟨_, rfl⟩
      obtain ⟨Q, hQ⟩ : ∃ Q, u / 8 = Q := ⟨_, rfl⟩
      have hrb : r < 8 := by rw [← hr]; exact Nat.mod_lt u (by omega)
      have hQu : Q < u := by rw [← hQ]; exact Nat.div_lt_self (by omega) (by omega)
      have e1 : bits .and .u64 (u : Int) 7 = (r : Int) := by
        rw [u64_and (u : Int) 7 (by omega) (by omega) (by decide) (by decide), ← hr, Int.toNat_natCast]
        show ((u &&& 7 : Nat) : Int) = _
        rw [nat_mask3]
      have e2 : (u : Int) / 8 = (Q : Int) := by omega
      have hidx : ∀ W, (Instr.index 9 (.string D36) (.int .u64 (r : Int))).run Tryd.prog W = .ok (.int .u8 ((ch r).toNat : Int)) W := idx36 9 Tryd.underlying9 .u64 _ r rfl (by omega)
      have hN := Lib.hid (show txt 8 m = txt 8 Q ++ (ch r :: bs) by rw [ht.out, txt_big hb.1 hbu, hQ, hr, List.append_assoc]; rfl)
      clear ht hr hQ hlen
      generalize hc : (((ch r).toNat : Nat) : Int) = c at hidx
      have HC := Lib.hid hc
      clear hc
      go_wp2_with fail
      go_roundg g'
      case measure => omega
      case rel =>
        refine ⟨Q, i - 1, _, ch r :: bs, rfl, by congr 1; omega, Lib.hid (by have := hi.out; simp; omega), hN, Lib.hid (hA.out.set (i - 1) (by omega) _), ?_, Lib.hid (hB.out.setCell (by simp) _), by omega, by omega⟩
        refine Lib.hid ?_
        have := hF.out.cons (by have := hi.out; omega) (ch r)
        rw [← hi.out, HC.out] at this
        exact this
    · have hidx : ∀ W, (Instr.index 9 (.string D36) (.int .u64 (u : Int))).run Tryd.prog W = .ok (.int .u8 ((ch u).toNat : Int)) W := idx36 9 Tryd.underlying9 .u64 _ u rfl (by omega)
      have hN : txt 8 m = ch u :: bs := by rw [ht.out, txt_small (by omega)]; rfl
      have hF1 := hF.out.cons (by have := hi.out; omega) (ch u)
      rw [← hi.out] at hF1
      have hA1 := hA.out.set (i - 1) (by omega) ((ch u).toNat : Int)
      have hcv1 := back _ w.heap.size _ (ch u :: bs) hA1 hF1 (65 - (i - 1)) (65 - (i - 1)) (by have := hi.out; simp; omega)
      rw [show 65 - (ch u :: bs).length = i - 1 by have := hi.out; simp; omega, ← hN] at hcv1
      have hs := sl65 w.heap.size (i - 1) (by omega)
      rw [ei] at hs
      have HB := Lib.hid (hB.out.setCell (p := ⟨w.heap.size, i - 1, none⟩) (by simp) (.int .u8 ((ch u).toNat : Int)))
      clear hN hF1 hA1 hF hA ht hi hB hlen hul
      generalize hc : (((ch u).toNat : Nat) : Int) = c at *
      generalize hT : txt 8 m = T at *
      clear hc
      go_wp2_with fail
      go_ret2
      exact ⟨by rw [hT]; rfl, HB.out⟩
set_option maxHeartbeats 2000000 in
theorem bits_8N (m : Nat) (w : World) (hT : Tz w) (hm0 : 1 ≤ m) (hm : m ≤ 2147483648) :
    Calls Tryd.prog 14 #[.slice none 0 0, .int .u64 (18446744073709551616 - (m : Int)), .int .i64 8, .bool true, .bool false] w fun e w' => e = .returned (.tuple #[.slice none 0 0, .string ⟨(signed true (txt 8 m)).toArray⟩]) ∧ Below w.heap.size w w' := by
  have hb : 2 ≤ 8 ∧ 8 ≤ 36 := by decide
  have H : Hid (∀ w, Calls Tryd.prog 20 #[.int .i64 8] w fun e w' => e = .returned (.bool true) ∧ w = w') := Lib.hid fun w => isPow 8 (by decide) w
  have H2 := Lib.hid (tz_8 _ (tz_alloc hT Z65 46))
  clear hT
  have hz := zero46
  have e0 : IntKind.u64.wrap (-(18446744073709551616 - (m : Int))) = (m : Int) := by rw [IntKind.wrap_u64]; omega
  go_enter Tryd.func14, Tryd.ntmps14
  have eD : (⟨#[48, 49, 50, 51, 52, 53, 54, 55, 56, 57, 97, 98, 99, 100, 101, 102, 103, 104, 105, 106, 107, 108, 109, 110, 111, 112, 113, 114, 115, 116, 117, 118, 119, 120, 121, 122]⟩ : ByteArray) = D36 := by decide +kernel
  rw [eD]
  clear eD
  go_wp2_with fail
  refine (H.out _).mono ?_
  rintro e w' ⟨rfl, rfl⟩
  go_wp2_with fail
  refine H2.out.mono ?_
  rintro e w' ⟨rfl, rfl⟩
  go_wp2_with fail
  go_loopg [1, 13] m (fun g s1 s13 wr => ∃ (u : Nat) (i : Nat) (G : Nat → Int) (bs : List UInt8), s1 = .int .u64 (u : Int) ∧ s13 = .int .i64 (i : Int) ∧ Hid (i = 65 - bs.length) ∧ Hid (txt 8 m = txt 8 u ++ bs) ∧ Hid (Arr wr w.heap.size G) ∧ Hid (Fits G bs) ∧ Hid (Below w.heap.size w wr) ∧ u ≤ g ∧ u ≤ 2147483648)
  case atStart => exact ⟨m, 65, fun _ => 0, [], rfl, rfl, Lib.hid rfl, Lib.hid (by simp), Lib.hid (arr_new _ _), Lib.hid (Fits.nil _), Lib.hid ((Below.refl _ _).alloc (Nat.le_refl _) _), by omega, hm⟩
  case round =>
    obtain ⟨u, i, G, bs, rfl, rfl, hi, ht, hA, hF, hB, hug, hu⟩ := hrel
    have hlen : bs.length + (txt 8 u).length ≤ 32 := by
      have h1 := (txt_len 8 hb.1 m hm).2
      rw [ht.out, List.length_append] at h1
      omega
    have hul := (txt_len 8 hb.1 u hu).1
    have hie := hi.out
    have hi1 : 34 ≤ i ∧ i ≤ 65 := by omega
    clear hie
    have hci := hA.out.cell (i - 1) (by omega)
    have hfi := hA.out.free (i - 1) (by omega)
    have hlt := hA.out.lt
    have ei : ((i - 1 : Nat) : Int) = (i : Int) - 1 := by omega
    have ei2 : ((i - 2 : Nat) : Int) = (i : Int) - 2 := by omega
    have ei3 : (i : Int) - 1 - 1 = (i : Int) - 2 := by omega
    by_cases hbu : 8 ≤ u
    · obtain ⟨g', rfl⟩ : ∃ g', gk = g' + 1 := ⟨gk - 1, by omega⟩
      obtain ⟨r, hr⟩ : ∃ r, u % 8 = r := ⟨_, rfl⟩
      obtain ⟨Q, hQ⟩ : ∃ Q, u / 8 = Q := ⟨_, rfl⟩
      have hrb : r < 8 := by rw [← hr]; exact Nat.mod_lt u (by omega)
      have hQu : Q < u := by rw [← hQ]; exact Nat.div_lt_self (by omega) (by omega)
      have e1 : bits .and .u64 (u : Int) 7 = (r : Int) := by
        rw [u64_and (u : Int) 7 (by omega) (by omega) (by decide) (by decide), ← hr, Int.toNat_natCast]
        show ((u &&& 7 : Nat) : Int) = _
        rw [nat_mask3]
      have e2 : (u : Int) / 8 = (Q : Int) := by omega
      have hidx : ∀ W, (Instr.index 9 (.string D36) (.int .u64 (r : Int))).run Tryd.prog W = .ok (.int .u8 ((ch r).toNat : Int)) W := idx36 9 Tryd.underlying9 .u64 _ r rfl (by omega)
      have hN := Lib.hid (show txt 8 m = txt 8 Q ++ (ch r :: bs) by rw [ht.out, txt_big hb.1 hbu, hQ, hr, List.append_assoc]; rfl)
      clear ht hr hQ hlen
      generalize hc : (((ch r).toNat : Nat) : Int) = c at hidx
      have HC := Lib.hid hc
      clear hc
      go_wp2_with fail
      go_roundg g'
      case measure => omega
      case rel =>
        refine ⟨Q, i - 1, _, ch r :: bs, rfl, by congr 1; omega, Lib.hid (by have := hi.out; simp; omega), hN, Lib.hid (hA.out.set (i - 1) (by omega) _), ?_, Lib.hid (hB.out.setCell (by simp) _), by omega, by omega⟩
        refine Lib.hid ?_
        have := hF.out.cons (by have := hi.out; omega) (ch r)
        rw [← hi.out, HC.out] at this
        exact this
    · have hidx : ∀ W, (Instr.index 9 (.string D36) (.int .u64 (u : Int))).run Tryd.prog W = .ok (.int .u8 ((ch u).toNat : Int)) W := idx36 9 Tryd.underlying9 .u64 _ u rfl (by omega)
      have hN : txt 8 m = ch u :: bs := by rw [ht.out, txt_small (by omega)]; rfl
      have hF1 := hF.out.cons (by have := hi.out; omega) (ch u)
      rw [← hi.out] at hF1
      have hA1 := hA.out.set (i - 1) (by omega) ((ch u).toNat : Int)
      have hF2 := hF1.cons (by have := hi.out; simp; omega) 45
      rw [show 65 - (ch u :: bs).length - 1 = i - 2 by have := hi.out; simp; omega] at hF2
      have hA2 := hA1.set (i - 2) (by omega) ((45 : UInt8).toNat : Int)
      have hci2 := hA1.cell (i - 2) (by omega)
      have hfi2 := hA1.free (i - 2) (by omega)
      have hcv1 := back _ w.heap.size _ (45 :: ch u :: bs) hA2 hF2 (65 - (i - 2)) (65 - (i - 2)) (by have := hi.out; simp; omega)
      rw [show 65 - (45 :: ch u :: bs).length = i - 2 by have := hi.out; simp; omega, ← hN, show (((45 : UInt8).toNat : Nat) : Int) = 45 by decide] at hcv1
      have hs := sl65 w.heap.size (i - 2) (by omega)
      rw [ei2] at hs
      have HB := Lib.hid ((hB.out.setCell (p := ⟨w.heap.size, i - 1, none⟩) (by simp) (.int .u8 ((ch u).toNat : Int))).setCell (p := ⟨w.heap.size, i - 2, none⟩) (by simp) (.int .u8 45))
      clear hN hF1 hA1 hF2 hA2 hF hA ht hi hB hlen hul
      generalize hc : (((ch u).toNat : Nat) : Int) = c at *
      generalize hT : txt 8 m = T at *
      clear hc
      go_wp2_with fail
      go_ret2
      exact ⟨by rw [hT]; rfl, HB.out⟩
set_option maxHeartbeats 2000000 in
theorem bits_16 (m : Nat) (w : World) (hT : Tz w) (hm : m ≤ 2147483648) :
    Calls Tryd.prog 14 #[.slice none 0 0, .int .u64 (m : Int), .int .i64 16, .bool false, .bool false] w fun e w' => e = .returned (.tuple #[.slice none 0 0, .string ⟨(signed false (txt 16 m)).toArray⟩]) ∧ Below w.heap.size w w' := by
  have hb : 2 ≤ 16 ∧ 16 ≤ 36 := by decide
  have H : Hid (∀ w, Calls Tryd.prog 20 #[.int .i64 16] w fun e w' => e = .returned (.bool true) ∧ w = w') := Lib.hid fun w => isPow 16 (by decide) w
  have H2 := Lib.hid (tz_16 _ (tz_alloc hT Z65 46))
  clear hT
  have hz := zero46
  go_enter Tryd.func14, Tryd.ntmps14
  have eD : (⟨#[48, 49, 50, 51, 52, 53, 54, 55, 56, 57, 97, 98, 99, 100, 101, 102, 103, 104, 105, 106, 107, 108, 109, 110, 111, 112, 113, 114, 115, 116, 117, 118, 119, 120, 121, 122]⟩ : ByteArray) = D36 := by decide +kernel
  rw [eD]
  clear eD
  go_wp2_with fail
  refine (H.out _).mono ?_
  rintro e w' ⟨rfl, rfl⟩
  go_wp2_with fail
  refine H2.out.mono ?_
  rintro e w' ⟨rfl, rfl⟩
  go_wp2_with fail
  go_loopg [1, 13] m (fun g s1 s13 wr => ∃ (u : Nat) (i : Nat) (G : Nat → Int) (bs : List UInt8), s1 = .int .u64 (u : Int) ∧ s13 = .int .i64 (i : Int) ∧ Hid (i = 65 - bs.length) ∧ Hid (txt 16 m = txt 16 u ++ bs) ∧ Hid (Arr wr w.heap.size G) ∧ Hid (Fits G bs) ∧ Hid (Below w.heap.size w wr) ∧ u ≤ g ∧ u ≤ 2147483648)
  case atStart => exact ⟨m, 65, fun _ => 0, [], rfl, rfl, Lib.hid rfl, Lib.hid (by simp), Lib.hid (arr_new _ _), Lib.hid (Fits.nil _), Lib.hid ((Below.refl _ _).alloc (Nat.le_refl _) _), by omega, hm⟩
  case round =>
    obtain ⟨u, i, G, bs, rfl, rfl, hi, ht, hA, hF, hB, hug, hu⟩ := hrel
    have hlen : bs.length + (txt 16 u).length ≤ 32 := by
      have h1 := (txt_len 16 hb.1 m hm).2
      rw [ht.out, List.length_append] at h1
      omega
    have hul := (txt_len 16 hb.1 u hu).1
    have hie := hi.out
    have hi1 : 34 ≤ i ∧ i ≤ 65 := by omega
    clear hie
    have hci := hA.out.cell (i - 1) (by omega)
    have hfi := hA.out.free (i - 1) (by omega)
    have hlt := hA.out.lt
    have ei : ((i - 1 : Nat) : Int) = (i : Int) - 1 := by omega
    by_cases hbu : 16 ≤ u
    · obtain ⟨g', rfl⟩ : ∃ g', gk = g' + 1 := ⟨gk - 1, by omega⟩
      obtain ⟨r, hr⟩ : ∃ r, u % 16 = r := ⟨_, rfl⟩
      obtain ⟨Q, hQ⟩ : ∃ Q, u / 16 = Q := ⟨_, rfl⟩
      have hrb : r < 16 := by rw [← hr]; exact Nat.mod_lt u (by omega)
      have hQu : Q < u := by rw [← hQ]; exact Nat.div_lt_self (by omega) (by omega)
      have e1 : bits .and .u64 (u : Int) 15 = (r : Int) := by
        rw [u64_and (u : Int) 15 (by omega) (by omega) (by decide) (by decide), ← hr, Int.toNat_natCast]
        show ((u &&& 15 : Nat) : Int) = _
        rw [nat_mask4]
      have e2 : (u : Int) / 16 = (Q : Int) := by omega
      have hidx : ∀ W, (Instr.index 9 (.string D36) (.int .u64 (r : Int))).run Tryd.prog W = .ok (.int .u8 ((ch r).toNat : Int)) W := idx36 9 Tryd.underlying9 .u64 _ r rfl (by omega)
      have hN := Lib.hid (show txt 16 m = txt 16 Q ++ (ch r :: bs) by rw [ht.out, txt_big hb.1 hbu, hQ, hr, List.append_assoc]; rfl)
      clear ht hr hQ hlen
      generalize hc : (((ch r).toNat : Nat) : Int) = c at hidx
      have HC := Lib.hid hc
      clear hc
      go_wp2_with fail
      go_roundg g'
      case measure => omega
      case rel =>
        refine ⟨Q, i - 1, _, ch r :: bs, rfl, by congr 1; omega, Lib.hid (by have := hi.out; simp; omega), hN, Lib.hid (hA.out.set (i - 1) (by omega) _), ?_, Lib.hid (hB.out.setCell (by simp) _), by omega, by omega⟩
        refine Lib.hid ?_
        have := hF.out.cons (by have := hi.out; omega) (ch r)
        rw [← hi.out, HC.out] at this
        exact this
    · have hidx : ∀ W, (Instr.index 9 (.string D36) (.int .u64 (u : Int))).run Tryd.prog W = .ok (.int .u8 ((ch u).toNat : Int)) W := idx36 9 Tryd.underlying9 .u64 _ u rfl (by omega)
      have hN : txt 16 m = ch u :: bs := by rw [ht.out, txt_small (by omega)]; rfl
      have hF1 := hF.out.cons (by have := hi.out; omega) (ch u)
      rw [← hi.out] at hF1
      have hA1 := hA.out.set (i - 1) (by omega) ((ch u).toNat : Int)
      have hcv1 := back _ w.heap.size _ (ch u :: bs) hA1 hF1 (65 - (i - 1)) (65 - (i - 1)) (by have := hi.out; simp; omega)
      rw [show 65 - (ch u :: bs).length = i - 1 by have := hi.out; simp; omega, ← hN] at hcv1
      have hs := sl65 w.heap.size (i - 1) (by omega)
      rw [ei] at hs
      have HB := Lib.hid (hB.out.setCell (p := ⟨w.heap.size, i - 1, none⟩) (by simp) (.int .u8 ((ch u).toNat : Int)))
      clear hN hF1 hA1 hF hA ht hi hB hlen hul
      generalize hc : (((ch u).toNat : Nat) : Int) = c at *
      generalize hT : txt 16 m = T at *
      clear hc
      go_wp2_with fail
      go_ret2
      exact ⟨by rw [hT]; rfl, HB.out⟩
set_option maxHeartbeats 2000000 in
theorem bits_16N (m : Nat) (w : World) (hT : Tz w) (hm0 : 1 ≤ m) (hm : m ≤ 2147483648) :
    Calls Tryd.prog 14 #[.slice none 0 0, .int .u64 (18446744073709551616 - (m : Int)), .int .i64 16, .bool true, .bool false] w fun e w' => e = .returned (.tuple #[.slice none 0 0, .string ⟨(signed true (txt 16 m)).toArray⟩]) ∧ Below w.heap.size w w' := by
  have hb : 2 ≤ 16 ∧ 16 ≤ 36 := by decide
  have H : Hid (∀ w, Calls Tryd.prog 20 #[.int .i64 16] w fun e w' => e = .returned (.bool true) ∧ w = w') := Lib.hid fun w => isPow 16 (by decide) w
  have H2 := Lib.hid (tz_16 _ (tz_alloc hT Z65 46))
  clear hT
  have hz := zero46
  have e0 : IntKind.u64.wrap (-(18446744073709551616 - (m : Int))) = (m : Int) := by rw [IntKind.wrap_u64]; omega
  go_enter Tryd.func14, Tryd.ntmps14
  have eD : (⟨#[48, 49, 50, 51, 52, 53, 54, 55, 56, 57, 97, 98, 99, 100, 101, 102, 103, 104, 105, 106, 107, 108, 109, 110, 111, 112, 113, 114, 115, 116, 117, 118, 119, 120, 121, 122]⟩ : ByteArray) = D36 := by decide +kernel
  rw [eD]
  clear eD
  go_wp2_with fail
  refine (H.out _).mono ?_
  rintro e w' ⟨rfl, rfl⟩
  go_wp2_with fail
  refine H2.out.mono ?_
  rintro e w' ⟨rfl, rfl⟩
  go_wp2_with fail
  go_loopg [1, 13] m (fun g s1 s13 wr => ∃ (u : Nat) (i : Nat) (G : Nat → Int) (bs : List UInt8), s1 = .int .u64 (u : Int) ∧ s13 = .int .i64 (i : Int) ∧ Hid (i = 65 - bs.length) ∧ Hid (txt 16 m = txt 16 u ++ bs) ∧ Hid (Arr wr w.heap.size G) ∧ Hid (Fits G bs) ∧ Hid (Below w.heap.size w wr) ∧ u ≤ g ∧ u ≤ 2147483648)
  case atStart => exact ⟨m, 65, fun _ => 0, [], rfl, rfl, Lib.hid rfl, Lib.hid (by simp), Lib.hid (arr_new _ _), Lib.hid (Fits.nil _), Lib.hid ((Below.refl _ _).alloc (Nat.le_refl _) _), by omega, hm⟩
  case round =>
    obtain ⟨u, i, G, bs, rfl, rfl, hi, ht, hA, hF, hB, hug, hu⟩ := hrel
    have hlen : bs.length + (txt 16 u).length ≤ 32 := by
      have h1 := (txt_len 16 hb.1 m hm).2
      rw [ht.out, List.length_append] at h1
      omega
    have hul := (txt_len 16 hb.1 u hu).1
    have hie := hi.out
    have hi1 : 34 ≤ i ∧ i ≤ 65 := by omega
    clear hie
    have hci := hA.out.cell (i - 1) (by omega)
    have hfi := hA.out.free (i - 1) (by omega)
    have hlt := hA.out.lt
    have ei : ((i - 1 : Nat) : Int) = (i : Int) - 1 := by omega
    have ei2 : ((i - 2 : Nat) : Int) = (i : Int) - 2 := by omega
    have ei3 : (i : Int) - 1 - 1 = (i : Int) - 2 := by omega
    by_cases hbu : 16 ≤ u
    · obtain ⟨g', rfl⟩ : ∃ g', gk = g' + 1 := ⟨gk - 1, by omega⟩
      obtain ⟨r, hr⟩ : ∃ r, u % 16 = r := ⟨_, rfl⟩
      obtain ⟨Q, hQ⟩ : ∃ Q, u / 16 = Q := ⟨_, rfl⟩
      have hrb : r < 16 := by rw [← hr]; exact Nat.mod_lt u (by omega)
      have hQu : Q < u := by rw [← hQ]; exact Nat.div_lt_self (by omega) (by omega)
      have e1 : bits .and .u64 (u : Int) 15 = (r : Int) := by
        rw [u64_and (u : Int) 15 (by omega) (by omega) (by decide) (by decide), ← hr, Int.toNat_natCast]
        show ((u &&& 15 : Nat) : Int) = _
        rw [nat_mask4]
      have e2 : (u : Int) / 16 = (Q : Int) := by omega
      have hidx : ∀ W, (Instr.index 9 (.string D36) (.int .u64 (r : Int))).run Tryd.prog W = .ok (.int .u8 ((ch r).toNat : Int)) W := idx36 9 Tryd.underlying9 .u64 _ r rfl (by omega)
      have hN := Lib.hid (show txt 16 m = txt 16 Q ++ (ch r :: bs) by rw [ht.out, txt_big hb.1 hbu, hQ, hr, List.append_assoc]; rfl)
      clear ht hr hQ hlen
      generalize hc : (((ch r).toNat : Nat) : Int) = c at hidx
      have HC := Lib.hid hc
      clear hc
      go_wp2_with fail
      go_roundg g'
      case measure => omega
      case rel =>
        refine ⟨Q, i - 1, _, ch r :: bs, rfl, by congr 1; omega, Lib.hid (by have := hi.out; simp; omega), hN, Lib.hid (hA.out.set (i - 1) (by omega) _), ?_, Lib.hid (hB.out.setCell (by simp) _), by omega, by omega⟩
        refine Lib.hid ?_
        have := hF.out.cons (by have := hi.out; omega) (ch r)
        rw [← hi.out, HC.out] at this
        exact this
    · have hidx : ∀ W, (Instr.index 9 (.string D36) (.int .u64 (u : Int))).run Tryd.prog W = .ok (.int .u8 ((ch u).toNat : Int)) W := idx36 9 Tryd.underlying9 .u64 _ u rfl (by omega)
      have hN : txt 16 m = ch u :: bs := by rw [ht.out, txt_small (by omega)]; rfl
      have hF1 := hF.out.cons (by have := hi.out; omega) (ch u)
      rw [← hi.out] at hF1
      have hA1 := hA.out.set (i - 1) (by omega) ((ch u).toNat : Int)
      have hF2 := hF1.cons (by have := hi.out; simp; omega) 45
      rw [show 65 - (ch u :: bs).length - 1 = i - 2 by have := hi.out; simp; omega] at hF2
      have hA2 := hA1.set (i - 2) (by omega) ((45 : UInt8).toNat : Int)
      have hci2 := hA1.cell (i - 2) (by omega)
      have hfi2 := hA1.free (i - 2) (by omega)
      have hcv1 := back _ w.heap.size _ (45 :: ch u :: bs) hA2 hF2 (65 - (i - 2)) (65 - (i - 2)) (by have := hi.out; simp; omega)
      rw [show 65 - (45 :: ch u :: bs).length = i - 2 by have := hi.out; simp; omega, ← hN, show (((45 : UInt8).toNat : Nat) : Int) = 45 by decide] at hcv1
      have hs := sl65 w.heap.size (i - 2) (by omega)
      rw [ei2] at hs
      have HB := Lib.hid ((hB.out.setCell (p := ⟨w.heap.size, i - 1, none⟩) (by simp) (.int .u8 ((ch u).toNat : Int))).setCell (p := ⟨w.heap.size, i - 2, none⟩) (by simp) (.int .u8 45))
      clear hN hF1 hA1 hF2 hA2 hF hA ht hi hB hlen hul
      generalize hc : (((ch u).toNat : Nat) : Int) = c at *
      generalize hT : txt 16 m = T at *
      clear hc
      go_wp2_with fail
      go_ret2
      exact ⟨by rw [hT]; rfl, HB.out⟩
set_option maxHeartbeats 2000000 in
theorem bits_32 (m : Nat) (w : World) (hT : Tz w) (hm : m ≤ 2147483648) :
    Calls Tryd.prog 14 #[.slice none 0 0, .int .u64 (m : Int), .int .i64 32, .bool false, .bool false] w fun e w' => e = .returned (.tuple #[.slice none 0 0, .string ⟨(signed false (txt 32 m)).toArray⟩]) ∧ Below w.heap.size w w' := by
  have hb : 2 ≤ 32 ∧ 32 ≤ 36 := by decide
  have H : Hid (∀ w, Calls Tryd.prog 20 #[.int .i64 32] w fun e w' => e = .returned (.bool true) ∧ w = w') := Lib.hid fun w => isPow 32 (by decide) w
  have H2 := Lib.hid (tz_32 _ (tz_alloc hT Z65 46))
  clear hT
  have hz := zero46
  go_enter Tryd.func14, Tryd.ntmps14
  have eD : (⟨#[48, 49, 50, 51, 52, 53, 54, 55, 56, 57, 97, 98, 99, 100, 101, 102, 103, 104, 105, 106, 107, 108, 109, 110, 111, 112, 113, 114, 115, 116, 117, 118, 119, 120, 121, 122]⟩ : ByteArray) = D36 := by decide +kernel
  rw [eD]
  clear eD
  go_wp2_with fail
  refine (H.out _).mono ?_
  rintro e w' ⟨rfl, rfl⟩
  go_wp2_with fail
  refine H2.out.mono ?_
  rintro e w' ⟨rfl, rfl⟩
  go_wp2_with fail
  go_loopg [1, 13] m (fun g s1 s13 wr => ∃ (u : Nat) (i : Nat) (G : Nat → Int) (bs : List UInt8), s1 = .int .u64 (u : Int) ∧ s13 = .int .i64 (i : Int) ∧ Hid (i = 65 - bs.length) ∧ Hid (txt 32 m = txt 32 u ++ bs) ∧ Hid (Arr wr w.heap.size G) ∧ Hid (Fits G bs) ∧ Hid (Below w.heap.size w wr) ∧ u ≤ g ∧ u ≤ 2147483648)
  case atStart => exact ⟨m, 65, fun _ => 0, [], rfl, rfl, Lib.hid rfl, Lib.hid (by simp), Lib.hid (arr_new _ _), Lib.hid (Fits.nil _), Lib.hid ((Below.refl _ _).alloc (Nat.le_refl _) _), by omega, hm⟩
  case round =>
    obtain ⟨u, i, G, bs, rfl, rfl, hi, ht, hA, hF, hB, hug, hu⟩ := hrel
    have hlen : bs.length + (txt 32 u).length ≤ 32 := by
      have h1 := (txt_len 32 hb.1 m hm).2
      rw [ht.out, List.length_append] at h1
      omega
    have hul := (txt_len 32 hb.1 u hu).1
    have hie := hi.out
    have hi1 : 34 ≤ i ∧ i ≤ 65 := by omega
    clear hie
    have hci := hA.out.cell (i - 1) (by omega)
    have hfi := hA.out.free (i - 1) (by omega)
    have hlt := hA.out.lt
    have ei : ((i - 1 : Nat) : Int) = (i : Int) - 1 := by omega
    by_cases hbu : 32 ≤ u
    · obtain ⟨g', rfl⟩ : ∃ g', gk = g' + 1 := ⟨gk - 1, by omega⟩
      obtain ⟨r, hr⟩ : ∃ r, u % 32 = r := ⟨_, rfl⟩
      obtain ⟨Q, hQ⟩ : ∃ Q, u / 32 = Q := ⟨_, rfl⟩
      have hrb : r < 32 := by rw [← hr]; exact Nat.mod_lt u (by omega)
      have hQu : Q < u := by rw [← hQ]; exact Nat.div_lt_self (by omega) (by omega)
      have e1 : bits .and .u64 (u : Int) 31 = (r : Int) := by
        rw [u64_and (u : Int) 31 (by omega) (by omega) (by decide) (by decide), ← hr, Int.toNat_natCast]
        show ((u &&& 31 : Nat) : Int) = _
        rw [nat_mask5]
      have e2 : (u : Int) / 32 = (Q : Int) := by omega
      have hidx : ∀ W, (Instr.index 9 (.string D36) (.int .u64 (r : Int))).run Tryd.prog W = .ok (.int .u8 ((ch r).toNat : Int)) W := idx36 9 Tryd.underlying9 .u64 _ r rfl (by omega)
      have hN := Lib.hid (show txt 32 m = txt 32 Q ++ (ch r :: bs) by rw [ht.out, txt_big hb.1 hbu, hQ, hr, List.append_assoc]; rfl)
      clear ht hr hQ hlen
      generalize hc : (((ch r).toNat : Nat) : Int) = c at hidx
      have HC := Lib.hid hc
      clear hc
      go_wp2_with fail
      go_roundg g'
      case measure => omega
      case rel =>
        refine ⟨Q, i - 1, _, ch r :: bs, rfl, by congr 1; omega, Lib.hid (by have := hi.out; simp; omega), hN, Lib.hid (hA.out.set (i - 1) (by omega) _), ?_, Lib.hid (hB.out.setCell (by simp) _), by omega, by omega⟩
        refine Lib.hid ?_
        have := hF.out.cons (by have := hi.out; omega) (ch r)
        rw [← hi.out, HC.out] at this
        exact this
    · have hidx : ∀ W, (Instr.index 9 (.string D36) (.int .u64 (u : Int))).run Tryd.prog W = .ok (.int .u8 ((ch u).toNat : Int)) W := idx36 9 Tryd.underlying9 .u64 _ u rfl (by omega)
      have hN : txt 32 m = ch u :: bs := by rw [ht.out, txt_small (by omega)]; rfl
      have hF1 := hF.out.cons (by have := hi.out; omega) (ch u)
      rw [← hi.out] at hF1
      have hA1 := hA.out.set (i - 1) (by omega) ((ch u).toNat : Int)
      have hcv1 := back _ w.heap.size _ (ch u :: bs) hA1 hF1 (65 - (i - 1)) (65 - (i - 1)) (by have := hi.out; simp; omega)
      rw [show 65 - (ch u :: bs).length = i - 1 by have := hi.out; simp; omega, ← hN] at hcv1
      have hs := sl65 w.heap.size (i - 1) (by omega)
      rw [ei] at hs
      have HB := Lib.hid (hB.out.setCell (p := ⟨w.heap.size, i - 1, none⟩) (by simp) (.int .u8 ((ch u).toNat : Int)))
      clear hN hF1 hA1 hF hA ht hi hB hlen hul
      generalize hc : (((ch u).toNat : Nat) : Int) = c at *
      generalize hT : txt 32 m = T at *
      clear hc
      go_wp2_with fail
      go_ret2
      exact ⟨by rw [hT]; rfl, HB.out⟩
set_option maxHeartbeats 2000000 in
theorem bits_32N (m : Nat) (w : World) (hT : Tz w) (hm0 : 1 ≤ m) (hm : m ≤ 2147483648) :
    Calls Tryd.prog 14 #[.slice none 0 0, .int .u64 (18446744073709551616 - (m : Int)), .int .i64 32, .bool true, .bool false] w fun e w' => e = .returned (.tuple #[.slice none 0 0, .string ⟨(signed true (txt 32 m)).toArray⟩]) ∧ Below w.heap.size w w' := by
  have hb : 2 ≤ 32 ∧ 32 ≤ 36 := by decide
  have H : Hid (∀ w, Calls Tryd.prog 20 #[.int .i64 32] w fun e w' => e = .returned (.bool true) ∧ w = w') := Lib.hid fun w => isPow 32 (by decide) w
  have H2 := Lib.hid (tz_32 _ (tz_alloc hT Z65 46))
  clear hT
  have hz := zero46
  have e0 : IntKind.u64.wrap (-(18446744073709551616 - (m : Int))) = (m : Int) := by rw [IntKind.wrap_u64]; omega
  go_enter Tryd.func14, Tryd.ntmps14
  have eD : (⟨#[48, 49, 50, 51, 52, 53, 54, 55, 56, 57, 97, 98, 99, 100, 101, 102, 103, 104, 105, 106, 107, 108, 109, 110, 111, 112, 113, 114, 115, 116, 117, 118, 119, 120, 121, 122]⟩ : ByteArray) = D36 := by decide +kernel
  rw [eD]
  clear eD
  go_wp2_with fail
  refine (H.out _).mono ?_
  rintro e w' ⟨rfl, rfl⟩
  go_wp2_with fail
  refine H2.out.mono ?_
  rintro e w' ⟨rfl, rfl⟩
  go_wp2_with fail
  go_loopg [1, 13] m (fun g s1 s13 wr => ∃ (u : Nat) (i : Nat) (G : Nat → Int) (bs : List UInt8), s1 = .int .u64 (u : Int) ∧ s13 = .int .i64 (i : Int) ∧ Hid (i = 65 - bs.length) ∧ Hid (txt 32 m = txt 32 u ++ bs) ∧ Hid (Arr wr w.heap.size G) ∧ Hid (Fits G bs) ∧ Hid (Below w.heap.size w wr) ∧ u ≤ g ∧ u ≤ 2147483648)
  case atStart => exact ⟨m, 65, fun _ => 0, [], rfl, rfl, Lib.hid rfl, Lib.hid (by simp), Lib.hid (arr_new _ _), Lib.hid (Fits.nil _), Lib.hid ((Below.refl _ _).alloc (Nat.le_refl _) _), by omega, hm⟩
  case round =>
    obtain ⟨u, i, G, bs, rfl, rfl, hi, ht, hA, hF, hB, hug, hu⟩ := hrel
    have hlen : bs.length + (txt 32 u).length ≤ 32 := by
      have h1 := (txt_len 32 hb.1 m hm).2
      rw [ht.out, List.length_append] at h1
      omega
    have hul := (txt_len 32 hb.1 u hu).1
    have hie := hi.out
    have hi1 : 34 ≤ i ∧ i ≤ 65 := by omega
    clear hie
    have hci := hA.out.cell (i - 1) (by omega)
    have hfi := hA.out.free (i - 1) (by omega)
    have hlt := hA.out.lt
    have ei : ((i - 1 : Nat) : Int) = (i : Int) - 1 := by omega
    have ei2 : ((i - 2 : Nat) : Int) = (i : Int) - 2 := by omega
    have ei3 : (i : Int) - 1 - 1 = (i : Int) - 2 := by omega
    by_cases hbu : 32 ≤ u
    · obtain ⟨g', rfl⟩ : ∃ g', gk = g' + 1 := ⟨gk - 1, by omega⟩
      obtain ⟨r, hr⟩ : ∃ r, u % 32 = r := ⟨_, rfl⟩
      obtain ⟨Q, hQ⟩ : ∃ Q, u / 32 = Q := ⟨_, rfl⟩
      have hrb : r < 32 := by rw [← hr]; exact Nat.mod_lt u (by omega)
      have hQu : Q < u := by rw [← hQ]; exact Nat.div_lt_self (by omega) (by omega)
      have e1 : bits .and .u64 (u : Int) 31 = (r : Int) := by
        rw [u64_and (u : Int) 31 (by omega) (by omega) (by decide) (by decide), ← hr, Int.toNat_natCast]
        show ((u &&& 31 : Nat) : Int) = _
        rw [nat_mask5]
      have e2 : (u : Int) / 32 = (Q : Int) := by omega
      have hidx : ∀ W, (Instr.index 9 (.string D36) (.int .u64 (r : Int))).run Tryd.prog W = .ok (.int .u8 ((ch r).toNat : Int)) W := idx36 9 Tryd.underlying9 .u64 _ r rfl (by omega)
      have hN := Lib.hid (show txt 32 m = txt 32 Q ++ (ch r :: bs) by rw [ht.out, txt_big hb.1 hbu, hQ, hr, List.append_assoc]; rfl)
      clear ht hr hQ hlen
      generalize hc : (((ch r).toNat : Nat) : Int) = c at hidx
      have HC := Lib.hid hc
      clear hc
      go_wp2_with fail
      go_roundg g'
      case measure => omega
      case rel =>
        refine ⟨Q, i - 1, _, ch r :: bs, rfl, by congr 1; omega, Lib.hid (by have := hi.out; simp; omega), hN, Lib.hid (hA.out.set (i - 1) (by omega) _), ?_, Lib.hid (hB.out.setCell (by simp) _), by omega, by omega⟩
        refine Lib.hid ?_
        have := hF.out.cons (by have := hi.out; omega) (ch r)
        rw [← hi.out, HC.out] at this
        exact this
    · have hidx : ∀ W, (Instr.index 9 (.string D36) (.int .u64 (u : Int))).run Tryd.prog W = .ok (.int .u8 ((ch u).toNat : Int)) W := idx36 9 Tryd.underlying9 .u64 _ u rfl (by omega)
      have hN : txt 32 m = ch u :: bs := by rw [ht.out, txt_small (by omega)]; rfl
      have hF1 := hF.out.cons (by have := hi.out; omega) (ch u)
      rw [← hi.out] at hF1
      have hA1 := hA.out.set (i - 1) (by omega) ((ch u).toNat : Int)
      have hF2 := hF1.cons (by have := hi.out; simp; omega) 45
      rw [show 65 - (ch u :: bs).length - 1 = i - 2 by have := hi.out; simp; omega] at hF2
      have hA2 := hA1.set (i - 2) (by omega) ((45 : UInt8).toNat : Int)
      have hci2 := hA1.cell (i - 2) (by omega)
      have hfi2 := hA1.free (i - 2) (by omega)
      have hcv1 := back _ w.heap.size _ (45 :: ch u :: bs) hA2 hF2 (65 - (i - 2)) (65 - (i - 2)) (by have := hi.out; simp; omega)
      rw [show 65 - (45 :: ch u :: bs).length = i - 2 by have := hi.out; simp; omega, ← hN, show (((45 : UInt8).toNat : Nat) : Int) = 45 by decide] at hcv1
      have hs := sl65 w.heap.size (i - 2) (by omega)
      rw [ei2] at hs
      have HB := Lib.hid ((hB.out.setCell (p := ⟨w.heap.size, i - 1, none⟩) (by simp) (.int .u8 ((ch u).toNat : Int))).setCell (p := ⟨w.heap.size, i - 2, none⟩) (by simp) (.int .u8 45))
      clear hN hF1 hA1 hF2 hA2 hF hA ht hi hB hlen hul
      generalize hc : (((ch u).toNat : Nat) : Int) = c at *
      generalize hT : txt 32 m = T at *
      clear hc
      go_wp2_with fail
      go_ret2
      exact ⟨by rw [hT]; rfl, HB.out⟩
end Go.Proofs.YtlhcgkocnckddaaDoor.dig
