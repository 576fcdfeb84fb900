/- Chains of property accesses in memory, and the contract of 'ValuesLookTheSame' on two of them. No conditions beyond the hypotheses. -/
import Derived.Test.YtanaidcjiinpaaaRRRows
import Derived.Test.YtanaidcjiinpaaaRRLib
import Derived.Test.YtanaidcjiinpaaaRRAsserts
import Derived.Test.YtanaidcjiinpaaaRROptP
import Derived.Deep.QuietTactic
import Derived.BigQuiet
import Derived.Outline
namespace Go.Proofs.YtanaidcjiinpaaaRR.opt
open Go.ChangeShapes Go.WideShapes Go.ChangeAt Go.RowKit Go.Mine
set_option linter.unusedVariables false
set_option linter.unusedSimpArgs false
set_option maxRecDepth 100000

abbrev tI : Nat := 47
abbrev tD : Nat := 42
abbrev tX : Nat := 43
abbrev tC : Nat := 44
abbrev tS : Nat := 55
def ty : List Nd → Nat
  | [] => 47
  | n :: _ => if n.k = 0 then 42 else if n.k = 1 then 43 else 44
def pl (p0 : Nat) : List Nd → Nat
  | [] => p0
  | n :: _ => n.p
abbrev ifp (T p : Nat) : Value := .iface T (.pointer (some ⟨p, 0, none⟩))
def units (nm : ByteArray) : List Int := nm.toList.map (fun c => (c.toNat : Int))
/-- What a node's block holds. -/
def Node (w : World) (lo : Nat) (n : Nd) (T p : Nat) : Prop :=
  lo ≤ n.p ∧ p < n.p ∧
  ((n.k = 0 ∧ Blk w n.p #[ifp T p, .int .i32 0, .string n.nm, .int .i32 0, .int .u8 n.fl, .bool false, .bool false, .bool false] 54) ∨
   (n.k = 1 ∧ ∃ (q R c : Nat) (C : Array Value), lo ≤ q ∧ q < n.p ∧ p < q ∧ lo ≤ R ∧ R < n.p ∧ p < R ∧ Blk w n.p #[ifp T p, .int .i32 0, ifp 55 q, .int .i32 0, .int .i32 0, .int .u8 n.fl, .bool false, .bool false, .bool false] 61 ∧
      Blk w q #[.slice (some ⟨R, 0, none⟩) n.nm.toList.length c, .int .i32 0, .bool false, .bool false, .bool false] 59 ∧ IntRow .u16 w (some ⟨R, 0, none⟩) n.nm.toList.length c (units n.nm) ∧ Blk w R C 67) ∨
   (n.k = 2 ∧ Blk w n.p #[ifp T p, .int .i32 0, .slice none 0 0, .int .i32 0, .int .u8 n.fl, .int .u8 0, .bool false, .bool false] 65))
def rep (w : World) (lo p0 : Nat) (r : Int) : List Nd → Prop
  | [] => Blk w p0 #[.int .u32 0, .int .u32 r, .bool false, .bool false, .bool false] 51
  | n :: B => Node w lo n (ty B) (pl p0 B) ∧ rep w lo p0 r B
theorem Node.kept {w w' : World} {lo lo' : Nat} {n : Nd} {T p : Nat} (h : Node w lo n T p) (hlo : lo' ≤ lo) (hk : ∀ k, lo ≤ k → k ≤ n.p → p < k → w'.heap[k]? = w.heap[k]?) : Node w' lo' n T p := by
  obtain ⟨h1, h2, h⟩ := h
  refine ⟨by omega, h2, ?_⟩
  rcases h with ⟨e, b⟩ | ⟨e, q, R, c, C, q1, q2, q3, R1, R2, R3, b, bq, row, bR⟩ | ⟨e, b⟩
  · exact .inl ⟨e, (hk _ h1 (Nat.le_refl _) h2).trans b⟩
  · refine .inr (.inl ⟨e, q, R, c, C, by omega, q2, q3, by omega, R2, R3, (hk _ h1 (Nat.le_refl _) h2).trans b, (hk _ q1 (by omega) q3).trans bq, ?_, (hk _ R1 (by omega) R3).trans bR⟩)
    obtain ⟨r1, r2, r3, r4, r5⟩ := row
    refine ⟨r1, r2, r3, r4, ?_⟩
    rcases r5 with ⟨r5, _⟩ | ⟨b', off, s, r5, r6, r7⟩
    · cases r5
    · injection r5 with r5
      injection r5 with e1 e2 e3
      subst e1 e2 e3
      have hR := hk R R1 (by omega) R3
      refine .inr ⟨_, _, _, rfl, fun _ => ⟨rfl, Blk.lt (hR.trans bR)⟩, fun i hi => ?_⟩
      rw [cell_of_block hR]
      exact r7 i hi
  · exact .inr (.inr ⟨e, (hk _ h1 (Nat.le_refl _) h2).trans b⟩)
theorem Node.lt {w : World} {lo : Nat} {n : Nd} {T p : Nat} (h : Node w lo n T p) : n.p < w.heap.size := by
  obtain ⟨h1, h2, h⟩ := h
  rcases h with ⟨e, b⟩ | ⟨e, q, R, c, C, q1, q2, q3, R1, R2, R3, b, bq, row, bR⟩ | ⟨e, b⟩
  · exact b.lt
  · exact b.lt
  · exact b.lt
theorem rep.lt {w : World} {lo p0 : Nat} {r : Int} : ∀ {B : List Nd}, rep w lo p0 r B → pl p0 B < w.heap.size
  | [], h => Blk.lt h
  | n :: B, h => h.1.lt
theorem rep.p0_le {w : World} {lo p0 : Nat} {r : Int} : ∀ {B : List Nd}, rep w lo p0 r B → p0 ≤ pl p0 B
  | [], h => Nat.le_refl _
  | n :: B, h => by have := h.2.p0_le; have := h.1.2.1; show p0 ≤ n.p; omega
theorem rep.kept {w w' : World} {lo lo' p0 : Nat} {r : Int} (hlo : lo' ≤ lo) : ∀ {B : List Nd}, rep w lo p0 r B → (∀ k, (k = p0 ∨ lo ≤ k) → k ≤ pl p0 B → w'.heap[k]? = w.heap[k]?) → rep w' lo' p0 r B
  | [], h, hk => (hk _ (.inl rfl) (Nat.le_refl _)).trans h
  | n :: B, h, hk => ⟨h.1.kept hlo (fun k h1 h2 _ => hk k (.inr h1) h2), h.2.kept hlo (fun k h1 h2 => hk k h1 (by have := h.1.2.1; show k ≤ n.p; omega))⟩
theorem rep.below {w w' : World} {lo p0 : Nat} {r : Int} {B : List Nd} (h : rep w lo p0 r B) (hb : Below w.heap.size w w') : rep w' lo p0 r B := h.kept (Nat.le_refl _) (fun k _ h2 => hb.block k (by have := h.lt; omega))
theorem rep.drewN {w : World} {lo p0 : Nat} {r : Int} {B : List Nd} (h : rep w lo p0 r B) (m : Nat) : rep (w.drewN m) lo p0 r B := h.below (below_drewN' m)
theorem units_eq (a b : ByteArray) : decide (units a = units b) = decide (a.toList = b.toList) := by
  have h : units a = units b ↔ a.toList = b.toList := by
    unfold units
    refine ⟨fun h => ?_, fun h => by rw [h]⟩
    exact (List.map_inj_right (fun x y h => UInt8.toNat_inj.1 (by have h : ((x.toNat : Nat) : Int) = ((y.toNat : Nat) : Int) := h; omega))).1 h
  exact decide_eq_decide.2 h
end Go.Proofs.YtanaidcjiinpaaaRR.opt
