/- The contract of the wrapper round 'convertSymbolUseToCall'. No conditions beyond the hypotheses. -/
import Derived.Test.YtkbcbicecogjmaaCnvC
namespace Go.Proofs.Ytkbcbicecogjmaa.cnv
open Go.ChangeShapes Go.WideShapes Go.ChangeAt Go.RowKit Go.Mine Go.Maps
set_option linter.unusedVariables false
set_option linter.unusedSimpArgs false
set_option maxRecDepth 100000

set_option maxHeartbeats 4000000 in
theorem conv9 (p q mu n k : Nat) (o : Option Nat) (b : Bool) (u c g : Nat → Nat) (w : World) (h : Sta p q mu o n u c g w) (hk : k < 4) (hu : 0 < u k) (hu2 : u k < 4294967296) (hc2 : c k < 1000000) (hg2 : g k < 1000000) (hn : n < 1000000) :
    Calls Try.prog 9 #[.pointer (some ⟨p, 0, none⟩), ref k, .bool b] w (Conv p q mu n k b u c g w) := by
  have hb0 : Below w.heap.size w (w.alloc (.cells #[.int .u32 0, .int .u32 k] 34)) := (Below.refl _ _).alloc (Nat.le_refl _) _
  have hlm : mu < w.heap.size := by obtain ⟨D, hD, _⟩ := h.uses; exact hD.lt
  have H10 := Lib.hid (conv10 p q mu n k o b u c g _ (h.below hb0) hk hu hu2 hc2 hg2 hn)
  have HR := Lib.hid (Blk.new w #[.int .u32 0, .int .u32 k] 34)
  have HB0 := Lib.hid (hb0.mono (Nat.le_of_lt hlm))
  clear hb0 h hlm
  go_enter Try.func9, Try.ntmps9
  go_upto_region 1 with fail
  generalize w.alloc (.cells #[.int .u32 0, .int .u32 k] 34) = W at *
  have r0 := HR.out.cell 0
  have r1 := HR.out.cell 1
  simp at r0 r1
  go_wp2_with fail
  refine H10.out.mono ?_
  rintro e w2 ⟨rfl, hb, mc, hs⟩
  have HF : Hid (Conv p q mu n k b u c g w (.returned (.tuple #[])) w2) := Lib.hid ⟨rfl, HB0.out.trans hb, mc, hs⟩
  clear hb hs
  go_wp2_with fail
  exact bodyPost_end (results_none rfl _ _ _) (by first | rfl | simp [Act.put]) HF.out
end Go.Proofs.Ytkbcbicecogjmaa.cnv
