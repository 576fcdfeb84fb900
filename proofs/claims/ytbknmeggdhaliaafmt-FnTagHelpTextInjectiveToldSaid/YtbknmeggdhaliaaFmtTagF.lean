/- The closed facts for the walk over fmt.Sprintf's stop; the text that it gives; the help text's contract. No conditions beyond the hypotheses. -/
import Derived.Test.YtbknmeggdhaliaaFmtRows
import Derived.Test.YtbknmeggdhaliaaFmtLib
import Derived.Test.YtbknmeggdhaliaaFmtTagP
import Derived.Stop.CallBack
import Derived.Stop.IfaceNil
import Derived.Stop.JoinedAt
import Derived.Stop.Texts
import Derived.Stop.JoinedTold
import Derived.Stop.FmtTextKit
import Derived.SizedLaws
import GoSem.ClaimData
namespace Go.Proofs.YtbknmeggdhaliaaFmt.tag
open Go.RowKit Go.Kit Go.Extern.Stop Go.Stop Go.Extern Go.Mine
set_option linter.unusedVariables false

@[go_sem] theorem call7 (args : Array Value) (w : World) : (callFunc 7 args).run Tryf.prog w = ((FmtStop.sprintf #[9, 41] #[9] args).run Tryf.prog w).andThen fun v w' => .ok (.value v) w' :=
  run_callFunc_extern Tryf.func7 (by kernel_rfl) (by kernel_rfl) (by kernel_rfl) (by kernel_rfl) args w
@[go_sem] theorem guardOk (name : String) (w : World) : (FmtStop.guard name).run Tryf.prog w = .ok () w := by kernel_rfl
@[go_sem] theorem fmt1 : FmtStop.printed? ⟨#[37, 113, 32, 116, 97, 103]⟩ 1 = some [(0, 113, false)] := by kernel_rfl
@[go_sem] theorem fmt1r (w : World) : (FmtDoors.printed ⟨#[37, 113, 32, 116, 97, 103]⟩ 1).run Tryf.prog w = .ok [(0, 113, false)] w := by kernel_rfl
@[go_sem] theorem fmt0 : FmtStop.printed? ⟨#[37, 113, 32, 116, 97, 103]⟩ 0 = some [] := by kernel_rfl
@[go_sem] theorem fmt0r (w : World) : (FmtDoors.printed ⟨#[37, 113, 32, 116, 97, 103]⟩ 0).run Tryf.prog w = .ok [] w := by kernel_rfl
def shape9 : List UInt8 := [12, 6, 0, 0, 0, 0, 0, 0, 0, 115, 116, 114, 105, 110, 103]
@[go_sem] theorem op113 (name : String) (x : ByteArray) (w : World) : (FmtStop.operand name false 113 false (.iface 9 (.string x))).run Tryf.prog w = .ok (shape9, FmtStop.pack x.data.toList) w := by kernel_rfl
@[go_sem] theorem strict9 (name : String) (x : ByteArray) (w : World) : (FmtStop.strict name (.iface 9 (.string x))).run Tryf.prog w = .ok (shape9, FmtStop.pack x.data.toList) w := by kernel_rfl

/-- What fmt is asked. -/
def reading (s : List UInt8) : List (List UInt8) := [[37, 113, 32, 116, 97, 103], shape9, FmtStop.pack s]
def tText (s : List UInt8) : List UInt8 := FmtText.quote false s ++ [32, 116, 97, 103]
theorem t_parse : (FmtText.parse [37, 113, 32, 116, 97, 103]).map FmtText.glue = some [.verb {} 113, .lit [32, 116, 97, 103]] := by rfl
theorem t_text (s : List UInt8) (hs : s.length < 2 ^ 64) : FmtText.text "fmt.Sprintf" (reading s) = some (tText s) := by
  have hn := FmtText.operand_str_at (sh := shape9) rfl rfl s hs
  rw [reading, FmtText.text_sprintf_glued t_parse (FmtText.operands_cons hn FmtText.operands_nil)]
  simp [FmtText.render, FmtText.printArg_q_str, tText]
/-- The help text. -/
def help (s : ByteArray) : ByteArray := if s.data.toList = [] then ⟨#[102, 114, 97, 103, 109, 101, 110, 116, 32, 116, 97, 103]⟩ else ⟨(tText s.data.toList).toArray⟩
theorem told_text (F : Interp) (s : ByteArray) (hs : s.size ≤ 1048576) : FmtStop.textOf (F.told "fmt.Sprintf" (reading s.data.toList) 0) = ⟨(tText s.data.toList).toArray⟩ := by
  have hl : s.data.toList.length = s.size := by simp
  have l3 := FmtText.quote_length_le s.data.toList
  have ht := told_string F (t_text s.data.toList (by omega)) (by simp [tText]; omega)
  apply ByteArray.ext
  apply Array.toList_inj.1
  rw [textOf_list, ht]
theorem help_inj {a b : ByteArray} (h : help a = help b) : a = b := by
  unfold help at h
  have fin : ∀ {x y : ByteArray}, x.data.toList = y.data.toList → x = y := fun e => ByteArray.ext (Array.toList_inj.1 e)
  by_cases ha : a.data.toList = []
  · by_cases hb : b.data.toList = []
    · exact fin (ha.trans hb.symm)
    · rw [if_pos ha, if_neg hb] at h
      have h2 := congrArg (fun x : ByteArray => x.data.toList) h
      simp [tText, FmtText.quote] at h2
  · by_cases hb : b.data.toList = []
    · rw [if_neg ha, if_pos hb] at h
      have h2 := congrArg (fun x : ByteArray => x.data.toList) h
      simp [tText, FmtText.quote] at h2
    · rw [if_neg ha, if_neg hb] at h
      have h2 := congrArg (fun x : ByteArray => x.data.toList) h
      simp only [tText] at h2
      exact fin (quote_inj (List.append_cancel_right h2))

set_option maxHeartbeats 400000 in
theorem help6 (F : Interp) (s : ByteArray) (w : World) (hs : s.size ≤ 1048576) (hF : F.told.answers w.tape) :
    Calls Tryf.prog 6 #[.string s] w fun e w' => e = .returned (.string (help s)) ∧ Below w.heap.size w w' := by
  have hF' := answers_open hF
  have ht := told_text F s hs
  unfold reading at ht
  by_cases h0 : s.toList = []
  · have hd : s.data.toList = [] := by rw [← ByteArray.toList_eq]; exact h0
    have hh : help s = ⟨#[102, 114, 97, 103, 109, 101, 110, 116, 32, 116, 97, 103]⟩ := by unfold help; rw [if_pos hd]
    clear ht
    have H := Lib.hid hh
    have h0' : s.toList.isEmpty = true := by rw [h0]; rfl
    clear hh hd h0
    go_enter Tryf.func6, Tryf.ntmps6
    go_wp2
    go_ret
    exact ⟨by rw [H.out]; rfl, Below.refl _ _⟩
  · have hd : ¬ s.data.toList = [] := by rw [← ByteArray.toList_eq]; exact h0
    have hh : help s = ⟨(tText s.data.toList).toArray⟩ := by unfold help; rw [if_neg hd]
    have H := Lib.hid hh
    have HT := Lib.hid ht
    clear hh hd ht
    have h0' : s.toList.isEmpty = false := by cases e : s.toList <;> simp_all
    go_enter Tryf.func6, Tryf.ntmps6
    go_wp2
    go_ret
    exact ⟨by rw [H.out, ← HT.out]; rfl, ((Below.refl _ _).alloc (Nat.le_refl _) _).drew⟩
end Go.Proofs.YtbknmeggdhaliaaFmt.tag
