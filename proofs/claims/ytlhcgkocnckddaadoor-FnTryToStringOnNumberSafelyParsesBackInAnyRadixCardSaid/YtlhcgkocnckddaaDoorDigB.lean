/- The contract of the law's 'zzParse' at a text of digits. No conditions beyond the hypotheses. -/
import Derived.Test.YtlhcgkocnckddaaDoorDigP
import Derived.Deep.LoopGhost
namespace Go.Proofs.YtlhcgkocnckddaaDoor.dig
open Go.ChangeShapes Go.WideShapes Go.ChangeAt Go.RowKit Go.Mine
set_option linter.unusedVariables false
set_option linter.unusedSimpArgs false
set_option maxRecDepth 100000

/-- The text's bytes: digits behind an offset. -/
structure Tx (s : ByteArray) (b off : Nat) (ds : List Nat) : Prop where
  sz : s.size = off + ds.length
  at_ : ∀ k (h : k < ds.length), (s[off + k]'(by omega)).toNat = (ch ds[k]).toNat
  lt : ∀ d ∈ ds, d < b
set_option maxHeartbeats 1000000 in
theorem parseP (s : ByteArray) (b : Nat) (ds : List Nat) (w : World) (hb : 2 ≤ b ∧ b ≤ 36) (hs : Tx s b 0 ds) (hL : 1 ≤ ds.length ∧ ds.length ≤ 32) (hz : ∀ d l, ds = d :: l → d = 0 → ds.length = 1) (hv : val b ds ≤ 2147483648) :
    Calls Tryd.prog 5 #[.string s, .int .i64 b] w fun e w' => e = .returned (.tuple #[.int .i64 (val b ds : Nat), .bool true]) ∧ w = w' := by
  have hsz : s.size = ds.length := by have := hs.sz; omega
  have h00 := hs.at_ 0 (by omega)
  have hd0 : ds[0]'(by omega) < b := hs.lt _ (List.getElem_mem _)
  rw [ch_toNat _ (by omega)] at h00
  have hz0 : ds[0]'(by omega) = 0 → s.size = 1 := fun h => by
    cases hds : ds with
    | nil => rw [hds] at hL; simp at hL
    | cons d l =>
      subst hds
      have := hz d l rfl h
      omega
  have p0 : 0 < s.size := by omega
  obtain ⟨c0, hc0, hc1⟩ : ∃ c0, (s[0]'p0).toNat = c0 ∧ (c0 ≠ 45) ∧ (c0 = 48 → s.size = 1) := by
    refine ⟨_, rfl, ?_, ?_⟩
    · have : (s[0]'p0).toNat = if ds[0]'(by omega) < 10 then 48 + ds[0]'(by omega) else 87 + ds[0]'(by omega) := by simpa using h00
      rw [this]
      split <;> omega
    · have : (s[0]'p0).toNat = if ds[0]'(by omega) < 10 then 48 + ds[0]'(by omega) else 87 + ds[0]'(by omega) := by simpa using h00
      rw [this]
      intro h
      apply hz0
      split at h <;> omega
  have hsz1 : 1 ≤ s.size := p0
  have hsz2 : s.size ≤ 32 := by omega
  have HS := Lib.hid hs
  have HSZ := Lib.hid hsz
  have HV := Lib.hid hv
  have HL := Lib.hid hL
  have HC := Lib.hid hc1.2
  have hc45 := hc1.1
  clear hs hsz h00 hd0 hz0 hz hv hL hc1
  have q1 : decide ((40 : Int) < (s.size : Int)) = false := by simp; omega
  have q2 : ((s.size : Int) == 0) = false := beq_false_of_ne (by omega)
  have q4 : ¬ s = ByteArray.empty := by
    rintro rfl
    simp at p0
  have q5 : ((c0 : Int) == 45) = false := beq_false_of_ne (by omega)
  by_cases h48 : c0 = 48
  · have hone : s.size = 1 := HC.out h48
    go_enter Tryd.func5, Tryd.ntmps5
    go_wp2_with fail
    go_loopg [6, 8] ds.length (fun g s6 s8 wr => ∃ k : Nat, s6 = .int .i64 ((0 + k : Nat) : Int) ∧ s8 = .int .i64 (val b (ds.take k) : Nat) ∧ k + g = ds.length ∧ w = wr)
    case atStart => exact ⟨0, rfl, rfl, by omega, rfl⟩
    case round =>
      obtain ⟨k, rfl, rfl, hkg, rfl⟩ := hrel
      by_cases hk : k < ds.length
      · obtain ⟨g', rfl⟩ : ∃ g', gk = g' + 1 := ⟨gk - 1, by omega⟩
        have hks : 0 + k < s.size := by have := HS.out.sz; omega
        have hat : (s[0 + k]'hks).toNat = if ds[k] < 10 then 48 + ds[k] else 87 + ds[k] := by
          rw [HS.out.at_ k hk, ch_toNat _ (by have := HS.out.lt _ (List.getElem_mem hk); omega)]
        have hdb : ds[k] < b := HS.out.lt _ (List.getElem_mem hk)
        have hsucc := val_take_succ b ds k hk
        have hle := val_take b (by omega) ds (k + 1)
        have hV := HV.out
        have hmul : ((val b (ds.take k) : Nat) : Int) * (b : Int) = ((val b (ds.take k) * b : Nat) : Int) := by rw [Int.natCast_mul]
        generalize ds[k] = d at *
        generalize val b (ds.take k) * b = M at *
        generalize val b (ds.take k) = v at *
        have hM : M + d ≤ 2147483648 := by omega
        generalize hzk : 0 + k = z at *
        have hN := Lib.hid hsucc
        clear hsucc hle hV
        by_cases hd : d < 10
        · rw [if_pos hd] at hat
          go_wp2_with fail
          go_roundg g'
          case measure => omega
          case rel => exact ⟨k + 1, by congr 1; omega, by congr 1; rw [hN.out]; omega, by omega, rfl⟩
        · rw [if_neg hd] at hat
          go_wp2_with fail
          go_roundg g'
          case measure => omega
          case rel => exact ⟨k + 1, by congr 1; omega, by congr 1; rw [hN.out]; omega, by omega, rfl⟩
      · have hke : k = ds.length := by omega
        subst hke
        have hsz3 : s.size = 0 + ds.length := HS.out.sz
        have hT : val b (ds.take ds.length) = val b ds := by rw [List.take_length]
        rw [hT]
        have hV := HV.out
        generalize hVd : val b ds = V at *
        generalize hz9 : 0 + ds.length = z at *
        clear hT
        go_wp2_with fail
        go_ret2
        exact ⟨by rw [hVd]; rfl, rfl⟩
  · have q3 : ((c0 : Int) == 48) = false := beq_false_of_ne (by omega)
    go_enter Tryd.func5, Tryd.ntmps5
    go_wp2_with fail
    go_loopg [6, 8] ds.length (fun g s6 s8 wr => ∃ k : Nat, s6 = .int .i64 ((0 + k : Nat) : Int) ∧ s8 = .int .i64 (val b (ds.take k) : Nat) ∧ k + g = ds.length ∧ w = wr)
    case atStart => exact ⟨0, rfl, rfl, by omega, rfl⟩
    case round =>
      obtain ⟨k, rfl, rfl, hkg, rfl⟩ := hrel
      by_cases hk : k < ds.length
      · obtain ⟨g', rfl⟩ : ∃ g', gk = g' + 1 := ⟨gk - 1, by omega⟩
        have hks : 0 + k < s.size := by have := HS.out.sz; omega
        have hat : (s[0 + k]'hks).toNat = if ds[k] < 10 then 48 + ds[k] else 87 + ds[k] := by
          rw [HS.out.at_ k hk, ch_toNat _ (by have := HS.out.lt _ (List.getElem_mem hk); omega)]
        have hdb : ds[k] < b := HS.out.lt _ (List.getElem_mem hk)
        have hsucc := val_take_succ b ds k hk
        have hle := val_take b (by omega) ds (k + 1)
        have hV := HV.out
        have hmul : ((val b (ds.take k) : Nat) : Int) * (b : Int) = ((val b (ds.take k) * b : Nat) : Int) := by rw [Int.natCast_mul]
        generalize ds[k] = d at *
        generalize val b (ds.take k) * b = M at *
        generalize val b (ds.take k) = v at *
        have hM : M + d ≤ 2147483648 := by omega
        generalize hzk : 0 + k = z at *
        have hN := Lib.hid hsucc
        clear hsucc hle hV
        by_cases hd : d < 10
        · rw [if_pos hd] at hat
          go_wp2_with fail
          go_roundg g'
          case measure => omega
          case rel => exact ⟨k + 1, by congr 1; omega, by congr 1; rw [hN.out]; omega, by omega, rfl⟩
        · rw [if_neg hd] at hat
          go_wp2_with fail
          go_roundg g'
          case measure => omega
          case rel => exact ⟨k + 1, by congr 1; omega, by congr 1; rw [hN.out]; omega, by omega, rfl⟩
      · have hke : k = ds.length := by omega
        subst hke
        have hsz3 : s.size = 0 + ds.length := HS.out.sz
        have hT : val b (ds.take ds.length) = val b ds := by rw [List.take_length]
        rw [hT]
        have hV := HV.out
        generalize hVd : val b ds = V at *
        generalize hz9 : 0 + ds.length = z at *
        clear hT
        go_wp2_with fail
        go_ret2
        exact ⟨by rw [hVd]; rfl, rfl⟩
theorem head_pos (ds : List Nat) (hz : ∀ d l, ds = d :: l → 0 < d) (h : 0 < ds.length) : 0 < ds[0]'h := by
  cases ds with
  | nil => simp at h
  | cons d l => exact hz d l rfl
set_option maxHeartbeats 1000000 in
theorem parseN (s : ByteArray) (b : Nat) (ds : List Nat) (w : World) (hb : 2 ≤ b ∧ b ≤ 36) (hs : Tx s b 1 ds) (hL : 1 ≤ ds.length ∧ ds.length ≤ 32) (hz : ∀ d l, ds = d :: l → 0 < d) (h45 : ∀ h : 0 < s.size, (s[0]'h).toNat = 45) (hv : val b ds ≤ 2147483648) :
    Calls Tryd.prog 5 #[.string s, .int .i64 b] w fun e w' => e = .returned (.tuple #[.int .i64 (-((val b ds : Nat) : Int)), .bool true]) ∧ w = w' := by
  have hsz : s.size = 1 + ds.length := hs.sz
  have h00 := hs.at_ 0 (by omega)
  have hd0 : ds[0]'(by omega) < b := hs.lt _ (List.getElem_mem _)
  have hdp : 0 < ds[0]'(by omega) := head_pos ds hz (by omega)
  rw [ch_toNat _ (by omega)] at h00
  have p0 : 0 < s.size := by omega
  have p1 : 1 < s.size := by omega
  have hc45 := h45 p0
  obtain ⟨c1, hc1, hc2⟩ : ∃ c1, (s[1]'p1).toNat = c1 ∧ c1 ≠ 48 := by
    refine ⟨_, rfl, ?_⟩
    have : (s[1]'p1).toNat = if ds[0]'(by omega) < 10 then 48 + ds[0]'(by omega) else 87 + ds[0]'(by omega) := by simpa using h00
    rw [this]
    split <;> omega
  have hsz2 : s.size ≤ 33 := by omega
  have HS := Lib.hid hs
  have HSZ := Lib.hid hsz
  have HV := Lib.hid hv
  have HL := Lib.hid hL
  clear hs hsz h00 hd0 hz hv hL h45 hdp
  have q1 : decide ((40 : Int) < (s.size : Int)) = false := by simp; omega
  have q2 : ((s.size : Int) == 0) = false := beq_false_of_ne (by omega)
  have q4 : ¬ s = ByteArray.empty := by
    rintro rfl
    simp at p0
  have q3 : ((c1 : Int) == 48) = false := beq_false_of_ne (by omega)
  go_enter Tryd.func5, Tryd.ntmps5
  go_wp2_with fail
  go_loopg [6, 8] ds.length (fun g s6 s8 wr => ∃ k : Nat, s6 = .int .i64 ((1 + k : Nat) : Int) ∧ s8 = .int .i64 (val b (ds.take k) : Nat) ∧ k + g = ds.length ∧ w = wr)
  case atStart => exact ⟨0, rfl, rfl, by omega, rfl⟩
  case round =>
    obtain ⟨k, rfl, rfl, hkg, rfl⟩ := hrel
    by_cases hk : k < ds.length
    · obtain ⟨g', rfl⟩ : ∃ g', gk = g' + 1 := ⟨gk - 1, by omega⟩
      have hks : 1 + k < s.size := by have := HS.out.sz; omega
      have hat : (s[1 + k]'hks).toNat = if ds[k] < 10 then 48 + ds[k] else 87 + ds[k] := by
        rw [HS.out.at_ k hk, ch_toNat _ (by have := HS.out.lt _ (List.getElem_mem hk); omega)]
      have hdb : ds[k] < b := HS.out.lt _ (List.getElem_mem hk)
      have hsucc := val_take_succ b ds k hk
      have hle := val_take b (by omega) ds (k + 1)
      have hV := HV.out
      have hmul : ((val b (ds.take k) : Nat) : Int) * (b : Int) = ((val b (ds.take k) * b : Nat) : Int) := by rw [Int.natCast_mul]
      generalize ds[k] = d at *
      generalize val b (ds.take k) * b = M at *
      generalize val b (ds.take k) = v at *
      have hM : M + d ≤ 2147483648 := by omega
      generalize hzk : 1 + k = z at *
      have hN := Lib.hid hsucc
      clear hsucc hle hV
      by_cases hd : d < 10
      · rw [if_pos hd] at hat
        go_wp2_with fail
        go_roundg g'
        case measure => omega
        case rel => exact ⟨k + 1, by congr 1; omega, by congr 1; rw [hN.out]; omega, by omega, rfl⟩
      · rw [if_neg hd] at hat
        go_wp2_with fail
        go_roundg g'
        case measure => omega
        case rel => exact ⟨k + 1, by congr 1; omega, by congr 1; rw [hN.out]; omega, by omega, rfl⟩
    · have hke : k = ds.length := by omega
      subst hke
      have hsz3 : s.size = 1 + ds.length := HS.out.sz
      have hT : val b (ds.take ds.length) = val b ds := by rw [List.take_length]
      rw [hT]
      have hV := HV.out
      generalize hVd : val b ds = V at *
      generalize hz9 : 1 + ds.length = z at *
      clear hT
      go_wp2_with fail
      go_ret2
      exact ⟨by rw [hVd]; rfl, rfl⟩
end Go.Proofs.YtlhcgkocnckddaaDoor.dig
