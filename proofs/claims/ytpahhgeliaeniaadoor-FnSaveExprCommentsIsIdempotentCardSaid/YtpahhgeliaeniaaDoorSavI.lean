/- What the map holds, in plain words. No program's code is walked. -/
import Derived.Test.YtpahhgeliaeniaaDoorSavE
namespace Go.Proofs.YtpahhgeliaeniaaDoor.sav
open Go.ChangeShapes Go.WideShapes Go.ChangeAt Go.RowKit Go.Mine Go.Maps
set_option linter.unusedVariables false
set_option linter.unusedSimpArgs false
set_option maxRecDepth 100000

def valOf : DataW Value → Value
  | .held v => v
  | _ => undef
theorem zero32' : (Tryd.prog.info? 32).map (·.zero) = some (some (.slice none 0 0)) := by kernel_rfl
theorem look_at {w : World} {m N : Nat} {D : DataW Value} (ho : Owns w m N D) {i : Int} (hk : keyOf Tryd.prog 28 (.agg #[.int .i32 i]) = some (kl i)) :
    ∃ v, (Instr.lookup 31 (.map (some m)) (.agg #[.int .i32 i]) true).run Tryd.prog w = .ok (.tuple #[v, .bool (has D (kl i))]) w ∧ .held v = D.atKey (kl i) (.held (.slice none 0 0)) := by
  obtain ⟨v, ps, h1, h2⟩ := World.ownsMap.look_ok ho lawK Tryd.underlying31 (run_zero_of w zero32') (zd := .held (.slice none 0 0)) (zp := []) rfl hk
  refine ⟨v, h1, ?_⟩
  unfold R at h2
  injection h2 with h2
  injection h2 with h2 _
theorem len_at {w : World} {m N : Nat} {D : DataW Value} (ho : Owns w m N D) (ty : TypeId) : (Builtin.len_ #[31] ty #[.map (some m)]).run Tryd.prog w = .ok (.int .i64 (Maps.size D)) w := World.ownsMap.len ho Tryd.underlying31 ty
theorem key0 : WideAt.IsKeyLit (kl 0) := lawK.key kl0
theorem key7 : WideAt.IsKeyLit (kl 7) := lawK.key kl7
noncomputable def D1 (v : Value) : DataW Value := (DataW.map []).put (kl 7) (.held v)
noncomputable def D2 (v u : Value) : DataW Value := (D1 v).put (kl 0) (.held u)
noncomputable def D3 (v u x : Value) : DataW Value := (D2 v u).put (kl 0) (.held x)
theorem t1 (v : Value) : Tidy (D1 v) := tidy_empty.put key7 _
theorem t2 (v u : Value) : Tidy (D2 v u) := (t1 v).put key0 _
theorem has10 (v : Value) : has (D1 v) (kl 0) = false := by
  unfold D1
  rw [has_put_other kl07]
  rfl
theorem has17 (v : Value) : has (D1 v) (kl 7) = true := has_put_same isMap_empty key7 _
theorem at10 (v : Value) (z : DataW Value) : (D1 v).atKey (kl 0) z = z := by
  unfold D1
  rw [atKey_put_other kl07]
  rfl
theorem at17 (v : Value) (z : DataW Value) : (D1 v).atKey (kl 7) z = .held v := atKey_put_same isMap_empty key7 _ _
theorem size1 (v : Value) : Maps.size (D1 v) = 1 := by
  unfold D1
  rw [size_put tidy_empty]
  rfl
theorem has20 (v u : Value) : has (D2 v u) (kl 0) = true := has_put_same (t1 v).isMap key0 _
theorem at20 (v u : Value) (z : DataW Value) : (D2 v u).atKey (kl 0) z = .held u := atKey_put_same (t1 v).isMap key0 _ _
theorem size2 (v u : Value) : Maps.size (D2 v u) = 2 := by
  unfold D2
  rw [size_put (t1 v), has10, size1]
  rfl
theorem has30 (v u x : Value) : has (D3 v u x) (kl 0) = true := has_put_same (t2 v u).isMap key0 _
theorem at30 (v u x : Value) (z : DataW Value) : (D3 v u x).atKey (kl 0) z = .held x := atKey_put_same (t2 v u).isMap key0 _ _
theorem has37 (v u x : Value) : has (D3 v u x) (kl 7) = true := by
  unfold D3 D2
  rw [has_put_other (Ne.symm kl07), has_put_other (Ne.symm kl07)]
  exact has17 v
theorem at37 (v u x : Value) (z : DataW Value) : (D3 v u x).atKey (kl 7) z = .held v := by
  unfold D3 D2
  rw [atKey_put_other (Ne.symm kl07), atKey_put_other (Ne.symm kl07)]
  exact at17 v z
theorem size3 (v u x : Value) : Maps.size (D3 v u x) = 2 := by
  unfold D3
  rw [size_put (t2 v u), has20, size2]
  rfl
theorem look10 {w : World} {m N : Nat} {v : Value} (ho : Owns w m N (D1 v)) : (Instr.lookup 31 (.map (some m)) (.agg #[.int .i32 0]) true).run Tryd.prog w = .ok (.tuple #[.slice none 0 0, .bool false]) w := by
  obtain ⟨x, h1, h2⟩ := look_at ho kl0
  rw [at10] at h2
  injection h2 with h2
  rw [h1, has10, h2]
theorem look17 {w : World} {m N : Nat} {v : Value} (ho : Owns w m N (D1 v)) : (Instr.lookup 31 (.map (some m)) (.agg #[.int .i32 7]) true).run Tryd.prog w = .ok (.tuple #[v, .bool true]) w := by
  obtain ⟨x, h1, h2⟩ := look_at ho kl7
  rw [at17] at h2
  injection h2 with h2
  rw [h1, has17, h2]
theorem look20 {w : World} {m N : Nat} {v u : Value} (ho : Owns w m N (D2 v u)) : (Instr.lookup 31 (.map (some m)) (.agg #[.int .i32 0]) true).run Tryd.prog w = .ok (.tuple #[u, .bool true]) w := by
  obtain ⟨x, h1, h2⟩ := look_at ho kl0
  rw [at20] at h2
  injection h2 with h2
  rw [h1, has20, h2]
theorem look30 {w : World} {m N : Nat} {v u y : Value} (ho : Owns w m N (D3 v u y)) : (Instr.lookup 31 (.map (some m)) (.agg #[.int .i32 0]) true).run Tryd.prog w = .ok (.tuple #[y, .bool true]) w := by
  obtain ⟨x, h1, h2⟩ := look_at ho kl0
  rw [at30] at h2
  injection h2 with h2
  rw [h1, has30, h2]
theorem look37 {w : World} {m N : Nat} {v u y : Value} (ho : Owns w m N (D3 v u y)) : (Instr.lookup 31 (.map (some m)) (.agg #[.int .i32 7]) true).run Tryd.prog w = .ok (.tuple #[v, .bool true]) w := by
  obtain ⟨x, h1, h2⟩ := look_at ho kl7
  rw [at37] at h2
  injection h2 with h2
  rw [h1, has37, h2]
theorem len1 {w : World} {m N : Nat} {v : Value} (ho : Owns w m N (D1 v)) (ty : TypeId) : (Builtin.len_ #[31] ty #[.map (some m)]).run Tryd.prog w = .ok (.int .i64 1) w := by
  rw [len_at ho, size1]
  rfl
theorem len2 {w : World} {m N : Nat} {v u : Value} (ho : Owns w m N (D2 v u)) (ty : TypeId) : (Builtin.len_ #[31] ty #[.map (some m)]).run Tryd.prog w = .ok (.int .i64 2) w := by
  rw [len_at ho, size2]
  rfl
theorem len3 {w : World} {m N : Nat} {v u y : Value} (ho : Owns w m N (D3 v u y)) (ty : TypeId) : (Builtin.len_ #[31] ty #[.map (some m)]).run Tryd.prog w = .ok (.int .i64 2) w := by
  rw [len_at ho, size3]
  rfl
end Go.Proofs.YtpahhgeliaeniaaDoor.sav
