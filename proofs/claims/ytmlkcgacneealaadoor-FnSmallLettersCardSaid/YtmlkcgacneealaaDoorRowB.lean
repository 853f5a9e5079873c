/- impl's seven kinds and kinds, for each length. Conditions: the listed variables as laid. -/
import Derived.Test.YtmlkcgacneealaaDoorAd2
set_option linter.unusedVariables false
set_option linter.unusedSimpArgs false
namespace Go.Proofs.YtmlkcgacneealaaDoor
open Go.RowKit

/-- Seven bools as cells. -/
def b7 (a0 a1 a2 a3 a4 a5 a6 : Bool) : Array Value := #[.bool a0, .bool a1, .bool a2, .bool a3, .bool a4, .bool a5, .bool a6]
theorem b7_size (a0 a1 a2 a3 a4 a5 a6 : Bool) : (b7 a0 a1 a2 a3 a4 a5 a6).size = 7 := id rfl
theorem okc_b7 (a0 a1 a2 a3 a4 a5 a6 : Bool) : okc (b7 a0 a1 a2 a3 a4 a5 a6) := by simp [okc, b7, Value.oneCell']
theorem zero57 (w : World) : (zeroValue 57).run Tryd.prog w = .ok (.agg (b7 false false false false false false false)) w := Tryd.zeroValue57 w
theorem build57 (a0 a1 a2 a3 a4 a5 a6 : Bool) (w : World) : (Instr.build 57 #[(0, .bool a0), (1, .bool a1), (2, .bool a2), (3, .bool a3), (4, .bool a4), (5, .bool a5), (6, .bool a6)]).run Tryd.prog w = .ok (.agg (b7 a0 a1 a2 a3 a4 a5 a6)) w := by kernel_rfl
theorem b7_set0 (a0 a1 a2 a3 a4 a5 a6 x : Bool) : (b7 a0 a1 a2 a3 a4 a5 a6).setIfInBounds 0 (.bool x) = b7 x a1 a2 a3 a4 a5 a6 := id rfl
theorem b7_set1 (a0 a1 a2 a3 a4 a5 a6 x : Bool) : (b7 a0 a1 a2 a3 a4 a5 a6).setIfInBounds 1 (.bool x) = b7 a0 x a2 a3 a4 a5 a6 := id rfl
theorem b7_set2 (a0 a1 a2 a3 a4 a5 a6 x : Bool) : (b7 a0 a1 a2 a3 a4 a5 a6).setIfInBounds 2 (.bool x) = b7 a0 a1 x a3 a4 a5 a6 := id rfl
theorem b7_set3 (a0 a1 a2 a3 a4 a5 a6 x : Bool) : (b7 a0 a1 a2 a3 a4 a5 a6).setIfInBounds 3 (.bool x) = b7 a0 a1 a2 x a4 a5 a6 := id rfl
theorem b7_set4 (a0 a1 a2 a3 a4 a5 a6 x : Bool) : (b7 a0 a1 a2 a3 a4 a5 a6).setIfInBounds 4 (.bool x) = b7 a0 a1 a2 a3 x a5 a6 := id rfl
theorem b7_set5 (a0 a1 a2 a3 a4 a5 a6 x : Bool) : (b7 a0 a1 a2 a3 a4 a5 a6).setIfInBounds 5 (.bool x) = b7 a0 a1 a2 a3 a4 x a6 := id rfl
theorem b7_set6 (a0 a1 a2 a3 a4 a5 a6 x : Bool) : (b7 a0 a1 a2 a3 a4 a5 a6).setIfInBounds 6 (.bool x) = b7 a0 a1 a2 a3 a4 a5 x := id rfl
attribute [go_sem 3000] b7_set0 b7_set1 b7_set2 b7_set3 b7_set4 b7_set5 b7_set6
attribute [go_sem] b7_size okc_b7
attribute [go_sem ↓] zero57 build57
attribute [go_sem 3000] zero57 build57
theorem infoSize57 : (Tryd.prog.info? 57).map (·.size) = some 7 := by kernel_rfl
theorem loadVarW57 (a : Addr) : loadVar 57 a = ldV 57 a := id rfl
theorem storeVarW57 (a : Addr) (v : Value) : storeVar 57 a v = stV 57 a v := id rfl
theorem ldA57 (w : World) (g : Nat) : ldA Tryd.prog 57 w ⟨g, 0, none⟩ = ldR Tryd.prog 57 7 w g (blk? w g) := by
  unfold ldA
  cases hb : blk? w g with
  | none => rfl
  | some c =>
    simp only [ldR]
    split
    · rename_i hs
      obtain ⟨t, ht⟩ := of_blk? hb
      exact run_loadVar_row w g t 57 c (0, 0) _ ht Tryd.underlying57 rfl (by rw [hs]; exact infoSize57)
    · rfl
theorem stA57 (w : World) (g : Nat) (c' : Array Value) : stA Tryd.prog 57 w ⟨g, 0, none⟩ (.agg c') = stR Tryd.prog 57 7 w g c' (blk? w g) := by
  unfold stA
  cases hb : blk? w g with
  | none => rfl
  | some c =>
    simp only [stR]
    split
    · rename_i hs
      obtain ⟨t, ht⟩ := of_blk? hb
      exact run_storeVar_row w g t 57 c c' ht (by rw [hs.2.1]; exact infoSize57) (by rw [hs.1, hs.2.1]) hs.2.2
    · rfl
attribute [go_sem ↓] loadVarW57 storeVarW57
attribute [go_sem 3000] loadVarW57 storeVarW57
attribute [go_sem] ldA57 stA57
theorem res57 {fn : Func} {p : Tmp} (h : fn.results = #[.cell p 57]) (tmps : Array Value) (w : World) (g : Nat) (c : Array Value) (hp : tmps.getD p undef = .pointer (some ⟨g, 0, none⟩)) (hb : blk? w g = some c) (hs : c.size = 7) :
    (results fn tmps).run Tryd.prog w = .ok (.agg c) w := by
  obtain ⟨t, ht⟩ := of_blk? hb
  exact results_cell_row h tmps w g t c (0, 0) _ hp ht Tryd.underlying57 rfl (by rw [hs]; exact infoSize57)
theorem isAgg4' : True := trivial
theorem cells4' : Tryd.prog.cellsOf 4 = 1 := by kernel_rfl
theorem info4' : (Tryd.prog.info? 4).isSome = true := by kernel_rfl
theorem part4 (c : Array Value) (k : Nat) (x : Bool) (h : c[k]? = some (.bool x)) (w : World) : (part 4 c (k * 1)).run Tryd.prog w = .ok (.bool x) w := by
  rw [Nat.mul_one]; simp [part, Tryd.isAgg4, h]
theorem eqBool4 (d : Nat) (x : Bool) (w : World) : (Op.equalIn (d + 1) 4 (.bool x) (.bool x)).run Tryd.prog w = .ok true w := by
  simp [Op.equalIn, run_underlying Tryd.underlying4]
theorem eqItems_same (d : Nat) (c : Array Value) (w : World) : ∀ is : List Nat, (∀ i ∈ is, ∃ x, c[i]? = some (.bool x)) → (Op.eqItems (d + 1) 4 1 c c is).run Tryd.prog w = .ok true w
  | [], _ => by simp [Op.eqItems]
  | i :: is, h => by
    obtain ⟨x, hx⟩ := h i (by simp)
    simp only [Op.eqItems, Sem.run_bind, part4 c i x hx w, Result.andThen_ok, eqBool4]
    simpa using eqItems_same d c w is (fun j hj => h j (by simp [hj]))
theorem b7_bool (a0 a1 a2 a3 a4 a5 a6 : Bool) (i : Nat) (h : i < 7) : ∃ x, (b7 a0 a1 a2 a3 a4 a5 a6)[i]? = some (.bool x) := by
  match i, h with
  | 0, _ => exact ⟨_, rfl⟩
  | 1, _ => exact ⟨_, rfl⟩
  | 2, _ => exact ⟨_, rfl⟩
  | 3, _ => exact ⟨_, rfl⟩
  | 4, _ => exact ⟨_, rfl⟩
  | 5, _ => exact ⟨_, rfl⟩
  | 6, _ => exact ⟨_, rfl⟩
  | i + 7, h => omega
theorem eql57_same (a0 a1 a2 a3 a4 a5 a6 : Bool) (w : World) : (binOp .eql 57 (.agg (b7 a0 a1 a2 a3 a4 a5 a6)) (.agg (b7 a0 a1 a2 a3 a4 a5 a6))).run Tryd.prog w = .ok (.bool true) w := by
  obtain ⟨i, hi⟩ := Option.isSome_iff_exists.1 info4'
  have h : (Op.equalIn 10000 57 (.agg (b7 a0 a1 a2 a3 a4 a5 a6)) (.agg (b7 a0 a1 a2 a3 a4 a5 a6))).run Tryd.prog w = .ok true w := by
    rw [run_equalIn_array w 9999 _ _ Tryd.underlying57 hi, cells4']
    exact eqItems_same 9998 _ w _ (fun i hi => b7_bool a0 a1 a2 a3 a4 a5 a6 i (by simpa using hi))
  simp only [binOp, Op.equal, Op.maxDepth]
  simp [h]
attribute [go_sem ↓] eql57_same
attribute [go_sem 3000] eql57_same
end Go.Proofs.YtmlkcgacneealaaDoor
