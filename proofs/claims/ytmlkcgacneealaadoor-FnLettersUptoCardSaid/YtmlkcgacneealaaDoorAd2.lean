/- More on blocks known whole: stores into single cells; slices made into arrays. No conditions. -/
import Derived.Test.YtmlkcgacneealaaDoorAd
set_option linter.unusedVariables false
set_option linter.unusedSimpArgs false
namespace Go.Proofs.YtmlkcgacneealaaDoor
open Go.RowKit
theorem blk?_setSame (w : World) (g i : Nat) (v : Value) : blk? (w.setCell ⟨g, i, none⟩ v) g = (blk? w g).map fun c => c.setIfInBounds i v := by
  cases hb : blk? w g with
  | some c =>
    rw [setCell_setRow hb, blk?_setRow hb]; rfl
  | none =>
    unfold blk? at hb ⊢
    simp only [World.setCell, Array.getElem?_modify, if_true]
    cases hw : w.heap[g]? with
    | none => rfl
    | some o =>
      rw [hw] at hb
      cases o with
      | cells c' t fr =>
        simp only [Option.map_some] at hb ⊢
        split at hb
        · cases hb
        · rename_i h1
          split
          · rename_i h2
            cases h2
            exact absurd rfl (h1 _ _)
          · rfl
      | _ => rfl
theorem blk?_setLt (w : World) (g i n : Nat) (v : Value) (h : n < g) : blk? (w.setCell ⟨g, i, none⟩ v) n = blk? w n := blk?_setOther w _ v n (by show n ≠ g; omega)
theorem blk?_setGt (w : World) (g i n : Nat) (v : Value) (h : g < n) : blk? (w.setCell ⟨g, i, none⟩ v) n = blk? w n := blk?_setOther w _ v n (by show n ≠ g; omega)
attribute [go_sem] blk?_setSame blk?_setLt blk?_setGt
theorem cell_setSame (w : World) (g i : Nat) (v : Value) : (w.setCell ⟨g, i, none⟩ v).cell? ⟨g, i, none⟩ = (w.cell? ⟨g, i, none⟩).map fun _ => v := by
  cases h : w.cell? ⟨g, i, none⟩ with
  | some u => rw [World.cell?_setCell_same' w _ v (by rw [h]; rfl)]; rfl
  | none =>
    unfold World.cell? at h ⊢
    simp only [World.setCell, Array.getElem?_modify, if_true] at h ⊢
    cases hw : w.heap[g]? with
    | none => rfl
    | some o =>
      rw [hw] at h
      cases o with
      | cells c t fr =>
        have h' : c[i]? = none := by simpa using h
        have : ¬ i < c.size := fun hh => by
          rw [Array.getElem?_eq_getElem hh] at h'; cases h'
        simp [this]
      | _ => rfl
/-- A cell of a row that was laid anew, once the block is known to be one. -/
def srC (w : World) (g : Nat) (c : Array Value) (i : Nat) : Option (Array Value) → Option Value
  | some _ => c[i]?
  | none => (w.setRow g c).cell? ⟨g, i, none⟩
theorem srC_some (w : World) (g : Nat) (c : Array Value) (i : Nat) (c0 : Array Value) : srC w g c i (some c0) = c[i]? := id rfl
theorem cell_setRow_same (w : World) (g i : Nat) (c : Array Value) : (w.setRow g c).cell? ⟨g, i, none⟩ = srC w g c i (blk? w g) := by
  cases h0 : blk? w g with
  | none => rfl
  | some c0 => exact blk?_cell (blk?_setRow h0 c) i
theorem cell_setRow_gt (w : World) (g n i : Nat) (c : Array Value) (h : g < n) : (w.setRow g c).cell? ⟨n, i, none⟩ = w.cell? ⟨n, i, none⟩ := by
  unfold World.cell?; simp only []; rw [setRow_other w g n c (by omega)]
attribute [go_sem 3000] cell_setSame cell_setRow_same cell_setRow_gt srC_some
theorem okc_nip (a b : Int) (p : Option Addr) : okc #[.int .u64 a, .int .u64 b, .pointer p] := by simp [okc, Value.oneCell']
attribute [go_sem] okc_nip
theorem zero78 (w : World) : (zeroValue 78).run Tryd.prog w = .ok (.agg #[.int .u64 0, .int .u64 0, .pointer none]) w := Tryd.zeroValue78 w
attribute [go_sem ↓] zero78
attribute [go_sem 3000] zero78
theorem loadVarW78 (a : Addr) : loadVar 78 a = ldV 78 a := id rfl
theorem storeVarW78 (a : Addr) (v : Value) : storeVar 78 a v = stV 78 a v := id rfl
theorem ldA78 (w : World) (g : Nat) : ldA Tryd.prog 78 w ⟨g, 0, none⟩ = ldR Tryd.prog 78 3 w g (blk? w g) := by
  unfold ldA
  cases hb : blk? w g with
  | none => rfl
  | some c =>
    simp only [ldR]
    split
    · rename_i hs
      obtain ⟨t, ht⟩ := of_blk? hb
      exact run_loadVar_row w g t 78 c (0, 0) _ ht Tryd.underlying78 rfl (by rw [hs]; exact infoSize78)
    · rfl
theorem stA78 (w : World) (g : Nat) (c' : Array Value) : stA Tryd.prog 78 w ⟨g, 0, none⟩ (.agg c') = stR Tryd.prog 78 3 w g c' (blk? w g) := by
  unfold stA
  cases hb : blk? w g with
  | none => rfl
  | some c =>
    simp only [stR]
    split
    · rename_i hs
      obtain ⟨t, ht⟩ := of_blk? hb
      exact run_storeVar_row w g t 78 c c' ht (by rw [hs.2.1]; exact infoSize78) (by rw [hs.1, hs.2.1]) hs.2.2
    · rfl
attribute [go_sem ↓] loadVarW78 storeVarW78
attribute [go_sem 3000] loadVarW78 storeVarW78
attribute [go_sem] ldA78 stA78
theorem rangeAt_of_blk {w : World} {g : Nat} {c : Array Value} (h : blk? w g = some c) : w.rangeAt g 0 c.toList := fun j v hv => by
  rw [Nat.zero_add, blk?_cell h]; simpa using hv
theorem info23_arr (b : Nat → Int) : (Tryd.prog.info? 23).map (·.size) = some (arr16 b).toList.length := infoSize23
theorem info22_arr (b : Nat → Int) : (Tryd.prog.info? 22).map (·.size) = some (arr4 b).toList.length := infoSize22
end Go.Proofs.YtmlkcgacneealaaDoor
