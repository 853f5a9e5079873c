/- beside, Next and Prev of the reference. No conditions but on the bytes. -/
import Derived.Test.YtmlkcgacneealaaDoorFromBits
import Derived.Test.YtmlkcgacneealaaDoorMeth1
set_option linter.unusedVariables false
set_option linter.unusedSimpArgs false
namespace Go.Proofs.YtmlkcgacneealaaDoor
open Go.RowKit

/-- The last of the first m bits that is not 'last'. -/
def lastIdx (f : Nat → Bool) (last : Bool) : Nat → Option Nat
  | 0 => none
  | m + 1 => if f m = last then lastIdx f last m else some m
/-- The bits from p on turned. -/
def fl (f : Nat → Bool) (p : Nat) : Nat → Bool := fun j => if j < p then f j else !f j
/-- What beside returns. -/
def bres (n : Int) (m : Nat) (f : Nat → Bool) (z : ByteArray) (last : Bool) : Array Value := match lastIdx f last m with
  | some p => adr n (pb (fl f p) m) z
  | none => adr 0 zb ⟨#[]⟩
theorem bres_some {n : Int} {m : Nat} {f : Nat → Bool} {z : ByteArray} {last : Bool} {p : Nat} (h : lastIdx f last m = some p) : bres n m f z last = adr n (pb (fl f p) m) z := by unfold bres; rw [h]
theorem bres_none {n : Int} {m : Nat} {f : Nat → Bool} {z : ByteArray} {last : Bool} (h : lastIdx f last m = none) : bres n m f z last = adr 0 zb ⟨#[]⟩ := by unfold bres; rw [h]
theorem bres_size (n : Int) (m : Nat) (f : Nat → Bool) (z : ByteArray) (last : Bool) : (bres n m f z last).size = 18 := by
  unfold bres; split <;> rfl
theorem okc_bres (n : Int) (m : Nat) (f : Nat → Bool) (z : ByteArray) (last : Bool) : okc (bres n m f z last) := by
  unfold bres; split <;> exact okc_adr _ _ _
attribute [go_sem] bres_size okc_bres
theorem fl_set (f : Nat → Bool) (p : Nat) (j : Nat) : (if j = p then !f p else fl f (p + 1) j) = fl f p j := by
  unfold fl
  by_cases h : j = p
  · subst h; simp
  · rw [if_neg h]
    by_cases h2 : j < p
    · rw [if_pos h2, if_pos (by omega)]
    · rw [if_neg h2, if_neg (by omega)]
theorem pre4_pb (f : Nat → Bool) : pre 4 (pb f 32) = pb f 32 := by
  funext i; unfold pre; split
  · rfl
  · unfold pb pbyte; simp only [bv_msk]; simp (disch := omega) only [if_neg]; rfl
theorem cell_setMid (w : World) (g i j : Nat) (v u : Value) (h : w.cell? ⟨g, j, none⟩ = some u) (hi : w.cell? ⟨g, i, none⟩ ≠ none) : (w.setCell ⟨g, i, none⟩ v).cell? ⟨g, j, none⟩ = some (if j = i then v else u) := by
  by_cases e : j = i
  · subst e; rw [cell_setSame, h]; simp
  · rw [World.cell?_setCell_other _ _ _ _ (fun c => e (by cases c; rfl)), h, if_neg e]
theorem frozen_setCell (w : World) (a b : Addr) (v : Value) : (w.setCell a v).frozen? b = w.frozen? b := by
  unfold World.frozen?
  by_cases h : b.block = a.block
  · simp only [World.setCell, Array.getElem?_modify, h, if_true]
    cases w.heap[a.block]? with
    | none => rfl
    | some o => cases o <;> rfl
  · rw [heap_setCell_other w a b.block v h]
set_option maxHeartbeats 4000000 in
set_option maxRecDepth 100000 in
theorem beside_4_true (b : Nat → Int) (hb : Bt b) (z : ByteArray) (w : World) :
    Calls Tryd.prog 83 #[.agg (adr 4 b z), .bool true] w fun e w' => e = .returned (.agg (bres 4 32 (bt b) ⟨#[]⟩ true)) ∧ Below w.heap.size w w' := by
  have HB := Lib.hid hb
  clear hb
  go_enter Tryd.func83, Tryd.ntmps83
  go_wp2_with (first
    | (go_at_call 108; (with_reducible refine (sbits_4 _ HB.out _ _).mono ?_); rintro e w1 ⟨v8, rfl, hown8, hb1⟩; have hk1 := blk?_below hb1; have hB1 := below_via (w := w) (by repeat' (first | (with_reducible exact Below.refl _ _) | (with_reducible assumption) | (with_reducible refine Below.alloc ?_ ?_ _) | (with_reducible refine Below.drew ?_) | (with_reducible refine below_drewN ?_ _) | (with_reducible refine Below.setCell ?_ ?_ _) | (with_reducible refine below_setRow' ?_ ?_ _) | go_size)) hb1; have hL0 : w.heap.size + 1 < w1.heap.size := (by have hS0 := hb1.size; (try simp at hS0); omega); clear hb1; obtain ⟨g, cap8, rfl, hg0, hg1, hcap, hmax, hcell8, hfz8⟩ := owns_cells hown8 (by omega); clear hown8))
  have hkA : blk? w1 w.heap.size = some (adr 4 b z) := by rw [hk1 _ (by simp; omega)]; go_simp
  have hkB : blk? w1 (w.heap.size + 1) = some (adr 0 zb ⟨#[]⟩) := by rw [hk1 _ (by simp)]; go_simp
  have hg2 : w.heap.size + 1 < g := by simp at hg0; omega
  have HC8 := Lib.hid hcell8
  have HF8 := Lib.hid hfz8
  clear hcell8 hfz8 hk1 hg0
  go_loopw [6] (fun q wr => ∃ p : Nat, p ≤ 32 ∧ q = .int .i64 ((p : Int) - 1) ∧ (∀ j, j < 32 → wr.cell? ⟨g, j, none⟩ = some (.bool (fl (bt b) p j))) ∧ (∀ j, wr.frozen? ⟨g, j, none⟩ = false) ∧ blk? wr w.heap.size = some (adr 4 b z) ∧ blk? wr (w.heap.size + 1) = some (adr 0 zb ⟨#[]⟩) ∧ Below w.heap.size w wr ∧ lastIdx (bt b) true 32 = lastIdx (bt b) true p ∧ g < wr.heap.size) (fun q _ => (intOf q + 1).toNat)
  case atStart => exact ⟨32, by omega, rfl, fun j hj => by rw [HC8.out j hj, btl_get b 32 j hj]; simp [fl, hj], HF8.out, hkA, hkB, hB1, rfl, hg1⟩
  case round =>
    clear hkA hkB hB1 hL0 HC8 HF8
    obtain ⟨p, hp, rfl, hcs, hfs, hkA, hkB, hbel, hli, hgs⟩ := hrel
    have HCS := Lib.hid hcs
    have HFS := Lib.hid hfs
    have HLI := Lib.hid hli
    clear hcs hfs hli
    have hsz := hbel.size
    match p, hp, HCS, HLI with
    | 0, hp, HCS, HLI =>
      go_wp2
      refine bodyPost_ret (res25 Tryd.results83 _ _ (w.heap.size + 1) (adr 0 zb ⟨#[]⟩) rfl ?_ rfl) rfl ⟨by rw [bres_none]; rw [HLI.out]; rfl, (by repeat' (first | (with_reducible exact Below.refl _ _) | (with_reducible assumption) | (with_reducible refine Below.alloc ?_ ?_ _) | (with_reducible refine Below.drew ?_) | (with_reducible refine below_drewN ?_ _) | (with_reducible refine Below.setCell ?_ ?_ _) | (with_reducible refine below_setRow' ?_ ?_ _) | go_size))⟩
      go_simp
    | p + 1, hp, HCS, HLI =>
      have hcell : wr.cell? ⟨g, p, none⟩ = some (.bool (bt b p)) := by rw [HCS.out p (by omega)]; simp [fl]
      have hfz := HFS.out p
      have hi0 : (0 : Int) ≤ (p : Int) := by omega
      have hi1 : (p : Int) < 32 := by omega
      have ei : ((p + 1 : Nat) : Int) - 1 = (p : Int) := by omega
      rw [ei]
      have hcs' : ∀ j, j < 32 → (wr.setCell ⟨g, p, none⟩ (.bool (!bt b p))).cell? ⟨g, j, none⟩ = some (.bool (fl (bt b) p j)) := fun j hj => by
        rw [cell_setMid _ _ _ _ _ _ (HCS.out j hj) (by rw [hcell]; simp), ← fl_set (bt b) p j]
        split <;> rfl
      have HCS' := Lib.hid hcs'
      clear hcs' ei
      cases hf : bt b p
      · rw [hf] at hcell HCS'
        have HL2 : Hid (lastIdx (bt b) true 32 = some p) := Lib.hid (by rw [HLI.out, lastIdx, if_neg (by rw [hf]; simp)])
        have hkA' : blk? (wr.setCell ⟨g, p, none⟩ (.bool true)) w.heap.size = some (adr 4 b z) := by rw [blk?_setLt _ _ _ _ _ (by omega)]; exact hkA
        have hkB' : blk? (wr.setCell ⟨g, p, none⟩ (.bool true)) (w.heap.size + 1) = some (adr 0 zb ⟨#[]⟩) := by rw [blk?_setLt _ _ _ _ _ (by omega)]; exact hkB
        have hbel' : Below w.heap.size w (wr.setCell ⟨g, p, none⟩ (.bool true)) := (by repeat' (first | (with_reducible exact Below.refl _ _) | (with_reducible assumption) | (with_reducible refine Below.alloc ?_ ?_ _) | (with_reducible refine Below.drew ?_) | (with_reducible refine below_drewN ?_ _) | (with_reducible refine Below.setCell ?_ ?_ _) | (with_reducible refine below_setRow' ?_ ?_ _) | go_size))
        have hgs' : g < (wr.setCell ⟨g, p, none⟩ (.bool true)).heap.size := by simpa using hgs
        have hsz' : w.heap.size + 1 < (wr.setCell ⟨g, p, none⟩ (.bool true)).heap.size := by omega
        have HCS2 := Lib.hid HCS'.out
        have hsA : w.heap.size < wr.heap.size := by omega
        have hsB : w.heap.size + 1 < wr.heap.size := by omega
        have hgA : w.heap.size < g := by omega
        clear hkA hkB HCS HCS'
        go_wp2_with fail
        clear hcell hfz
        go_region_held3 (fun w' => blk? w' (w.heap.size) = some (adr 4 b z)) (first | go_simp) (first
    | (go_at_call 137; (with_reducible refine (fromBits_4 (fl (bt b) p) _ _ _ ?_ ?_).mono ?_); (simpa using hgs); (intro j hj; exact HCS2.out j hj); rintro e w1 ⟨rfl, hb1⟩; have hk1 := blk?_below hb1; (try simp only [size_drew', size_drewN'] at hk1); have hB1 := below_via (w := w) (by repeat' (first | (with_reducible exact Below.refl _ _) | (with_reducible assumption) | (with_reducible refine Below.alloc ?_ ?_ _) | (with_reducible refine Below.drew ?_) | (with_reducible refine below_drewN ?_ _) | (with_reducible refine Below.setCell ?_ ?_ _) | (with_reducible refine below_setRow' ?_ ?_ _) | go_size)) hb1; have hL0 : w.heap.size < w1.heap.size := (by have hS0 := hb1.size; (try simp at hS0); omega); have hL1 : w.heap.size + 1 < w1.heap.size := (by have hS0 := hb1.size; (try simp at hS0); omega); have hLe : w.heap.size ≤ w1.heap.size := hB1.size; clear hb1)
    | (go_at_call 37; (with_reducible refine (sZone_4 _ _ _).mono ?_); rintro e w1 ⟨rfl, hb1⟩; have hk1 := blk?_below hb1; (try simp only [size_drew', size_drewN'] at hk1); have hB1 := below_via (w := w) (by repeat' (first | (with_reducible exact Below.refl _ _) | (with_reducible assumption) | (with_reducible refine Below.alloc ?_ ?_ _) | (with_reducible refine Below.drew ?_) | (with_reducible refine below_drewN ?_ _) | (with_reducible refine Below.setCell ?_ ?_ _) | (with_reducible refine below_setRow' ?_ ?_ _) | go_size)) hb1; have hL0 : w.heap.size < w1.heap.size := (by have hS0 := hb1.size; (try simp at hS0); omega); have hL1 : w.heap.size + 1 < w1.heap.size := (by have hS0 := hb1.size; (try simp at hS0); omega); have hLe : w.heap.size ≤ w1.heap.size := hB1.size; clear hb1)
    | (go_at_call 92; (with_reducible refine (sWithZone_4 _ _ _ _).mono ?_); rintro e w1 ⟨rfl, hb1⟩; have hk1 := blk?_below hb1; (try simp only [size_drew', size_drewN'] at hk1); have hB1 := below_via (w := w) (by repeat' (first | (with_reducible exact Below.refl _ _) | (with_reducible assumption) | (with_reducible refine Below.alloc ?_ ?_ _) | (with_reducible refine Below.drew ?_) | (with_reducible refine below_drewN ?_ _) | (with_reducible refine Below.setCell ?_ ?_ _) | (with_reducible refine below_setRow' ?_ ?_ _) | go_size)) hb1; have hL0 : w.heap.size < w1.heap.size := (by have hS0 := hb1.size; (try simp at hS0); omega); have hL1 : w.heap.size + 1 < w1.heap.size := (by have hS0 := hb1.size; (try simp at hS0); omega); have hLe : w.heap.size ≤ w1.heap.size := hB1.size; clear hb1))
        all_goals
          go_wp2
          refine bodyPost_ret (res25 Tryd.results83 _ _ (w.heap.size + 1) (adr 4 (pb (fl (bt b) p) 32) ⟨#[]⟩) rfl ?_ rfl) rfl ⟨by rw [bres_some HL2.out], (by repeat' (first | (with_reducible exact Below.refl _ _) | (with_reducible assumption) | (with_reducible refine Below.alloc ?_ ?_ _) | (with_reducible refine Below.drew ?_) | (with_reducible refine below_drewN ?_ _) | (with_reducible refine Below.setCell ?_ ?_ _) | (with_reducible refine below_setRow' ?_ ?_ _) | go_size))⟩
          go_simp; rw [pre4_pb]
      · rw [hf] at hcell HCS'
        have hkA' : blk? (wr.setCell ⟨g, p, none⟩ (.bool false)) w.heap.size = some (adr 4 b z) := by rw [blk?_setLt _ _ _ _ _ (by omega)]; exact hkA
        have hkB' : blk? (wr.setCell ⟨g, p, none⟩ (.bool false)) (w.heap.size + 1) = some (adr 0 zb ⟨#[]⟩) := by rw [blk?_setLt _ _ _ _ _ (by omega)]; exact hkB
        have HL2 : Hid (lastIdx (bt b) true 32 = lastIdx (bt b) true p) := Lib.hid (by rw [HLI.out, lastIdx, if_pos hf])
        go_wp2
        go_roundw
        case rel => exact ⟨p, by omega, rfl, HCS'.out, fun j => by rw [frozen_setCell]; exact HFS.out j, hkA', hkB', (by repeat' (first | (with_reducible exact Below.refl _ _) | (with_reducible assumption) | (with_reducible refine Below.alloc ?_ ?_ _) | (with_reducible refine Below.drew ?_) | (with_reducible refine below_drewN ?_ _) | (with_reducible refine Below.setCell ?_ ?_ _) | (with_reducible refine below_setRow' ?_ ?_ _) | go_size)), HL2.out, by simpa using hgs⟩
        case measure => simp [intOf]
set_option maxHeartbeats 4000000 in
set_option maxRecDepth 100000 in
theorem beside_4_false (b : Nat → Int) (hb : Bt b) (z : ByteArray) (w : World) :
    Calls Tryd.prog 83 #[.agg (adr 4 b z), .bool false] w fun e w' => e = .returned (.agg (bres 4 32 (bt b) ⟨#[]⟩ false)) ∧ Below w.heap.size w w' := by
  have HB := Lib.hid hb
  clear hb
  go_enter Tryd.func83, Tryd.ntmps83
  go_wp2_with (first
    | (go_at_call 108; (with_reducible refine (sbits_4 _ HB.out _ _).mono ?_); rintro e w1 ⟨v8, rfl, hown8, hb1⟩; have hk1 := blk?_below hb1; have hB1 := below_via (w := w) (by repeat' (first | (with_reducible exact Below.refl _ _) | (with_reducible assumption) | (with_reducible refine Below.alloc ?_ ?_ _) | (with_reducible refine Below.drew ?_) | (with_reducible refine below_drewN ?_ _) | (with_reducible refine Below.setCell ?_ ?_ _) | (with_reducible refine below_setRow' ?_ ?_ _) | go_size)) hb1; have hL0 : w.heap.size + 1 < w1.heap.size := (by have hS0 := hb1.size; (try simp at hS0); omega); clear hb1; obtain ⟨g, cap8, rfl, hg0, hg1, hcap, hmax, hcell8, hfz8⟩ := owns_cells hown8 (by omega); clear hown8))
  have hkA : blk? w1 w.heap.size = some (adr 4 b z) := by rw [hk1 _ (by simp; omega)]; go_simp
  have hkB : blk? w1 (w.heap.size + 1) = some (adr 0 zb ⟨#[]⟩) := by rw [hk1 _ (by simp)]; go_simp
  have hg2 : w.heap.size + 1 < g := by simp at hg0; omega
  have HC8 := Lib.hid hcell8
  have HF8 := Lib.hid hfz8
  clear hcell8 hfz8 hk1 hg0
  go_loopw [6] (fun q wr => ∃ p : Nat, p ≤ 32 ∧ q = .int .i64 ((p : Int) - 1) ∧ (∀ j, j < 32 → wr.cell? ⟨g, j, none⟩ = some (.bool (fl (bt b) p j))) ∧ (∀ j, wr.frozen? ⟨g, j, none⟩ = false) ∧ blk? wr w.heap.size = some (adr 4 b z) ∧ blk? wr (w.heap.size + 1) = some (adr 0 zb ⟨#[]⟩) ∧ Below w.heap.size w wr ∧ lastIdx (bt b) false 32 = lastIdx (bt b) false p ∧ g < wr.heap.size) (fun q _ => (intOf q + 1).toNat)
  case atStart => exact ⟨32, by omega, rfl, fun j hj => by rw [HC8.out j hj, btl_get b 32 j hj]; simp [fl, hj], HF8.out, hkA, hkB, hB1, rfl, hg1⟩
  case round =>
    clear hkA hkB hB1 hL0 HC8 HF8
    obtain ⟨p, hp, rfl, hcs, hfs, hkA, hkB, hbel, hli, hgs⟩ := hrel
    have HCS := Lib.hid hcs
    have HFS := Lib.hid hfs
    have HLI := Lib.hid hli
    clear hcs hfs hli
    have hsz := hbel.size
    match p, hp, HCS, HLI with
    | 0, hp, HCS, HLI =>
      go_wp2
      refine bodyPost_ret (res25 Tryd.results83 _ _ (w.heap.size + 1) (adr 0 zb ⟨#[]⟩) rfl ?_ rfl) rfl ⟨by rw [bres_none]; rw [HLI.out]; rfl, (by repeat' (first | (with_reducible exact Below.refl _ _) | (with_reducible assumption) | (with_reducible refine Below.alloc ?_ ?_ _) | (with_reducible refine Below.drew ?_) | (with_reducible refine below_drewN ?_ _) | (with_reducible refine Below.setCell ?_ ?_ _) | (with_reducible refine below_setRow' ?_ ?_ _) | go_size))⟩
      go_simp
    | p + 1, hp, HCS, HLI =>
      have hcell : wr.cell? ⟨g, p, none⟩ = some (.bool (bt b p)) := by rw [HCS.out p (by omega)]; simp [fl]
      have hfz := HFS.out p
      have hi0 : (0 : Int) ≤ (p : Int) := by omega
      have hi1 : (p : Int) < 32 := by omega
      have ei : ((p + 1 : Nat) : Int) - 1 = (p : Int) := by omega
      rw [ei]
      have hcs' : ∀ j, j < 32 → (wr.setCell ⟨g, p, none⟩ (.bool (!bt b p))).cell? ⟨g, j, none⟩ = some (.bool (fl (bt b) p j)) := fun j hj => by
        rw [cell_setMid _ _ _ _ _ _ (HCS.out j hj) (by rw [hcell]; simp), ← fl_set (bt b) p j]
        split <;> rfl
      have HCS' := Lib.hid hcs'
      clear hcs' ei
      cases hf : bt b p
      · rw [hf] at hcell HCS'
        have hkA' : blk? (wr.setCell ⟨g, p, none⟩ (.bool true)) w.heap.size = some (adr 4 b z) := by rw [blk?_setLt _ _ _ _ _ (by omega)]; exact hkA
        have hkB' : blk? (wr.setCell ⟨g, p, none⟩ (.bool true)) (w.heap.size + 1) = some (adr 0 zb ⟨#[]⟩) := by rw [blk?_setLt _ _ _ _ _ (by omega)]; exact hkB
        have HL2 : Hid (lastIdx (bt b) false 32 = lastIdx (bt b) false p) := Lib.hid (by rw [HLI.out, lastIdx, if_pos hf])
        go_wp2
        go_roundw
        case rel => exact ⟨p, by omega, rfl, HCS'.out, fun j => by rw [frozen_setCell]; exact HFS.out j, hkA', hkB', (by repeat' (first | (with_reducible exact Below.refl _ _) | (with_reducible assumption) | (with_reducible refine Below.alloc ?_ ?_ _) | (with_reducible refine Below.drew ?_) | (with_reducible refine below_drewN ?_ _) | (with_reducible refine Below.setCell ?_ ?_ _) | (with_reducible refine below_setRow' ?_ ?_ _) | go_size)), HL2.out, by simpa using hgs⟩
        case measure => simp [intOf]
      · rw [hf] at hcell HCS'
        have HL2 : Hid (lastIdx (bt b) false 32 = some p) := Lib.hid (by rw [HLI.out, lastIdx, if_neg (by rw [hf]; simp)])
        have hkA' : blk? (wr.setCell ⟨g, p, none⟩ (.bool false)) w.heap.size = some (adr 4 b z) := by rw [blk?_setLt _ _ _ _ _ (by omega)]; exact hkA
        have hkB' : blk? (wr.setCell ⟨g, p, none⟩ (.bool false)) (w.heap.size + 1) = some (adr 0 zb ⟨#[]⟩) := by rw [blk?_setLt _ _ _ _ _ (by omega)]; exact hkB
        have hbel' : Below w.heap.size w (wr.setCell ⟨g, p, none⟩ (.bool false)) := (by repeat' (first | (with_reducible exact Below.refl _ _) | (with_reducible assumption) | (with_reducible refine Below.alloc ?_ ?_ _) | (with_reducible refine Below.drew ?_) | (with_reducible refine below_drewN ?_ _) | (with_reducible refine Below.setCell ?_ ?_ _) | (with_reducible refine below_setRow' ?_ ?_ _) | go_size))
        have hgs' : g < (wr.setCell ⟨g, p, none⟩ (.bool false)).heap.size := by simpa using hgs
        have hsz' : w.heap.size + 1 < (wr.setCell ⟨g, p, none⟩ (.bool false)).heap.size := by omega
        have HCS2 := Lib.hid HCS'.out
        have hsA : w.heap.size < wr.heap.size := by omega
        have hsB : w.heap.size + 1 < wr.heap.size := by omega
        have hgA : w.heap.size < g := by omega
        clear hkA hkB HCS HCS'
        go_wp2_with fail
        clear hcell hfz
        go_region_held3 (fun w' => blk? w' (w.heap.size) = some (adr 4 b z)) (first | go_simp) (first
    | (go_at_call 137; (with_reducible refine (fromBits_4 (fl (bt b) p) _ _ _ ?_ ?_).mono ?_); (simpa using hgs); (intro j hj; exact HCS2.out j hj); rintro e w1 ⟨rfl, hb1⟩; have hk1 := blk?_below hb1; (try simp only [size_drew', size_drewN'] at hk1); have hB1 := below_via (w := w) (by repeat' (first | (with_reducible exact Below.refl _ _) | (with_reducible assumption) | (with_reducible refine Below.alloc ?_ ?_ _) | (with_reducible refine Below.drew ?_) | (with_reducible refine below_drewN ?_ _) | (with_reducible refine Below.setCell ?_ ?_ _) | (with_reducible refine below_setRow' ?_ ?_ _) | go_size)) hb1; have hL0 : w.heap.size < w1.heap.size := (by have hS0 := hb1.size; (try simp at hS0); omega); have hL1 : w.heap.size + 1 < w1.heap.size := (by have hS0 := hb1.size; (try simp at hS0); omega); have hLe : w.heap.size ≤ w1.heap.size := hB1.size; clear hb1)
    | (go_at_call 37; (with_reducible refine (sZone_4 _ _ _).mono ?_); rintro e w1 ⟨rfl, hb1⟩; have hk1 := blk?_below hb1; (try simp only [size_drew', size_drewN'] at hk1); have hB1 := below_via (w := w) (by repeat' (first | (with_reducible exact Below.refl _ _) | (with_reducible assumption) | (with_reducible refine Below.alloc ?_ ?_ _) | (with_reducible refine Below.drew ?_) | (with_reducible refine below_drewN ?_ _) | (with_reducible refine Below.setCell ?_ ?_ _) | (with_reducible refine below_setRow' ?_ ?_ _) | go_size)) hb1; have hL0 : w.heap.size < w1.heap.size := (by have hS0 := hb1.size; (try simp at hS0); omega); have hL1 : w.heap.size + 1 < w1.heap.size := (by have hS0 := hb1.size; (try simp at hS0); omega); have hLe : w.heap.size ≤ w1.heap.size := hB1.size; clear hb1)
    | (go_at_call 92; (with_reducible refine (sWithZone_4 _ _ _ _).mono ?_); rintro e w1 ⟨rfl, hb1⟩; have hk1 := blk?_below hb1; (try simp only [size_drew', size_drewN'] at hk1); have hB1 := below_via (w := w) (by repeat' (first | (with_reducible exact Below.refl _ _) | (with_reducible assumption) | (with_reducible refine Below.alloc ?_ ?_ _) | (with_reducible refine Below.drew ?_) | (with_reducible refine below_drewN ?_ _) | (with_reducible refine Below.setCell ?_ ?_ _) | (with_reducible refine below_setRow' ?_ ?_ _) | go_size)) hb1; have hL0 : w.heap.size < w1.heap.size := (by have hS0 := hb1.size; (try simp at hS0); omega); have hL1 : w.heap.size + 1 < w1.heap.size := (by have hS0 := hb1.size; (try simp at hS0); omega); have hLe : w.heap.size ≤ w1.heap.size := hB1.size; clear hb1))
        all_goals
          go_wp2
          refine bodyPost_ret (res25 Tryd.results83 _ _ (w.heap.size + 1) (adr 4 (pb (fl (bt b) p) 32) ⟨#[]⟩) rfl ?_ rfl) rfl ⟨by rw [bres_some HL2.out], (by repeat' (first | (with_reducible exact Below.refl _ _) | (with_reducible assumption) | (with_reducible refine Below.alloc ?_ ?_ _) | (with_reducible refine Below.drew ?_) | (with_reducible refine below_drewN ?_ _) | (with_reducible refine Below.setCell ?_ ?_ _) | (with_reducible refine below_setRow' ?_ ?_ _) | go_size))⟩
          go_simp; rw [pre4_pb]
set_option maxHeartbeats 4000000 in
set_option maxRecDepth 100000 in
theorem beside_16_true (b : Nat → Int) (hb : Bt b) (z : ByteArray) (w : World) :
    Calls Tryd.prog 83 #[.agg (adr 16 b z), .bool true] w fun e w' => e = .returned (.agg (bres 16 128 (bt b) z true)) ∧ Below w.heap.size w w' := by
  have HB := Lib.hid hb
  clear hb
  go_enter Tryd.func83, Tryd.ntmps83
  go_wp2_with (first
    | (go_at_call 108; (with_reducible refine (sbits_16 _ HB.out _ _).mono ?_); rintro e w1 ⟨v8, rfl, hown8, hb1⟩; have hk1 := blk?_below hb1; have hB1 := below_via (w := w) (by repeat' (first | (with_reducible exact Below.refl _ _) | (with_reducible assumption) | (with_reducible refine Below.alloc ?_ ?_ _) | (with_reducible refine Below.drew ?_) | (with_reducible refine below_drewN ?_ _) | (with_reducible refine Below.setCell ?_ ?_ _) | (with_reducible refine below_setRow' ?_ ?_ _) | go_size)) hb1; have hL0 : w.heap.size + 1 < w1.heap.size := (by have hS0 := hb1.size; (try simp at hS0); omega); clear hb1; obtain ⟨g, cap8, rfl, hg0, hg1, hcap, hmax, hcell8, hfz8⟩ := owns_cells hown8 (by omega); clear hown8))
  have hkA : blk? w1 w.heap.size = some (adr 16 b z) := by rw [hk1 _ (by simp; omega)]; go_simp
  have hkB : blk? w1 (w.heap.size + 1) = some (adr 0 zb ⟨#[]⟩) := by rw [hk1 _ (by simp)]; go_simp
  have hg2 : w.heap.size + 1 < g := by simp at hg0; omega
  have HC8 := Lib.hid hcell8
  have HF8 := Lib.hid hfz8
  clear hcell8 hfz8 hk1 hg0
  go_loopw [6] (fun q wr => ∃ p : Nat, p ≤ 128 ∧ q = .int .i64 ((p : Int) - 1) ∧ (∀ j, j < 128 → wr.cell? ⟨g, j, none⟩ = some (.bool (fl (bt b) p j))) ∧ (∀ j, wr.frozen? ⟨g, j, none⟩ = false) ∧ blk? wr w.heap.size = some (adr 16 b z) ∧ blk? wr (w.heap.size + 1) = some (adr 0 zb ⟨#[]⟩) ∧ Below w.heap.size w wr ∧ lastIdx (bt b) true 128 = lastIdx (bt b) true p ∧ g < wr.heap.size) (fun q _ => (intOf q + 1).toNat)
  case atStart => exact ⟨128, by omega, rfl, fun j hj => by rw [HC8.out j hj, btl_get b 128 j hj]; simp [fl, hj], HF8.out, hkA, hkB, hB1, rfl, hg1⟩
  case round =>
    clear hkA hkB hB1 hL0 HC8 HF8
    obtain ⟨p, hp, rfl, hcs, hfs, hkA, hkB, hbel, hli, hgs⟩ := hrel
    have HCS := Lib.hid hcs
    have HFS := Lib.hid hfs
    have HLI := Lib.hid hli
    clear hcs hfs hli
    have hsz := hbel.size
    match p, hp, HCS, HLI with
    | 0, hp, HCS, HLI =>
      go_wp2
      refine bodyPost_ret (res25 Tryd.results83 _ _ (w.heap.size + 1) (adr 0 zb ⟨#[]⟩) rfl ?_ rfl) rfl ⟨by rw [bres_none]; rw [HLI.out]; rfl, (by repeat' (first | (with_reducible exact Below.refl _ _) | (with_reducible assumption) | (with_reducible refine Below.alloc ?_ ?_ _) | (with_reducible refine Below.drew ?_) | (with_reducible refine below_drewN ?_ _) | (with_reducible refine Below.setCell ?_ ?_ _) | (with_reducible refine below_setRow' ?_ ?_ _) | go_size))⟩
      go_simp
    | p + 1, hp, HCS, HLI =>
      have hcell : wr.cell? ⟨g, p, none⟩ = some (.bool (bt b p)) := by rw [HCS.out p (by omega)]; simp [fl]
      have hfz := HFS.out p
      have hi0 : (0 : Int) ≤ (p : Int) := by omega
      have hi1 : (p : Int) < 128 := by omega
      have ei : ((p + 1 : Nat) : Int) - 1 = (p : Int) := by omega
      rw [ei]
      have hcs' : ∀ j, j < 128 → (wr.setCell ⟨g, p, none⟩ (.bool (!bt b p))).cell? ⟨g, j, none⟩ = some (.bool (fl (bt b) p j)) := fun j hj => by
        rw [cell_setMid _ _ _ _ _ _ (HCS.out j hj) (by rw [hcell]; simp), ← fl_set (bt b) p j]
        split <;> rfl
      have HCS' := Lib.hid hcs'
      clear hcs' ei
      cases hf : bt b p
      · rw [hf] at hcell HCS'
        have HL2 : Hid (lastIdx (bt b) true 128 = some p) := Lib.hid (by rw [HLI.out, lastIdx, if_neg (by rw [hf]; simp)])
        have hkA' : blk? (wr.setCell ⟨g, p, none⟩ (.bool true)) w.heap.size = some (adr 16 b z) := by rw [blk?_setLt _ _ _ _ _ (by omega)]; exact hkA
        have hkB' : blk? (wr.setCell ⟨g, p, none⟩ (.bool true)) (w.heap.size + 1) = some (adr 0 zb ⟨#[]⟩) := by rw [blk?_setLt _ _ _ _ _ (by omega)]; exact hkB
        have hbel' : Below w.heap.size w (wr.setCell ⟨g, p, none⟩ (.bool true)) := (by repeat' (first | (with_reducible exact Below.refl _ _) | (with_reducible assumption) | (with_reducible refine Below.alloc ?_ ?_ _) | (with_reducible refine Below.drew ?_) | (with_reducible refine below_drewN ?_ _) | (with_reducible refine Below.setCell ?_ ?_ _) | (with_reducible refine below_setRow' ?_ ?_ _) | go_size))
        have hgs' : g < (wr.setCell ⟨g, p, none⟩ (.bool true)).heap.size := by simpa using hgs
        have hsz' : w.heap.size + 1 < (wr.setCell ⟨g, p, none⟩ (.bool true)).heap.size := by omega
        have HCS2 := Lib.hid HCS'.out
        have hsA : w.heap.size < wr.heap.size := by omega
        have hsB : w.heap.size + 1 < wr.heap.size := by omega
        have hgA : w.heap.size < g := by omega
        clear hkA hkB HCS HCS'
        go_wp2_with fail
        clear hcell hfz
        go_region_held3 (fun w' => blk? w' (w.heap.size) = some (adr 16 b z)) (first | go_simp) (first
    | (go_at_call 137; (with_reducible refine (fromBits_16 (fl (bt b) p) _ _ _ ?_ ?_).mono ?_); (simpa using hgs); (intro j hj; exact HCS2.out j hj); rintro e w1 ⟨rfl, hb1⟩; have hk1 := blk?_below hb1; (try simp only [size_drew', size_drewN'] at hk1); have hB1 := below_via (w := w) (by repeat' (first | (with_reducible exact Below.refl _ _) | (with_reducible assumption) | (with_reducible refine Below.alloc ?_ ?_ _) | (with_reducible refine Below.drew ?_) | (with_reducible refine below_drewN ?_ _) | (with_reducible refine Below.setCell ?_ ?_ _) | (with_reducible refine below_setRow' ?_ ?_ _) | go_size)) hb1; have hL0 : w.heap.size < w1.heap.size := (by have hS0 := hb1.size; (try simp at hS0); omega); have hL1 : w.heap.size + 1 < w1.heap.size := (by have hS0 := hb1.size; (try simp at hS0); omega); have hLe : w.heap.size ≤ w1.heap.size := hB1.size; clear hb1)
    | (go_at_call 37; (with_reducible refine (sZone_16 _ _ _).mono ?_); rintro e w1 ⟨rfl, hb1⟩; have hk1 := blk?_below hb1; (try simp only [size_drew', size_drewN'] at hk1); have hB1 := below_via (w := w) (by repeat' (first | (with_reducible exact Below.refl _ _) | (with_reducible assumption) | (with_reducible refine Below.alloc ?_ ?_ _) | (with_reducible refine Below.drew ?_) | (with_reducible refine below_drewN ?_ _) | (with_reducible refine Below.setCell ?_ ?_ _) | (with_reducible refine below_setRow' ?_ ?_ _) | go_size)) hb1; have hL0 : w.heap.size < w1.heap.size := (by have hS0 := hb1.size; (try simp at hS0); omega); have hL1 : w.heap.size + 1 < w1.heap.size := (by have hS0 := hb1.size; (try simp at hS0); omega); have hLe : w.heap.size ≤ w1.heap.size := hB1.size; clear hb1)
    | (go_at_call 92; (with_reducible refine (sWithZone_16 _ _ _ _).mono ?_); rintro e w1 ⟨rfl, hb1⟩; have hk1 := blk?_below hb1; (try simp only [size_drew', size_drewN'] at hk1); have hB1 := below_via (w := w) (by repeat' (first | (with_reducible exact Below.refl _ _) | (with_reducible assumption) | (with_reducible refine Below.alloc ?_ ?_ _) | (with_reducible refine Below.drew ?_) | (with_reducible refine below_drewN ?_ _) | (with_reducible refine Below.setCell ?_ ?_ _) | (with_reducible refine below_setRow' ?_ ?_ _) | go_size)) hb1; have hL0 : w.heap.size < w1.heap.size := (by have hS0 := hb1.size; (try simp at hS0); omega); have hL1 : w.heap.size + 1 < w1.heap.size := (by have hS0 := hb1.size; (try simp at hS0); omega); have hLe : w.heap.size ≤ w1.heap.size := hB1.size; clear hb1))
        all_goals
          go_wp2
          refine bodyPost_ret (res25 Tryd.results83 _ _ (w.heap.size + 1) (adr 16 (pb (fl (bt b) p) 128) z) rfl ?_ rfl) rfl ⟨by rw [bres_some HL2.out], (by repeat' (first | (with_reducible exact Below.refl _ _) | (with_reducible assumption) | (with_reducible refine Below.alloc ?_ ?_ _) | (with_reducible refine Below.drew ?_) | (with_reducible refine below_drewN ?_ _) | (with_reducible refine Below.setCell ?_ ?_ _) | (with_reducible refine below_setRow' ?_ ?_ _) | go_size))⟩
          go_simp
      · rw [hf] at hcell HCS'
        have hkA' : blk? (wr.setCell ⟨g, p, none⟩ (.bool false)) w.heap.size = some (adr 16 b z) := by rw [blk?_setLt _ _ _ _ _ (by omega)]; exact hkA
        have hkB' : blk? (wr.setCell ⟨g, p, none⟩ (.bool false)) (w.heap.size + 1) = some (adr 0 zb ⟨#[]⟩) := by rw [blk?_setLt _ _ _ _ _ (by omega)]; exact hkB
        have HL2 : Hid (lastIdx (bt b) true 128 = lastIdx (bt b) true p) := Lib.hid (by rw [HLI.out, lastIdx, if_pos hf])
        go_wp2
        go_roundw
        case rel => exact ⟨p, by omega, rfl, HCS'.out, fun j => by rw [frozen_setCell]; exact HFS.out j, hkA', hkB', (by repeat' (first | (with_reducible exact Below.refl _ _) | (with_reducible assumption) | (with_reducible refine Below.alloc ?_ ?_ _) | (with_reducible refine Below.drew ?_) | (with_reducible refine below_drewN ?_ _) | (with_reducible refine Below.setCell ?_ ?_ _) | (with_reducible refine below_setRow' ?_ ?_ _) | go_size)), HL2.out, by simpa using hgs⟩
        case measure => simp [intOf]
set_option maxHeartbeats 4000000 in
set_option maxRecDepth 100000 in
theorem beside_16_false (b : Nat → Int) (hb : Bt b) (z : ByteArray) (w : World) :
    Calls Tryd.prog 83 #[.agg (adr 16 b z), .bool false] w fun e w' => e = .returned (.agg (bres 16 128 (bt b) z false)) ∧ Below w.heap.size w w' := by
  have HB := Lib.hid hb
  clear hb
  go_enter Tryd.func83, Tryd.ntmps83
  go_wp2_with (first
    | (go_at_call 108; (with_reducible refine (sbits_16 _ HB.out _ _).mono ?_); rintro e w1 ⟨v8, rfl, hown8, hb1⟩; have hk1 := blk?_below hb1; have hB1 := below_via (w := w) (by repeat' (first | (with_reducible exact Below.refl _ _) | (with_reducible assumption) | (with_reducible refine Below.alloc ?_ ?_ _) | (with_reducible refine Below.drew ?_) | (with_reducible refine below_drewN ?_ _) | (with_reducible refine Below.setCell ?_ ?_ _) | (with_reducible refine below_setRow' ?_ ?_ _) | go_size)) hb1; have hL0 : w.heap.size + 1 < w1.heap.size := (by have hS0 := hb1.size; (try simp at hS0); omega); clear hb1; obtain ⟨g, cap8, rfl, hg0, hg1, hcap, hmax, hcell8, hfz8⟩ := owns_cells hown8 (by omega); clear hown8))
  have hkA : blk? w1 w.heap.size = some (adr 16 b z) := by rw [hk1 _ (by simp; omega)]; go_simp
  have hkB : blk? w1 (w.heap.size + 1) = some (adr 0 zb ⟨#[]⟩) := by rw [hk1 _ (by simp)]; go_simp
  have hg2 : w.heap.size + 1 < g := by simp at hg0; omega
  have HC8 := Lib.hid hcell8
  have HF8 := Lib.hid hfz8
  clear hcell8 hfz8 hk1 hg0
  go_loopw [6] (fun q wr => ∃ p : Nat, p ≤ 128 ∧ q = .int .i64 ((p : Int) - 1) ∧ (∀ j, j < 128 → wr.cell? ⟨g, j, none⟩ = some (.bool (fl (bt b) p j))) ∧ (∀ j, wr.frozen? ⟨g, j, none⟩ = false) ∧ blk? wr w.heap.size = some (adr 16 b z) ∧ blk? wr (w.heap.size + 1) = some (adr 0 zb ⟨#[]⟩) ∧ Below w.heap.size w wr ∧ lastIdx (bt b) false 128 = lastIdx (bt b) false p ∧ g < wr.heap.size) (fun q _ => (intOf q + 1).toNat)
  case atStart => exact ⟨128, by omega, rfl, fun j hj => by rw [HC8.out j hj, btl_get b 128 j hj]; simp [fl, hj], HF8.out, hkA, hkB, hB1, rfl, hg1⟩
  case round =>
    clear hkA hkB hB1 hL0 HC8 HF8
    obtain ⟨p, hp, rfl, hcs, hfs, hkA, hkB, hbel, hli, hgs⟩ := hrel
    have HCS := Lib.hid hcs
    have HFS := Lib.hid hfs
    have HLI := Lib.hid hli
    clear hcs hfs hli
    have hsz := hbel.size
    match p, hp, HCS, HLI with
    | 0, hp, HCS, HLI =>
      go_wp2
      refine bodyPost_ret (res25 Tryd.results83 _ _ (w.heap.size + 1) (adr 0 zb ⟨#[]⟩) rfl ?_ rfl) rfl ⟨by rw [bres_none]; rw [HLI.out]; rfl, (by repeat' (first | (with_reducible exact Below.refl _ _) | (with_reducible assumption) | (with_reducible refine Below.alloc ?_ ?_ _) | (with_reducible refine Below.drew ?_) | (with_reducible refine below_drewN ?_ _) | (with_reducible refine Below.setCell ?_ ?_ _) | (with_reducible refine below_setRow' ?_ ?_ _) | go_size))⟩
      go_simp
    | p + 1, hp, HCS, HLI =>
      have hcell : wr.cell? ⟨g, p, none⟩ = some (.bool (bt b p)) := by rw [HCS.out p (by omega)]; simp [fl]
      have hfz := HFS.out p
      have hi0 : (0 : Int) ≤ (p : Int) := by omega
      have hi1 : (p : Int) < 128 := by omega
      have ei : ((p + 1 : Nat) : Int) - 1 = (p : Int) := by omega
      rw [ei]
      have hcs' : ∀ j, j < 128 → (wr.setCell ⟨g, p, none⟩ (.bool (!bt b p))).cell? ⟨g, j, none⟩ = some (.bool (fl (bt b) p j)) := fun j hj => by
        rw [cell_setMid _ _ _ _ _ _ (HCS.out j hj) (by rw [hcell]; simp), ← fl_set (bt b) p j]
        split <;> rfl
      have HCS' := Lib.hid hcs'
      clear hcs' ei
      cases hf : bt b p
      · rw [hf] at hcell HCS'
        have hkA' : blk? (wr.setCell ⟨g, p, none⟩ (.bool true)) w.heap.size = some (adr 16 b z) := by rw [blk?_setLt _ _ _ _ _ (by omega)]; exact hkA
        have hkB' : blk? (wr.setCell ⟨g, p, none⟩ (.bool true)) (w.heap.size + 1) = some (adr 0 zb ⟨#[]⟩) := by rw [blk?_setLt _ _ _ _ _ (by omega)]; exact hkB
        have HL2 : Hid (lastIdx (bt b) false 128 = lastIdx (bt b) false p) := Lib.hid (by rw [HLI.out, lastIdx, if_pos hf])
        go_wp2
        go_roundw
        case rel => exact ⟨p, by omega, rfl, HCS'.out, fun j => by rw [frozen_setCell]; exact HFS.out j, hkA', hkB', (by repeat' (first | (with_reducible exact Below.refl _ _) | (with_reducible assumption) | (with_reducible refine Below.alloc ?_ ?_ _) | (with_reducible refine Below.drew ?_) | (with_reducible refine below_drewN ?_ _) | (with_reducible refine Below.setCell ?_ ?_ _) | (with_reducible refine below_setRow' ?_ ?_ _) | go_size)), HL2.out, by simpa using hgs⟩
        case measure => simp [intOf]
      · rw [hf] at hcell HCS'
        have HL2 : Hid (lastIdx (bt b) false 128 = some p) := Lib.hid (by rw [HLI.out, lastIdx, if_neg (by rw [hf]; simp)])
        have hkA' : blk? (wr.setCell ⟨g, p, none⟩ (.bool false)) w.heap.size = some (adr 16 b z) := by rw [blk?_setLt _ _ _ _ _ (by omega)]; exact hkA
        have hkB' : blk? (wr.setCell ⟨g, p, none⟩ (.bool false)) (w.heap.size + 1) = some (adr 0 zb ⟨#[]⟩) := by rw [blk?_setLt _ _ _ _ _ (by omega)]; exact hkB
        have hbel' : Below w.heap.size w (wr.setCell ⟨g, p, none⟩ (.bool false)) := (by repeat' (first | (with_reducible exact Below.refl _ _) | (with_reducible assumption) | (with_reducible refine Below.alloc ?_ ?_ _) | (with_reducible refine Below.drew ?_) | (with_reducible refine below_drewN ?_ _) | (with_reducible refine Below.setCell ?_ ?_ _) | (with_reducible refine below_setRow' ?_ ?_ _) | go_size))
        have hgs' : g < (wr.setCell ⟨g, p, none⟩ (.bool false)).heap.size := by simpa using hgs
        have hsz' : w.heap.size + 1 < (wr.setCell ⟨g, p, none⟩ (.bool false)).heap.size := by omega
        have HCS2 := Lib.hid HCS'.out
        have hsA : w.heap.size < wr.heap.size := by omega
        have hsB : w.heap.size + 1 < wr.heap.size := by omega
        have hgA : w.heap.size < g := by omega
        clear hkA hkB HCS HCS'
        go_wp2_with fail
        clear hcell hfz
        go_region_held3 (fun w' => blk? w' (w.heap.size) = some (adr 16 b z)) (first | go_simp) (first
    | (go_at_call 137; (with_reducible refine (fromBits_16 (fl (bt b) p) _ _ _ ?_ ?_).mono ?_); (simpa using hgs); (intro j hj; exact HCS2.out j hj); rintro e w1 ⟨rfl, hb1⟩; have hk1 := blk?_below hb1; (try simp only [size_drew', size_drewN'] at hk1); have hB1 := below_via (w := w) (by repeat' (first | (with_reducible exact Below.refl _ _) | (with_reducible assumption) | (with_reducible refine Below.alloc ?_ ?_ _) | (with_reducible refine Below.drew ?_) | (with_reducible refine below_drewN ?_ _) | (with_reducible refine Below.setCell ?_ ?_ _) | (with_reducible refine below_setRow' ?_ ?_ _) | go_size)) hb1; have hL0 : w.heap.size < w1.heap.size := (by have hS0 := hb1.size; (try simp at hS0); omega); have hL1 : w.heap.size + 1 < w1.heap.size := (by have hS0 := hb1.size; (try simp at hS0); omega); have hLe : w.heap.size ≤ w1.heap.size := hB1.size; clear hb1)
    | (go_at_call 37; (with_reducible refine (sZone_16 _ _ _).mono ?_); rintro e w1 ⟨rfl, hb1⟩; have hk1 := blk?_below hb1; (try simp only [size_drew', size_drewN'] at hk1); have hB1 := below_via (w := w) (by repeat' (first | (with_reducible exact Below.refl _ _) | (with_reducible assumption) | (with_reducible refine Below.alloc ?_ ?_ _) | (with_reducible refine Below.drew ?_) | (with_reducible refine below_drewN ?_ _) | (with_reducible refine Below.setCell ?_ ?_ _) | (with_reducible refine below_setRow' ?_ ?_ _) | go_size)) hb1; have hL0 : w.heap.size < w1.heap.size := (by have hS0 := hb1.size; (try simp at hS0); omega); have hL1 : w.heap.size + 1 < w1.heap.size := (by have hS0 := hb1.size; (try simp at hS0); omega); have hLe : w.heap.size ≤ w1.heap.size := hB1.size; clear hb1)
    | (go_at_call 92; (with_reducible refine (sWithZone_16 _ _ _ _).mono ?_); rintro e w1 ⟨rfl, hb1⟩; have hk1 := blk?_below hb1; (try simp only [size_drew', size_drewN'] at hk1); have hB1 := below_via (w := w) (by repeat' (first | (with_reducible exact Below.refl _ _) | (with_reducible assumption) | (with_reducible refine Below.alloc ?_ ?_ _) | (with_reducible refine Below.drew ?_) | (with_reducible refine below_drewN ?_ _) | (with_reducible refine Below.setCell ?_ ?_ _) | (with_reducible refine below_setRow' ?_ ?_ _) | go_size)) hb1; have hL0 : w.heap.size < w1.heap.size := (by have hS0 := hb1.size; (try simp at hS0); omega); have hL1 : w.heap.size + 1 < w1.heap.size := (by have hS0 := hb1.size; (try simp at hS0); omega); have hLe : w.heap.size ≤ w1.heap.size := hB1.size; clear hb1))
        all_goals
          go_wp2
          refine bodyPost_ret (res25 Tryd.results83 _ _ (w.heap.size + 1) (adr 16 (pb (fl (bt b) p) 128) z) rfl ?_ rfl) rfl ⟨by rw [bres_some HL2.out], (by repeat' (first | (with_reducible exact Below.refl _ _) | (with_reducible assumption) | (with_reducible refine Below.alloc ?_ ?_ _) | (with_reducible refine Below.drew ?_) | (with_reducible refine below_drewN ?_ _) | (with_reducible refine Below.setCell ?_ ?_ _) | (with_reducible refine below_setRow' ?_ ?_ _) | go_size))⟩
          go_simp
set_option maxHeartbeats 4000000 in
set_option maxRecDepth 100000 in
theorem sNext_4 (b : Nat → Int) (hb : Bt b) (z : ByteArray) (w : World) :
    Calls Tryd.prog 42 #[.agg (adr 4 b z)] w fun e w' => e = .returned (.agg (bres 4 32 (bt b) ⟨#[]⟩ true)) ∧ Below w.heap.size w w' := by
  have HB := Lib.hid hb
  clear hb
  go_enter Tryd.func42, Tryd.ntmps42
  go_wp2_with (first
    | (go_at_call 83; (with_reducible refine (beside_4_true _ HB.out _ _).mono ?_); rintro e w1 ⟨rfl, hb1⟩; have hk1 := blk?_below hb1; (try simp only [size_drew', size_drewN'] at hk1); have hB1 := below_via (w := w) (by repeat' (first | (with_reducible exact Below.refl _ _) | (with_reducible assumption) | (with_reducible refine Below.alloc ?_ ?_ _) | (with_reducible refine Below.drew ?_) | (with_reducible refine below_drewN ?_ _) | (with_reducible refine Below.setCell ?_ ?_ _) | (with_reducible refine below_setRow' ?_ ?_ _) | go_size)) hb1; have hL0 : w.heap.size < w1.heap.size := (by have hS0 := hb1.size; (try simp at hS0); omega); have hL1 : w.heap.size + 1 < w1.heap.size := (by have hS0 := hb1.size; (try simp at hS0); omega); have hLe : w.heap.size ≤ w1.heap.size := hB1.size; clear hb1))
  refine bodyPost_ret (res25 Tryd.results42 _ _ (w.heap.size + 1) _ rfl ?_ ?_) rfl ⟨rfl, (by repeat' (first | (with_reducible exact Below.refl _ _) | (with_reducible assumption) | (with_reducible refine Below.alloc ?_ ?_ _) | (with_reducible refine Below.drew ?_) | (with_reducible refine below_drewN ?_ _) | (with_reducible refine Below.setCell ?_ ?_ _) | (with_reducible refine below_setRow' ?_ ?_ _) | go_size))⟩
  · go_simp
  · exact bres_size _ _ _ _ _
set_option maxHeartbeats 4000000 in
set_option maxRecDepth 100000 in
theorem sNext_16 (b : Nat → Int) (hb : Bt b) (z : ByteArray) (w : World) :
    Calls Tryd.prog 42 #[.agg (adr 16 b z)] w fun e w' => e = .returned (.agg (bres 16 128 (bt b) z true)) ∧ Below w.heap.size w w' := by
  have HB := Lib.hid hb
  clear hb
  go_enter Tryd.func42, Tryd.ntmps42
  go_wp2_with (first
    | (go_at_call 83; (with_reducible refine (beside_16_true _ HB.out _ _).mono ?_); rintro e w1 ⟨rfl, hb1⟩; have hk1 := blk?_below hb1; (try simp only [size_drew', size_drewN'] at hk1); have hB1 := below_via (w := w) (by repeat' (first | (with_reducible exact Below.refl _ _) | (with_reducible assumption) | (with_reducible refine Below.alloc ?_ ?_ _) | (with_reducible refine Below.drew ?_) | (with_reducible refine below_drewN ?_ _) | (with_reducible refine Below.setCell ?_ ?_ _) | (with_reducible refine below_setRow' ?_ ?_ _) | go_size)) hb1; have hL0 : w.heap.size < w1.heap.size := (by have hS0 := hb1.size; (try simp at hS0); omega); have hL1 : w.heap.size + 1 < w1.heap.size := (by have hS0 := hb1.size; (try simp at hS0); omega); have hLe : w.heap.size ≤ w1.heap.size := hB1.size; clear hb1))
  refine bodyPost_ret (res25 Tryd.results42 _ _ (w.heap.size + 1) _ rfl ?_ ?_) rfl ⟨rfl, (by repeat' (first | (with_reducible exact Below.refl _ _) | (with_reducible assumption) | (with_reducible refine Below.alloc ?_ ?_ _) | (with_reducible refine Below.drew ?_) | (with_reducible refine below_drewN ?_ _) | (with_reducible refine Below.setCell ?_ ?_ _) | (with_reducible refine below_setRow' ?_ ?_ _) | go_size))⟩
  · go_simp
  · exact bres_size _ _ _ _ _
set_option maxHeartbeats 4000000 in
set_option maxRecDepth 100000 in
theorem sPrev_4 (b : Nat → Int) (hb : Bt b) (z : ByteArray) (w : World) :
    Calls Tryd.prog 40 #[.agg (adr 4 b z)] w fun e w' => e = .returned (.agg (bres 4 32 (bt b) ⟨#[]⟩ false)) ∧ Below w.heap.size w w' := by
  have HB := Lib.hid hb
  clear hb
  go_enter Tryd.func40, Tryd.ntmps40
  go_wp2_with (first
    | (go_at_call 83; (with_reducible refine (beside_4_false _ HB.out _ _).mono ?_); rintro e w1 ⟨rfl, hb1⟩; have hk1 := blk?_below hb1; (try simp only [size_drew', size_drewN'] at hk1); have hB1 := below_via (w := w) (by repeat' (first | (with_reducible exact Below.refl _ _) | (with_reducible assumption) | (with_reducible refine Below.alloc ?_ ?_ _) | (with_reducible refine Below.drew ?_) | (with_reducible refine below_drewN ?_ _) | (with_reducible refine Below.setCell ?_ ?_ _) | (with_reducible refine below_setRow' ?_ ?_ _) | go_size)) hb1; have hL0 : w.heap.size < w1.heap.size := (by have hS0 := hb1.size; (try simp at hS0); omega); have hL1 : w.heap.size + 1 < w1.heap.size := (by have hS0 := hb1.size; (try simp at hS0); omega); have hLe : w.heap.size ≤ w1.heap.size := hB1.size; clear hb1))
  refine bodyPost_ret (res25 Tryd.results40 _ _ (w.heap.size + 1) _ rfl ?_ ?_) rfl ⟨rfl, (by repeat' (first | (with_reducible exact Below.refl _ _) | (with_reducible assumption) | (with_reducible refine Below.alloc ?_ ?_ _) | (with_reducible refine Below.drew ?_) | (with_reducible refine below_drewN ?_ _) | (with_reducible refine Below.setCell ?_ ?_ _) | (with_reducible refine below_setRow' ?_ ?_ _) | go_size))⟩
  · go_simp
  · exact bres_size _ _ _ _ _
set_option maxHeartbeats 4000000 in
set_option maxRecDepth 100000 in
theorem sPrev_16 (b : Nat → Int) (hb : Bt b) (z : ByteArray) (w : World) :
    Calls Tryd.prog 40 #[.agg (adr 16 b z)] w fun e w' => e = .returned (.agg (bres 16 128 (bt b) z false)) ∧ Below w.heap.size w w' := by
  have HB := Lib.hid hb
  clear hb
  go_enter Tryd.func40, Tryd.ntmps40
  go_wp2_with (first
    | (go_at_call 83; (with_reducible refine (beside_16_false _ HB.out _ _).mono ?_); rintro e w1 ⟨rfl, hb1⟩; have hk1 := blk?_below hb1; (try simp only [size_drew', size_drewN'] at hk1); have hB1 := below_via (w := w) (by repeat' (first | (with_reducible exact Below.refl _ _) | (with_reducible assumption) | (with_reducible refine Below.alloc ?_ ?_ _) | (with_reducible refine Below.drew ?_) | (with_reducible refine below_drewN ?_ _) | (with_reducible refine Below.setCell ?_ ?_ _) | (with_reducible refine below_setRow' ?_ ?_ _) | go_size)) hb1; have hL0 : w.heap.size < w1.heap.size := (by have hS0 := hb1.size; (try simp at hS0); omega); have hL1 : w.heap.size + 1 < w1.heap.size := (by have hS0 := hb1.size; (try simp at hS0); omega); have hLe : w.heap.size ≤ w1.heap.size := hB1.size; clear hb1))
  refine bodyPost_ret (res25 Tryd.results40 _ _ (w.heap.size + 1) _ rfl ?_ ?_) rfl ⟨rfl, (by repeat' (first | (with_reducible exact Below.refl _ _) | (with_reducible assumption) | (with_reducible refine Below.alloc ?_ ?_ _) | (with_reducible refine Below.drew ?_) | (with_reducible refine below_drewN ?_ _) | (with_reducible refine Below.setCell ?_ ?_ _) | (with_reducible refine below_setRow' ?_ ?_ _) | go_size))⟩
  · go_simp
  · exact bres_size _ _ _ _ _
end Go.Proofs.YtmlkcgacneealaaDoor
