/- An address made of bits, in the reference. No conditions but on the bits' cells. -/
import Derived.Test.YtmlkcgacneealaaDoorPBits
import Derived.BigRegion
set_option linter.unusedVariables false
set_option linter.unusedSimpArgs false
namespace Go.Proofs.YtmlkcgacneealaaDoor
open Go.RowKit
set_option maxHeartbeats 4000000 in
set_option maxRecDepth 100000 in
theorem fromBits_4 (f : Nat → Bool) (g c : Nat) (w : World) (hgs : g < w.heap.size) (hc : ∀ i, i < 32 → w.cell? ⟨g, i, none⟩ = some (.bool (f i))) :
    Calls Tryd.prog 137 #[.slice (some ⟨g, 0, none⟩) 32 c] w fun e w' => e = .returned (.agg (adr 4 (pb f 32) ⟨#[]⟩)) ∧ Below w.heap.size w w' := by
  have HC := Lib.hid hc
  clear hc
  go_enter Tryd.func137, Tryd.ntmps137
  go_wp2
  go_loopw [12, 4, 5] (fun i v4 v5 wr => ∃ q : Nat, q ≤ 32 ∧ i = .int .i64 q ∧ blk? wr (w.heap.size + 1) = some (adr 4 (pb f q) ⟨#[]⟩) ∧ blk? wr w.heap.size = some (adr 0 zb ⟨#[]⟩) ∧ Below w.heap.size w wr) (fun i _ _ _ => 32 - (intOf i).toNat)
  case atStart => exact ⟨0, by omega, rfl, by rw [msk_zero]; go_simp, by go_simp, (by repeat' (first | (with_reducible exact Below.refl _ _) | (with_reducible assumption) | (with_reducible refine Below.alloc ?_ ?_ _) | (with_reducible refine Below.drew ?_) | (with_reducible refine below_drewN ?_ _) | (with_reducible refine Below.setCell ?_ ?_ _) | (with_reducible refine below_setRow' ?_ ?_ _) | go_size))⟩
  case round =>
    obtain ⟨q, hq, rfl, hk1, hk0, hbel⟩ := hrel
    by_cases hlt : q < 32
    · have hi0 : (0 : Int) ≤ (q : Int) := by omega
      have hi1 : (q : Int) < 32 := by omega
      have hcell : wr.cell? ⟨g, q, none⟩ = some (.bool (f q)) := by rw [hbel.cell (by exact hgs)]; exact HC.out q hlt
      cases hf : f q
      · rw [hf] at hcell
        go_wp2
        go_roundw
        case rel => exact ⟨q + 1, by omega, by go_num, by rw [pb_same f q hf]; exact hk1, hk0, hbel⟩
        case measure => simp [intOf]; omega
      · rw [hf] at hcell
        have h8 : q / 8 < 16 := by omega
        have h80 : (0 : Int) ≤ (q : Int) / 8 := by omega
        have h81 : (q : Int) / 8 < 16 := by omega
        have hm0 : (0 : Int) ≤ 7 - (q : Int) % 8 := by omega
        have hm1 : 7 - (q : Int) % 8 < 8 := by omega
        have hld : wr.cell? ⟨w.heap.size + 1, 1 + q / 8, none⟩ = some (.int .u8 (pb f q (q / 8))) := by rw [blk?_cell hk1, adr_byte' _ _ _ _ h8]
        have hfz : wr.frozen? ⟨w.heap.size + 1, 1 + q / 8, none⟩ = false := blk?_frozen hk1 _
        go_wp2
        go_region
        all_goals (go_wp2; go_roundw)
        case rel => exact ⟨q + 1, by omega, by go_num, by rw [blk?_drew, blk?_setSame, hk1, Option.map_some, adr_set' _ _ _ _ _ h8, pb_upd f q hf], by rw [blk?_drew, blk?_setLt _ _ _ _ _ (by omega)]; exact hk0, (by repeat' (first | (with_reducible exact Below.refl _ _) | (with_reducible assumption) | (with_reducible refine Below.alloc ?_ ?_ _) | (with_reducible refine Below.drew ?_) | (with_reducible refine below_drewN ?_ _) | (with_reducible refine Below.setCell ?_ ?_ _) | (with_reducible refine below_setRow' ?_ ?_ _) | go_size))⟩
        case measure => simp [intOf]; omega
    · obtain rfl : q = 32 := by omega
      have hLs := hbel.size
      go_wp2
      refine bodyPost_ret (res25 Tryd.results137 _ _ w.heap.size _ rfl ?_ rfl) rfl ⟨rfl, (by repeat' (first | (with_reducible exact Below.refl _ _) | (with_reducible assumption) | (with_reducible refine Below.alloc ?_ ?_ _) | (with_reducible refine Below.drew ?_) | (with_reducible refine below_drewN ?_ _) | (with_reducible refine Below.setCell ?_ ?_ _) | (with_reducible refine below_setRow' ?_ ?_ _) | go_size))⟩
      go_simp
set_option maxHeartbeats 4000000 in
set_option maxRecDepth 100000 in
theorem fromBits_16 (f : Nat → Bool) (g c : Nat) (w : World) (hgs : g < w.heap.size) (hc : ∀ i, i < 128 → w.cell? ⟨g, i, none⟩ = some (.bool (f i))) :
    Calls Tryd.prog 137 #[.slice (some ⟨g, 0, none⟩) 128 c] w fun e w' => e = .returned (.agg (adr 16 (pb f 128) ⟨#[]⟩)) ∧ Below w.heap.size w w' := by
  have HC := Lib.hid hc
  clear hc
  go_enter Tryd.func137, Tryd.ntmps137
  go_wp2
  go_loopw [12, 4, 5] (fun i v4 v5 wr => ∃ q : Nat, q ≤ 128 ∧ i = .int .i64 q ∧ blk? wr (w.heap.size + 1) = some (adr 16 (pb f q) ⟨#[]⟩) ∧ blk? wr w.heap.size = some (adr 0 zb ⟨#[]⟩) ∧ Below w.heap.size w wr) (fun i _ _ _ => 128 - (intOf i).toNat)
  case atStart => exact ⟨0, by omega, rfl, by rw [msk_zero]; go_simp, by go_simp, (by repeat' (first | (with_reducible exact Below.refl _ _) | (with_reducible assumption) | (with_reducible refine Below.alloc ?_ ?_ _) | (with_reducible refine Below.drew ?_) | (with_reducible refine below_drewN ?_ _) | (with_reducible refine Below.setCell ?_ ?_ _) | (with_reducible refine below_setRow' ?_ ?_ _) | go_size))⟩
  case round =>
    obtain ⟨q, hq, rfl, hk1, hk0, hbel⟩ := hrel
    by_cases hlt : q < 128
    · have hi0 : (0 : Int) ≤ (q : Int) := by omega
      have hi1 : (q : Int) < 128 := by omega
      have hcell : wr.cell? ⟨g, q, none⟩ = some (.bool (f q)) := by rw [hbel.cell (by exact hgs)]; exact HC.out q hlt
      cases hf : f q
      · rw [hf] at hcell
        go_wp2
        go_roundw
        case rel => exact ⟨q + 1, by omega, by go_num, by rw [pb_same f q hf]; exact hk1, hk0, hbel⟩
        case measure => simp [intOf]; omega
      · rw [hf] at hcell
        have h8 : q / 8 < 16 := by omega
        have h80 : (0 : Int) ≤ (q : Int) / 8 := by omega
        have h81 : (q : Int) / 8 < 16 := by omega
        have hm0 : (0 : Int) ≤ 7 - (q : Int) % 8 := by omega
        have hm1 : 7 - (q : Int) % 8 < 8 := by omega
        have hld : wr.cell? ⟨w.heap.size + 1, 1 + q / 8, none⟩ = some (.int .u8 (pb f q (q / 8))) := by rw [blk?_cell hk1, adr_byte' _ _ _ _ h8]
        have hfz : wr.frozen? ⟨w.heap.size + 1, 1 + q / 8, none⟩ = false := blk?_frozen hk1 _
        go_wp2
        go_region
        all_goals (go_wp2; go_roundw)
        case rel => exact ⟨q + 1, by omega, by go_num, by rw [blk?_drew, blk?_setSame, hk1, Option.map_some, adr_set' _ _ _ _ _ h8, pb_upd f q hf], by rw [blk?_drew, blk?_setLt _ _ _ _ _ (by omega)]; exact hk0, (by repeat' (first | (with_reducible exact Below.refl _ _) | (with_reducible assumption) | (with_reducible refine Below.alloc ?_ ?_ _) | (with_reducible refine Below.drew ?_) | (with_reducible refine below_drewN ?_ _) | (with_reducible refine Below.setCell ?_ ?_ _) | (with_reducible refine below_setRow' ?_ ?_ _) | go_size))⟩
        case measure => simp [intOf]; omega
    · obtain rfl : q = 128 := by omega
      have hLs := hbel.size
      go_wp2
      refine bodyPost_ret (res25 Tryd.results137 _ _ w.heap.size _ rfl ?_ rfl) rfl ⟨rfl, (by repeat' (first | (with_reducible exact Below.refl _ _) | (with_reducible assumption) | (with_reducible refine Below.alloc ?_ ?_ _) | (with_reducible refine Below.drew ?_) | (with_reducible refine below_drewN ?_ _) | (with_reducible refine Below.setCell ?_ ?_ _) | (with_reducible refine below_setRow' ?_ ?_ _) | go_size))⟩
      go_simp
end Go.Proofs.YtmlkcgacneealaaDoor
