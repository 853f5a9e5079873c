/- The reference's order and Compare, for addresses of one length without zones. No conditions but on the bytes. -/
import Derived.Test.YtmlkcgacneealaaDoorCmp
import Derived.Test.YtmlkcgacneealaaDoorPBits
set_option linter.unusedVariables false
set_option linter.unusedSimpArgs false
namespace Go.Proofs.YtmlkcgacneealaaDoor
open Go.RowKit

theorem nb_congr (f g : Nat → Bool) : ∀ k, (∀ j, j < k → f j = g j) → nb f k = nb g k
  | 0, _ => rfl
  | k + 1, h => by simp only [nb, bv]; rw [nb_congr f g k (fun j hj => h j (by omega)), h k (by omega)]
/-- The first bit that is not the same decides. -/
theorem nb_first (f g : Nat → Bool) (k : Nat) (hs : ∀ j, j < k → f j = g j) (h0 : g k = false) (h1 : f k = true) : ∀ m, k < m → nb g m < nb f m
  | 0, h => by omega
  | m + 1, h => by
    have a := bv_lt f m
    have b := bv_lt g m
    simp only [nb]
    by_cases e : k = m
    · subst e
      rw [nb_congr f g k hs]
      have : bv f k = 1 := by unfold bv; rw [h1]; rfl
      have : bv g k = 0 := by unfold bv; rw [h0]; rfl
      omega
    · have := nb_first f g k hs h0 h1 m (by omega)
      omega
set_option maxHeartbeats 4000000 in
set_option maxRecDepth 100000 in
theorem sorder (f f' : Nat → Bool) (m : Nat) (hm : m ≤ 128) (g c g' c' : Nat) (w : World) (hc : ∀ i, i < m → w.cell? ⟨g, i, none⟩ = some (.bool (f i))) (hc' : ∀ i, i < m → w.cell? ⟨g', i, none⟩ = some (.bool (f' i))) :
    Calls Tryd.prog 107 #[.slice (some ⟨g, 0, none⟩) m c, .slice (some ⟨g', 0, none⟩) m c'] w fun e w' => e = .returned (.int .i64 (cmpI (nb f m) (nb f' m))) ∧ w = w' := by
  have HC := Lib.hid hc
  have HC' := Lib.hid hc'
  clear hc hc'
  go_enter Tryd.func107, Tryd.ntmps107
  go_wp2
  go_loop [8] (fun i => ∃ k : Nat, k ≤ m ∧ i = .int .i64 k ∧ ∀ j, j < k → f j = f' j) (fun i => m - (intOf i).toNat)
  case atStart => exact ⟨0, by omega, rfl, fun j hj => by omega⟩
  case round =>
    obtain ⟨k, hk, rfl, hs⟩ := hrel
    have HS := Lib.hid hs
    clear hs
    by_cases hlt : k < m
    · have hi0 : (0 : Int) ≤ (k : Int) := by omega
      have hi1 : (k : Int) < (m : Int) := by omega
      have hcell := HC.out k hlt
      have hcell' := HC'.out k hlt
      cases hf : f k <;> cases hf' : f' k <;> rw [hf] at hcell <;> rw [hf'] at hcell'
      · go_wp2
        go_round
        case rel => exact ⟨k + 1, by omega, by go_num, fun j hj => by
          by_cases e : j = k
          · rw [e, hf, hf']
          · exact HS.out j (by omega)⟩
        case measure => simp [intOf]; omega
      · go_wp2
        go_ret
        exact ⟨ret_int (cmpI_lt (nb_first f' f k (fun j hj => (HS.out j hj).symm) hf hf' m hlt)).symm, rfl⟩
      · go_wp2
        go_ret
        exact ⟨ret_int (cmpI_gt (nb_first f f' k HS.out hf' hf m hlt)).symm, rfl⟩
      · go_wp2
        go_round
        case rel => exact ⟨k + 1, by omega, by go_num, fun j hj => by
          by_cases e : j = k
          · rw [e, hf, hf']
          · exact HS.out j (by omega)⟩
        case measure => simp [intOf]; omega
    · obtain rfl : k = m := by omega
      go_wp2
      go_ret
      exact ⟨ret_int (cmpI_eq (nb_congr f f' k HS.out)).symm, rfl⟩
theorem sorder_v (f f' : Nat → Bool) (m : Nat) (hm : m ≤ 128) (v : Int) (hv : cmpI (nb f m) (nb f' m) = v) (g c g' c' : Nat) (w : World) (hc : ∀ i, i < m → w.cell? ⟨g, i, none⟩ = some (.bool (f i))) (hc' : ∀ i, i < m → w.cell? ⟨g', i, none⟩ = some (.bool (f' i))) :
    Calls Tryd.prog 107 #[.slice (some ⟨g, 0, none⟩) m c, .slice (some ⟨g', 0, none⟩) m c'] w fun e w' => e = .returned (.int .i64 v) ∧ w = w' := by
  rw [← hv]; exact sorder f f' m hm g c g' c' w hc hc'
set_option maxHeartbeats 4000000 in
set_option maxRecDepth 100000 in
theorem stext_0 (w : World) : Calls Tryd.prog 109 #[.string ⟨#[]⟩, .string ⟨#[]⟩] w fun e w' => e = .returned (.int .i64 0) ∧ w = w' := by
  go_enter Tryd.func109, Tryd.ntmps109
  go_wp2
  refine wp_loop_rounds 1 ?_
  rw [rounds_succ]
  go_wp2
  go_ret
  exact ⟨rfl, rfl⟩
set_option maxHeartbeats 4000000 in
set_option maxRecDepth 100000 in
theorem sCompare_4lt (b b' : Nat → Int) (hb : Bt b) (hb' : Bt b') (z z' : ByteArray) (hv : cmpI (nb (bt b) 32) (nb (bt b') 32) = (-1)) (w : World) :
    Calls Tryd.prog 58 #[.agg (adr 4 b z), .agg (adr 4 b' z')] w fun e w' => e = .returned (.int .i64 (-1)) ∧ Below w.heap.size w w' := by
  have HB := Lib.hid hb
  have HB' := Lib.hid hb'
  have HV := Lib.hid hv
  clear hb hb' hv
  go_enter Tryd.func58, Tryd.ntmps58
  go_wp2_with fail
  go_region_held3 (fun w' => blk? w' (w.heap.size) = some (adr 4 b z) ∧ blk? w' (w.heap.size + 1) = some (adr 4 b' z')) (first | (refine ⟨?_, ?_⟩ <;> go_simp)) (first
    | (go_at_call 106; (with_reducible refine (sBitLen_4 _ _ _).mono ?_); rintro e w1 ⟨rfl, hb1⟩; have hk1 := blk?_below hb1; (try simp only [size_drew', size_drewN'] at hk1); have hB1 := below_via (w := w) (by repeat' (first | (with_reducible exact Below.refl _ _) | (with_reducible assumption) | (with_reducible refine Below.alloc ?_ ?_ _) | (with_reducible refine Below.drew ?_) | (with_reducible refine below_drewN ?_ _) | (with_reducible refine Below.setCell ?_ ?_ _) | (with_reducible refine below_setRow' ?_ ?_ _) | go_size)) hb1; have hL0 : w.heap.size < w1.heap.size := (by have hS0 := hb1.size; (try simp at hS0); omega); have hL1 : w.heap.size + 1 < w1.heap.size := (by have hS0 := hb1.size; (try simp at hS0); omega); have hLe : w.heap.size ≤ w1.heap.size := hB1.size; clear hb1))
  go_wp2_with fail
  go_region_held3 (fun w' => blk? w' (w.heap.size) = some (adr 4 b z) ∧ blk? w' (w.heap.size + 1) = some (adr 4 b' z')) (first | (refine ⟨?_, ?_⟩ <;> go_simp)) (first
    | (go_at_call 108; (with_reducible refine (sbits_4 b HB.out z _).mono ?_); rintro e wA ⟨v8, rfl, hown8, hb1⟩; have hk1 := blk?_below hb1; (try simp only [size_drew', size_drewN'] at hk1); have hB1 := below_via (w := w) (by repeat' (first | (with_reducible exact Below.refl _ _) | (with_reducible assumption) | (with_reducible refine Below.alloc ?_ ?_ _) | (with_reducible refine Below.drew ?_) | (with_reducible refine below_drewN ?_ _) | (with_reducible refine Below.setCell ?_ ?_ _) | (with_reducible refine below_setRow' ?_ ?_ _) | go_size)) hb1; have hL0 : w.heap.size < wA.heap.size := (by have hS0 := hb1.size; (try simp at hS0); omega); have hL1 : w.heap.size + 1 < wA.heap.size := (by have hS0 := hb1.size; (try simp at hS0); omega); have hLe : w.heap.size ≤ wA.heap.size := hB1.size; obtain ⟨gA, capA, rfl, hg0, hgA, hcap, hmax, hcell8, _⟩ := owns_cells hown8 (by omega); have HCA := Lib.hid hcell8; clear hown8 hcell8 hmax hcap hg0; clear hb1)
    | (go_at_call 108; (with_reducible refine (sbits_4 b' HB'.out z' _).mono ?_); rintro e wB ⟨v8, rfl, hown8, hb1⟩; have hk1 := blk?_below hb1; (try simp only [size_drew', size_drewN'] at hk1); have hB1 := below_via (w := w) (by repeat' (first | (with_reducible exact Below.refl _ _) | (with_reducible assumption) | (with_reducible refine Below.alloc ?_ ?_ _) | (with_reducible refine Below.drew ?_) | (with_reducible refine below_drewN ?_ _) | (with_reducible refine Below.setCell ?_ ?_ _) | (with_reducible refine below_setRow' ?_ ?_ _) | go_size)) hb1; have hL0 : w.heap.size < wB.heap.size := (by have hS0 := hb1.size; (try simp at hS0); omega); have hL1 : w.heap.size + 1 < wB.heap.size := (by have hS0 := hb1.size; (try simp at hS0); omega); have hLe : w.heap.size ≤ wB.heap.size := hB1.size; obtain ⟨gB, capB, rfl, hg0, hgB, hcap, hmax, hcell8, _⟩ := owns_cells hown8 (by omega); have HCB := Lib.hid hcell8; have HAB := Lib.hid (bcell hb1).1; clear hown8 hcell8 hmax hcap hg0; clear hb1)
    | (go_at_call 107; (with_reducible refine (sorder_v (bt b) (bt b') 32 (by omega) (-1) HV.out _ _ _ _ _ ?_ ?_).mono ?_); (intro i hi; exact (HAB.out _ _ hgA).trans ((HCA.out i hi).trans (btl_get b 32 i hi))); (intro i hi; exact (HCB.out i hi).trans (btl_get b' 32 i hi)); rintro e w9 ⟨rfl, rfl⟩))
  all_goals (go_wp2; go_ret; exact ⟨rfl, (by repeat' (first | (with_reducible exact Below.refl _ _) | (with_reducible assumption) | (with_reducible refine Below.alloc ?_ ?_ _) | (with_reducible refine Below.drew ?_) | (with_reducible refine below_drewN ?_ _) | (with_reducible refine Below.setCell ?_ ?_ _) | (with_reducible refine below_setRow' ?_ ?_ _) | go_size))⟩)
set_option maxHeartbeats 4000000 in
set_option maxRecDepth 100000 in
theorem sCompare_4gt (b b' : Nat → Int) (hb : Bt b) (hb' : Bt b') (z z' : ByteArray) (hv : cmpI (nb (bt b) 32) (nb (bt b') 32) = 1) (w : World) :
    Calls Tryd.prog 58 #[.agg (adr 4 b z), .agg (adr 4 b' z')] w fun e w' => e = .returned (.int .i64 1) ∧ Below w.heap.size w w' := by
  have HB := Lib.hid hb
  have HB' := Lib.hid hb'
  have HV := Lib.hid hv
  clear hb hb' hv
  go_enter Tryd.func58, Tryd.ntmps58
  go_wp2_with fail
  go_region_held3 (fun w' => blk? w' (w.heap.size) = some (adr 4 b z) ∧ blk? w' (w.heap.size + 1) = some (adr 4 b' z')) (first | (refine ⟨?_, ?_⟩ <;> go_simp)) (first
    | (go_at_call 106; (with_reducible refine (sBitLen_4 _ _ _).mono ?_); rintro e w1 ⟨rfl, hb1⟩; have hk1 := blk?_below hb1; (try simp only [size_drew', size_drewN'] at hk1); have hB1 := below_via (w := w) (by repeat' (first | (with_reducible exact Below.refl _ _) | (with_reducible assumption) | (with_reducible refine Below.alloc ?_ ?_ _) | (with_reducible refine Below.drew ?_) | (with_reducible refine below_drewN ?_ _) | (with_reducible refine Below.setCell ?_ ?_ _) | (with_reducible refine below_setRow' ?_ ?_ _) | go_size)) hb1; have hL0 : w.heap.size < w1.heap.size := (by have hS0 := hb1.size; (try simp at hS0); omega); have hL1 : w.heap.size + 1 < w1.heap.size := (by have hS0 := hb1.size; (try simp at hS0); omega); have hLe : w.heap.size ≤ w1.heap.size := hB1.size; clear hb1))
  go_wp2_with fail
  go_region_held3 (fun w' => blk? w' (w.heap.size) = some (adr 4 b z) ∧ blk? w' (w.heap.size + 1) = some (adr 4 b' z')) (first | (refine ⟨?_, ?_⟩ <;> go_simp)) (first
    | (go_at_call 108; (with_reducible refine (sbits_4 b HB.out z _).mono ?_); rintro e wA ⟨v8, rfl, hown8, hb1⟩; have hk1 := blk?_below hb1; (try simp only [size_drew', size_drewN'] at hk1); have hB1 := below_via (w := w) (by repeat' (first | (with_reducible exact Below.refl _ _) | (with_reducible assumption) | (with_reducible refine Below.alloc ?_ ?_ _) | (with_reducible refine Below.drew ?_) | (with_reducible refine below_drewN ?_ _) | (with_reducible refine Below.setCell ?_ ?_ _) | (with_reducible refine below_setRow' ?_ ?_ _) | go_size)) hb1; have hL0 : w.heap.size < wA.heap.size := (by have hS0 := hb1.size; (try simp at hS0); omega); have hL1 : w.heap.size + 1 < wA.heap.size := (by have hS0 := hb1.size; (try simp at hS0); omega); have hLe : w.heap.size ≤ wA.heap.size := hB1.size; obtain ⟨gA, capA, rfl, hg0, hgA, hcap, hmax, hcell8, _⟩ := owns_cells hown8 (by omega); have HCA := Lib.hid hcell8; clear hown8 hcell8 hmax hcap hg0; clear hb1)
    | (go_at_call 108; (with_reducible refine (sbits_4 b' HB'.out z' _).mono ?_); rintro e wB ⟨v8, rfl, hown8, hb1⟩; have hk1 := blk?_below hb1; (try simp only [size_drew', size_drewN'] at hk1); have hB1 := below_via (w := w) (by repeat' (first | (with_reducible exact Below.refl _ _) | (with_reducible assumption) | (with_reducible refine Below.alloc ?_ ?_ _) | (with_reducible refine Below.drew ?_) | (with_reducible refine below_drewN ?_ _) | (with_reducible refine Below.setCell ?_ ?_ _) | (with_reducible refine below_setRow' ?_ ?_ _) | go_size)) hb1; have hL0 : w.heap.size < wB.heap.size := (by have hS0 := hb1.size; (try simp at hS0); omega); have hL1 : w.heap.size + 1 < wB.heap.size := (by have hS0 := hb1.size; (try simp at hS0); omega); have hLe : w.heap.size ≤ wB.heap.size := hB1.size; obtain ⟨gB, capB, rfl, hg0, hgB, hcap, hmax, hcell8, _⟩ := owns_cells hown8 (by omega); have HCB := Lib.hid hcell8; have HAB := Lib.hid (bcell hb1).1; clear hown8 hcell8 hmax hcap hg0; clear hb1)
    | (go_at_call 107; (with_reducible refine (sorder_v (bt b) (bt b') 32 (by omega) 1 HV.out _ _ _ _ _ ?_ ?_).mono ?_); (intro i hi; exact (HAB.out _ _ hgA).trans ((HCA.out i hi).trans (btl_get b 32 i hi))); (intro i hi; exact (HCB.out i hi).trans (btl_get b' 32 i hi)); rintro e w9 ⟨rfl, rfl⟩))
  all_goals (go_wp2; go_ret; exact ⟨rfl, (by repeat' (first | (with_reducible exact Below.refl _ _) | (with_reducible assumption) | (with_reducible refine Below.alloc ?_ ?_ _) | (with_reducible refine Below.drew ?_) | (with_reducible refine below_drewN ?_ _) | (with_reducible refine Below.setCell ?_ ?_ _) | (with_reducible refine below_setRow' ?_ ?_ _) | go_size))⟩)
set_option maxHeartbeats 4000000 in
set_option maxRecDepth 100000 in
theorem sCompare_4eq (b b' : Nat → Int) (hb : Bt b) (hb' : Bt b') (z z' : ByteArray) (hv : cmpI (nb (bt b) 32) (nb (bt b') 32) = 0) (w : World) :
    Calls Tryd.prog 58 #[.agg (adr 4 b z), .agg (adr 4 b' z')] w fun e w' => e = .returned (.int .i64 0) ∧ Below w.heap.size w w' := by
  have HB := Lib.hid hb
  have HB' := Lib.hid hb'
  have HV := Lib.hid hv
  clear hb hb' hv
  go_enter Tryd.func58, Tryd.ntmps58
  go_wp2_with fail
  go_region_held3 (fun w' => blk? w' (w.heap.size) = some (adr 4 b z) ∧ blk? w' (w.heap.size + 1) = some (adr 4 b' z')) (first | (refine ⟨?_, ?_⟩ <;> go_simp)) (first
    | (go_at_call 106; (with_reducible refine (sBitLen_4 _ _ _).mono ?_); rintro e w1 ⟨rfl, hb1⟩; have hk1 := blk?_below hb1; (try simp only [size_drew', size_drewN'] at hk1); have hB1 := below_via (w := w) (by repeat' (first | (with_reducible exact Below.refl _ _) | (with_reducible assumption) | (with_reducible refine Below.alloc ?_ ?_ _) | (with_reducible refine Below.drew ?_) | (with_reducible refine below_drewN ?_ _) | (with_reducible refine Below.setCell ?_ ?_ _) | (with_reducible refine below_setRow' ?_ ?_ _) | go_size)) hb1; have hL0 : w.heap.size < w1.heap.size := (by have hS0 := hb1.size; (try simp at hS0); omega); have hL1 : w.heap.size + 1 < w1.heap.size := (by have hS0 := hb1.size; (try simp at hS0); omega); have hLe : w.heap.size ≤ w1.heap.size := hB1.size; clear hb1))
  go_wp2_with fail
  go_region_held3 (fun w' => blk? w' (w.heap.size) = some (adr 4 b z) ∧ blk? w' (w.heap.size + 1) = some (adr 4 b' z')) (first | (refine ⟨?_, ?_⟩ <;> go_simp)) (first
    | (go_at_call 108; (with_reducible refine (sbits_4 b HB.out z _).mono ?_); rintro e wA ⟨v8, rfl, hown8, hb1⟩; have hk1 := blk?_below hb1; (try simp only [size_drew', size_drewN'] at hk1); have hB1 := below_via (w := w) (by repeat' (first | (with_reducible exact Below.refl _ _) | (with_reducible assumption) | (with_reducible refine Below.alloc ?_ ?_ _) | (with_reducible refine Below.drew ?_) | (with_reducible refine below_drewN ?_ _) | (with_reducible refine Below.setCell ?_ ?_ _) | (with_reducible refine below_setRow' ?_ ?_ _) | go_size)) hb1; have hL0 : w.heap.size < wA.heap.size := (by have hS0 := hb1.size; (try simp at hS0); omega); have hL1 : w.heap.size + 1 < wA.heap.size := (by have hS0 := hb1.size; (try simp at hS0); omega); have hLe : w.heap.size ≤ wA.heap.size := hB1.size; obtain ⟨gA, capA, rfl, hg0, hgA, hcap, hmax, hcell8, _⟩ := owns_cells hown8 (by omega); have HCA := Lib.hid hcell8; clear hown8 hcell8 hmax hcap hg0; clear hb1)
    | (go_at_call 108; (with_reducible refine (sbits_4 b' HB'.out z' _).mono ?_); rintro e wB ⟨v8, rfl, hown8, hb1⟩; have hk1 := blk?_below hb1; (try simp only [size_drew', size_drewN'] at hk1); have hB1 := below_via (w := w) (by repeat' (first | (with_reducible exact Below.refl _ _) | (with_reducible assumption) | (with_reducible refine Below.alloc ?_ ?_ _) | (with_reducible refine Below.drew ?_) | (with_reducible refine below_drewN ?_ _) | (with_reducible refine Below.setCell ?_ ?_ _) | (with_reducible refine below_setRow' ?_ ?_ _) | go_size)) hb1; have hL0 : w.heap.size < wB.heap.size := (by have hS0 := hb1.size; (try simp at hS0); omega); have hL1 : w.heap.size + 1 < wB.heap.size := (by have hS0 := hb1.size; (try simp at hS0); omega); have hLe : w.heap.size ≤ wB.heap.size := hB1.size; obtain ⟨gB, capB, rfl, hg0, hgB, hcap, hmax, hcell8, _⟩ := owns_cells hown8 (by omega); have HCB := Lib.hid hcell8; have HAB := Lib.hid (bcell hb1).1; clear hown8 hcell8 hmax hcap hg0; clear hb1)
    | (go_at_call 107; (with_reducible refine (sorder_v (bt b) (bt b') 32 (by omega) 0 HV.out _ _ _ _ _ ?_ ?_).mono ?_); (intro i hi; exact (HAB.out _ _ hgA).trans ((HCA.out i hi).trans (btl_get b 32 i hi))); (intro i hi; exact (HCB.out i hi).trans (btl_get b' 32 i hi)); rintro e w9 ⟨rfl, rfl⟩))
  go_wp2_with fail
  go_region_held3 (fun w' => blk? w' (w.heap.size) = some (adr 4 b z) ∧ blk? w' (w.heap.size + 1) = some (adr 4 b' z')) (first | (refine ⟨?_, ?_⟩ <;> go_simp)) (first
    | (go_at_call 37; (with_reducible refine (sZone_4 _ _ _).mono ?_); rintro e w1 ⟨rfl, hb1⟩; have hk1 := blk?_below hb1; (try simp only [size_drew', size_drewN'] at hk1); have hB1 := below_via (w := w) (by repeat' (first | (with_reducible exact Below.refl _ _) | (with_reducible assumption) | (with_reducible refine Below.alloc ?_ ?_ _) | (with_reducible refine Below.drew ?_) | (with_reducible refine below_drewN ?_ _) | (with_reducible refine Below.setCell ?_ ?_ _) | (with_reducible refine below_setRow' ?_ ?_ _) | go_size)) hb1; have hL0 : w.heap.size < w1.heap.size := (by have hS0 := hb1.size; (try simp at hS0); omega); have hL1 : w.heap.size + 1 < w1.heap.size := (by have hS0 := hb1.size; (try simp at hS0); omega); have hLe : w.heap.size ≤ w1.heap.size := hB1.size; clear hb1)
    | (go_at_call 109; (with_reducible refine (stext_0 _).mono ?_); rintro e w9 ⟨rfl, rfl⟩))
  all_goals (go_wp2; go_ret; exact ⟨rfl, (by repeat' (first | (with_reducible exact Below.refl _ _) | (with_reducible assumption) | (with_reducible refine Below.alloc ?_ ?_ _) | (with_reducible refine Below.drew ?_) | (with_reducible refine below_drewN ?_ _) | (with_reducible refine Below.setCell ?_ ?_ _) | (with_reducible refine below_setRow' ?_ ?_ _) | go_size))⟩)
theorem sCompare_4 (b b' : Nat → Int) (hb : Bt b) (hb' : Bt b') (z z' : ByteArray) (w : World) :
    Calls Tryd.prog 58 #[.agg (adr 4 b z), .agg (adr 4 b' z')] w fun e w' => e = .returned (.int .i64 (cmpI (be4f b 0) (be4f b' 0))) ∧ Below w.heap.size w w' := by
  rw [be4_bt hb, be4_bt hb']
  rcases Int.lt_trichotomy (nb (bt b) 32) (nb (bt b') 32) with h | h | h
  · rw [cmpI_lt h]; exact sCompare_4lt b b' hb hb' z z' (cmpI_lt h) w
  · rw [cmpI_eq h]; exact sCompare_4eq b b' hb hb' z z' (cmpI_eq h) w
  · rw [cmpI_gt h]; exact sCompare_4gt b b' hb hb' z z' (cmpI_gt h) w
set_option maxHeartbeats 4000000 in
set_option maxRecDepth 100000 in
theorem sCompare_16lt (b b' : Nat → Int) (hb : Bt b) (hb' : Bt b') (hv : cmpI (nb (bt b) 128) (nb (bt b') 128) = (-1)) (w : World) :
    Calls Tryd.prog 58 #[.agg (adr 16 b ⟨#[]⟩), .agg (adr 16 b' ⟨#[]⟩)] w fun e w' => e = .returned (.int .i64 (-1)) ∧ Below w.heap.size w w' := by
  have HB := Lib.hid hb
  have HB' := Lib.hid hb'
  have HV := Lib.hid hv
  clear hb hb' hv
  go_enter Tryd.func58, Tryd.ntmps58
  go_wp2_with fail
  go_region_held3 (fun w' => blk? w' (w.heap.size) = some (adr 16 b ⟨#[]⟩) ∧ blk? w' (w.heap.size + 1) = some (adr 16 b' ⟨#[]⟩)) (first | (refine ⟨?_, ?_⟩ <;> go_simp)) (first
    | (go_at_call 106; (with_reducible refine (sBitLen_16 _ _ _).mono ?_); rintro e w1 ⟨rfl, hb1⟩; have hk1 := blk?_below hb1; (try simp only [size_drew', size_drewN'] at hk1); have hB1 := below_via (w := w) (by repeat' (first | (with_reducible exact Below.refl _ _) | (with_reducible assumption) | (with_reducible refine Below.alloc ?_ ?_ _) | (with_reducible refine Below.drew ?_) | (with_reducible refine below_drewN ?_ _) | (with_reducible refine Below.setCell ?_ ?_ _) | (with_reducible refine below_setRow' ?_ ?_ _) | go_size)) hb1; have hL0 : w.heap.size < w1.heap.size := (by have hS0 := hb1.size; (try simp at hS0); omega); have hL1 : w.heap.size + 1 < w1.heap.size := (by have hS0 := hb1.size; (try simp at hS0); omega); have hLe : w.heap.size ≤ w1.heap.size := hB1.size; clear hb1))
  go_wp2_with fail
  go_region_held3 (fun w' => blk? w' (w.heap.size) = some (adr 16 b ⟨#[]⟩) ∧ blk? w' (w.heap.size + 1) = some (adr 16 b' ⟨#[]⟩)) (first | (refine ⟨?_, ?_⟩ <;> go_simp)) (first
    | (go_at_call 108; (with_reducible refine (sbits_16 b HB.out ⟨#[]⟩ _).mono ?_); rintro e wA ⟨v8, rfl, hown8, hb1⟩; have hk1 := blk?_below hb1; (try simp only [size_drew', size_drewN'] at hk1); have hB1 := below_via (w := w) (by repeat' (first | (with_reducible exact Below.refl _ _) | (with_reducible assumption) | (with_reducible refine Below.alloc ?_ ?_ _) | (with_reducible refine Below.drew ?_) | (with_reducible refine below_drewN ?_ _) | (with_reducible refine Below.setCell ?_ ?_ _) | (with_reducible refine below_setRow' ?_ ?_ _) | go_size)) hb1; have hL0 : w.heap.size < wA.heap.size := (by have hS0 := hb1.size; (try simp at hS0); omega); have hL1 : w.heap.size + 1 < wA.heap.size := (by have hS0 := hb1.size; (try simp at hS0); omega); have hLe : w.heap.size ≤ wA.heap.size := hB1.size; obtain ⟨gA, capA, rfl, hg0, hgA, hcap, hmax, hcell8, _⟩ := owns_cells hown8 (by omega); have HCA := Lib.hid hcell8; clear hown8 hcell8 hmax hcap hg0; clear hb1)
    | (go_at_call 108; (with_reducible refine (sbits_16 b' HB'.out ⟨#[]⟩ _).mono ?_); rintro e wB ⟨v8, rfl, hown8, hb1⟩; have hk1 := blk?_below hb1; (try simp only [size_drew', size_drewN'] at hk1); have hB1 := below_via (w := w) (by repeat' (first | (with_reducible exact Below.refl _ _) | (with_reducible assumption) | (with_reducible refine Below.alloc ?_ ?_ _) | (with_reducible refine Below.drew ?_) | (with_reducible refine below_drewN ?_ _) | (with_reducible refine Below.setCell ?_ ?_ _) | (with_reducible refine below_setRow' ?_ ?_ _) | go_size)) hb1; have hL0 : w.heap.size < wB.heap.size := (by have hS0 := hb1.size; (try simp at hS0); omega); have hL1 : w.heap.size + 1 < wB.heap.size := (by have hS0 := hb1.size; (try simp at hS0); omega); have hLe : w.heap.size ≤ wB.heap.size := hB1.size; obtain ⟨gB, capB, rfl, hg0, hgB, hcap, hmax, hcell8, _⟩ := owns_cells hown8 (by omega); have HCB := Lib.hid hcell8; have HAB := Lib.hid (bcell hb1).1; clear hown8 hcell8 hmax hcap hg0; clear hb1)
    | (go_at_call 107; (with_reducible refine (sorder_v (bt b) (bt b') 128 (by omega) (-1) HV.out _ _ _ _ _ ?_ ?_).mono ?_); (intro i hi; exact (HAB.out _ _ hgA).trans ((HCA.out i hi).trans (btl_get b 128 i hi))); (intro i hi; exact (HCB.out i hi).trans (btl_get b' 128 i hi)); rintro e w9 ⟨rfl, rfl⟩))
  all_goals (go_wp2; go_ret; exact ⟨rfl, (by repeat' (first | (with_reducible exact Below.refl _ _) | (with_reducible assumption) | (with_reducible refine Below.alloc ?_ ?_ _) | (with_reducible refine Below.drew ?_) | (with_reducible refine below_drewN ?_ _) | (with_reducible refine Below.setCell ?_ ?_ _) | (with_reducible refine below_setRow' ?_ ?_ _) | go_size))⟩)
set_option maxHeartbeats 4000000 in
set_option maxRecDepth 100000 in
theorem sCompare_16gt (b b' : Nat → Int) (hb : Bt b) (hb' : Bt b') (hv : cmpI (nb (bt b) 128) (nb (bt b') 128) = 1) (w : World) :
    Calls Tryd.prog 58 #[.agg (adr 16 b ⟨#[]⟩), .agg (adr 16 b' ⟨#[]⟩)] w fun e w' => e = .returned (.int .i64 1) ∧ Below w.heap.size w w' := by
  have HB := Lib.hid hb
  have HB' := Lib.hid hb'
  have HV := Lib.hid hv
  clear hb hb' hv
  go_enter Tryd.func58, Tryd.ntmps58
  go_wp2_with fail
  go_region_held3 (fun w' => blk? w' (w.heap.size) = some (adr 16 b ⟨#[]⟩) ∧ blk? w' (w.heap.size + 1) = some (adr 16 b' ⟨#[]⟩)) (first | (refine ⟨?_, ?_⟩ <;> go_simp)) (first
    | (go_at_call 106; (with_reducible refine (sBitLen_16 _ _ _).mono ?_); rintro e w1 ⟨rfl, hb1⟩; have hk1 := blk?_below hb1; (try simp only [size_drew', size_drewN'] at hk1); have hB1 := below_via (w := w) (by repeat' (first | (with_reducible exact Below.refl _ _) | (with_reducible assumption) | (with_reducible refine Below.alloc ?_ ?_ _) | (with_reducible refine Below.drew ?_) | (with_reducible refine below_drewN ?_ _) | (with_reducible refine Below.setCell ?_ ?_ _) | (with_reducible refine below_setRow' ?_ ?_ _) | go_size)) hb1; have hL0 : w.heap.size < w1.heap.size := (by have hS0 := hb1.size; (try simp at hS0); omega); have hL1 : w.heap.size + 1 < w1.heap.size := (by have hS0 := hb1.size; (try simp at hS0); omega); have hLe : w.heap.size ≤ w1.heap.size := hB1.size; clear hb1))
  go_wp2_with fail
  go_region_held3 (fun w' => blk? w' (w.heap.size) = some (adr 16 b ⟨#[]⟩) ∧ blk? w' (w.heap.size + 1) = some (adr 16 b' ⟨#[]⟩)) (first | (refine ⟨?_, ?_⟩ <;> go_simp)) (first
    | (go_at_call 108; (with_reducible refine (sbits_16 b HB.out ⟨#[]⟩ _).mono ?_); rintro e wA ⟨v8, rfl, hown8, hb1⟩; have hk1 := blk?_below hb1; (try simp only [size_drew', size_drewN'] at hk1); have hB1 := below_via (w := w) (by repeat' (first | (with_reducible exact Below.refl _ _) | (with_reducible assumption) | (with_reducible refine Below.alloc ?_ ?_ _) | (with_reducible refine Below.drew ?_) | (with_reducible refine below_drewN ?_ _) | (with_reducible refine Below.setCell ?_ ?_ _) | (with_reducible refine below_setRow' ?_ ?_ _) | go_size)) hb1; have hL0 : w.heap.size < wA.heap.size := (by have hS0 := hb1.size; (try simp at hS0); omega); have hL1 : w.heap.size + 1 < wA.heap.size := (by have hS0 := hb1.size; (try simp at hS0); omega); have hLe : w.heap.size ≤ wA.heap.size := hB1.size; obtain ⟨gA, capA, rfl, hg0, hgA, hcap, hmax, hcell8, _⟩ := owns_cells hown8 (by omega); have HCA := Lib.hid hcell8; clear hown8 hcell8 hmax hcap hg0; clear hb1)
    | (go_at_call 108; (with_reducible refine (sbits_16 b' HB'.out ⟨#[]⟩ _).mono ?_); rintro e wB ⟨v8, rfl, hown8, hb1⟩; have hk1 := blk?_below hb1; (try simp only [size_drew', size_drewN'] at hk1); have hB1 := below_via (w := w) (by repeat' (first | (with_reducible exact Below.refl _ _) | (with_reducible assumption) | (with_reducible refine Below.alloc ?_ ?_ _) | (with_reducible refine Below.drew ?_) | (with_reducible refine below_drewN ?_ _) | (with_reducible refine Below.setCell ?_ ?_ _) | (with_reducible refine below_setRow' ?_ ?_ _) | go_size)) hb1; have hL0 : w.heap.size < wB.heap.size := (by have hS0 := hb1.size; (try simp at hS0); omega); have hL1 : w.heap.size + 1 < wB.heap.size := (by have hS0 := hb1.size; (try simp at hS0); omega); have hLe : w.heap.size ≤ wB.heap.size := hB1.size; obtain ⟨gB, capB, rfl, hg0, hgB, hcap, hmax, hcell8, _⟩ := owns_cells hown8 (by omega); have HCB := Lib.hid hcell8; have HAB := Lib.hid (bcell hb1).1; clear hown8 hcell8 hmax hcap hg0; clear hb1)
    | (go_at_call 107; (with_reducible refine (sorder_v (bt b) (bt b') 128 (by omega) 1 HV.out _ _ _ _ _ ?_ ?_).mono ?_); (intro i hi; exact (HAB.out _ _ hgA).trans ((HCA.out i hi).trans (btl_get b 128 i hi))); (intro i hi; exact (HCB.out i hi).trans (btl_get b' 128 i hi)); rintro e w9 ⟨rfl, rfl⟩))
  all_goals (go_wp2; go_ret; exact ⟨rfl, (by repeat' (first | (with_reducible exact Below.refl _ _) | (with_reducible assumption) | (with_reducible refine Below.alloc ?_ ?_ _) | (with_reducible refine Below.drew ?_) | (with_reducible refine below_drewN ?_ _) | (with_reducible refine Below.setCell ?_ ?_ _) | (with_reducible refine below_setRow' ?_ ?_ _) | go_size))⟩)
set_option maxHeartbeats 4000000 in
set_option maxRecDepth 100000 in
theorem sCompare_16eq (b b' : Nat → Int) (hb : Bt b) (hb' : Bt b') (hv : cmpI (nb (bt b) 128) (nb (bt b') 128) = 0) (w : World) :
    Calls Tryd.prog 58 #[.agg (adr 16 b ⟨#[]⟩), .agg (adr 16 b' ⟨#[]⟩)] w fun e w' => e = .returned (.int .i64 0) ∧ Below w.heap.size w w' := by
  have HB := Lib.hid hb
  have HB' := Lib.hid hb'
  have HV := Lib.hid hv
  clear hb hb' hv
  go_enter Tryd.func58, Tryd.ntmps58
  go_wp2_with fail
  go_region_held3 (fun w' => blk? w' (w.heap.size) = some (adr 16 b ⟨#[]⟩) ∧ blk? w' (w.heap.size + 1) = some (adr 16 b' ⟨#[]⟩)) (first | (refine ⟨?_, ?_⟩ <;> go_simp)) (first
    | (go_at_call 106; (with_reducible refine (sBitLen_16 _ _ _).mono ?_); rintro e w1 ⟨rfl, hb1⟩; have hk1 := blk?_below hb1; (try simp only [size_drew', size_drewN'] at hk1); have hB1 := below_via (w := w) (by repeat' (first | (with_reducible exact Below.refl _ _) | (with_reducible assumption) | (with_reducible refine Below.alloc ?_ ?_ _) | (with_reducible refine Below.drew ?_) | (with_reducible refine below_drewN ?_ _) | (with_reducible refine Below.setCell ?_ ?_ _) | (with_reducible refine below_setRow' ?_ ?_ _) | go_size)) hb1; have hL0 : w.heap.size < w1.heap.size := (by have hS0 := hb1.size; (try simp at hS0); omega); have hL1 : w.heap.size + 1 < w1.heap.size := (by have hS0 := hb1.size; (try simp at hS0); omega); have hLe : w.heap.size ≤ w1.heap.size := hB1.size; clear hb1))
  go_wp2_with fail
  go_region_held3 (fun w' => blk? w' (w.heap.size) = some (adr 16 b ⟨#[]⟩) ∧ blk? w' (w.heap.size + 1) = some (adr 16 b' ⟨#[]⟩)) (first | (refine ⟨?_, ?_⟩ <;> go_simp)) (first
    | (go_at_call 108; (with_reducible refine (sbits_16 b HB.out ⟨#[]⟩ _).mono ?_); rintro e wA ⟨v8, rfl, hown8, hb1⟩; have hk1 := blk?_below hb1; (try simp only [size_drew', size_drewN'] at hk1); have hB1 := below_via (w := w) (by repeat' (first | (with_reducible exact Below.refl _ _) | (with_reducible assumption) | (with_reducible refine Below.alloc ?_ ?_ _) | (with_reducible refine Below.drew ?_) | (with_reducible refine below_drewN ?_ _) | (with_reducible refine Below.setCell ?_ ?_ _) | (with_reducible refine below_setRow' ?_ ?_ _) | go_size)) hb1; have hL0 : w.heap.size < wA.heap.size := (by have hS0 := hb1.size; (try simp at hS0); omega); have hL1 : w.heap.size + 1 < wA.heap.size := (by have hS0 := hb1.size; (try simp at hS0); omega); have hLe : w.heap.size ≤ wA.heap.size := hB1.size; obtain ⟨gA, capA, rfl, hg0, hgA, hcap, hmax, hcell8, _⟩ := owns_cells hown8 (by omega); have HCA := Lib.hid hcell8; clear hown8 hcell8 hmax hcap hg0; clear hb1)
    | (go_at_call 108; (with_reducible refine (sbits_16 b' HB'.out ⟨#[]⟩ _).mono ?_); rintro e wB ⟨v8, rfl, hown8, hb1⟩; have hk1 := blk?_below hb1; (try simp only [size_drew', size_drewN'] at hk1); have hB1 := below_via (w := w) (by repeat' (first | (with_reducible exact Below.refl _ _) | (with_reducible assumption) | (with_reducible refine Below.alloc ?_ ?_ _) | (with_reducible refine Below.drew ?_) | (with_reducible refine below_drewN ?_ _) | (with_reducible refine Below.setCell ?_ ?_ _) | (with_reducible refine below_setRow' ?_ ?_ _) | go_size)) hb1; have hL0 : w.heap.size < wB.heap.size := (by have hS0 := hb1.size; (try simp at hS0); omega); have hL1 : w.heap.size + 1 < wB.heap.size := (by have hS0 := hb1.size; (try simp at hS0); omega); have hLe : w.heap.size ≤ wB.heap.size := hB1.size; obtain ⟨gB, capB, rfl, hg0, hgB, hcap, hmax, hcell8, _⟩ := owns_cells hown8 (by omega); have HCB := Lib.hid hcell8; have HAB := Lib.hid (bcell hb1).1; clear hown8 hcell8 hmax hcap hg0; clear hb1)
    | (go_at_call 107; (with_reducible refine (sorder_v (bt b) (bt b') 128 (by omega) 0 HV.out _ _ _ _ _ ?_ ?_).mono ?_); (intro i hi; exact (HAB.out _ _ hgA).trans ((HCA.out i hi).trans (btl_get b 128 i hi))); (intro i hi; exact (HCB.out i hi).trans (btl_get b' 128 i hi)); rintro e w9 ⟨rfl, rfl⟩))
  go_wp2_with fail
  go_region_held3 (fun w' => blk? w' (w.heap.size) = some (adr 16 b ⟨#[]⟩) ∧ blk? w' (w.heap.size + 1) = some (adr 16 b' ⟨#[]⟩)) (first | (refine ⟨?_, ?_⟩ <;> go_simp)) (first
    | (go_at_call 37; (with_reducible refine (sZone_16 _ _ _).mono ?_); rintro e w1 ⟨rfl, hb1⟩; have hk1 := blk?_below hb1; (try simp only [size_drew', size_drewN'] at hk1); have hB1 := below_via (w := w) (by repeat' (first | (with_reducible exact Below.refl _ _) | (with_reducible assumption) | (with_reducible refine Below.alloc ?_ ?_ _) | (with_reducible refine Below.drew ?_) | (with_reducible refine below_drewN ?_ _) | (with_reducible refine Below.setCell ?_ ?_ _) | (with_reducible refine below_setRow' ?_ ?_ _) | go_size)) hb1; have hL0 : w.heap.size < w1.heap.size := (by have hS0 := hb1.size; (try simp at hS0); omega); have hL1 : w.heap.size + 1 < w1.heap.size := (by have hS0 := hb1.size; (try simp at hS0); omega); have hLe : w.heap.size ≤ w1.heap.size := hB1.size; clear hb1)
    | (go_at_call 109; (with_reducible refine (stext_0 _).mono ?_); rintro e w9 ⟨rfl, rfl⟩))
  all_goals (go_wp2; go_ret; exact ⟨rfl, (by repeat' (first | (with_reducible exact Below.refl _ _) | (with_reducible assumption) | (with_reducible refine Below.alloc ?_ ?_ _) | (with_reducible refine Below.drew ?_) | (with_reducible refine below_drewN ?_ _) | (with_reducible refine Below.setCell ?_ ?_ _) | (with_reducible refine below_setRow' ?_ ?_ _) | go_size))⟩)
theorem sCompare_16 (b b' : Nat → Int) (hb : Bt b) (hb' : Bt b') (w : World) :
    Calls Tryd.prog 58 #[.agg (adr 16 b ⟨#[]⟩), .agg (adr 16 b' ⟨#[]⟩)] w fun e w' => e = .returned (.int .i64 (cmpI (v16 b) (v16 b'))) ∧ Below w.heap.size w w' := by
  rw [v16_bt hb, v16_bt hb']
  rcases Int.lt_trichotomy (nb (bt b) 128) (nb (bt b') 128) with h | h | h
  · rw [cmpI_lt h]; exact sCompare_16lt b b' hb hb'  (cmpI_lt h) w
  · rw [cmpI_eq h]; exact sCompare_16eq b b' hb hb'  (cmpI_eq h) w
  · rw [cmpI_gt h]; exact sCompare_16gt b b' hb hb'  (cmpI_gt h) w
end Go.Proofs.YtmlkcgacneealaaDoor
