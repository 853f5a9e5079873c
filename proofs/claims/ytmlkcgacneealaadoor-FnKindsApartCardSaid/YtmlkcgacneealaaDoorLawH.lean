/- IsUnspecified of the reference, defined; FnKinds returns true. Conditions: the listed variables as laid. -/
import Derived.Test.YtmlkcgacneealaaDoorPKinds
import Derived.Test.YtmlkcgacneealaaDoorKindsD
import Derived.Test.YtmlkcgacneealaaDoorLawF
set_option linter.unusedVariables false
set_option linter.unusedSimpArgs false
namespace Go.Proofs.YtmlkcgacneealaaDoor
open Go.RowKit
set_option maxHeartbeats 4000000 in
set_option maxRecDepth 100000 in
theorem sUns_0 (n : Int) (h4 : n ≠ 4) (h16 : n ≠ 16) (b : Nat → Int) (z : ByteArray) (w : World) :
    Calls Tryd.prog 99 #[.agg (adr n b z)] w fun e w' => e = .returned (.bool false) ∧ Below w.heap.size w w' := by
  go_enter Tryd.func99, Tryd.ntmps99
  go_wp2_with fail
  go_region_with (first
    | (go_at_call 80; (with_reducible refine (sIsValid_0 n h4 h16 _ _ _).mono ?_); rintro e w1 ⟨rfl, hb1⟩; have hk1 := blk?_below hb1; (try simp only [size_drew', size_drewN'] at hk1); have hB1 := below_via (w := w) (by repeat' (first | (with_reducible exact Below.refl _ _) | (with_reducible assumption) | (with_reducible refine Below.alloc ?_ ?_ _) | (with_reducible refine Below.drew ?_) | (with_reducible refine below_drewN ?_ _) | (with_reducible refine Below.setCell ?_ ?_ _) | (with_reducible refine below_setRow' ?_ ?_ _) | go_size)) hb1; have hL0 : w.heap.size < w1.heap.size := (by have hS0 := hb1.size; (try simp at hS0); omega); have hLe : w.heap.size ≤ w1.heap.size := hB1.size; clear hb1))
  all_goals (go_wp2; go_ret; exact ⟨rfl, (by repeat' (first | (with_reducible exact Below.refl _ _) | (with_reducible assumption) | (with_reducible refine Below.alloc ?_ ?_ _) | (with_reducible refine Below.drew ?_) | (with_reducible refine below_drewN ?_ _) | (with_reducible refine Below.setCell ?_ ?_ _) | (with_reducible refine below_setRow' ?_ ?_ _) | go_size))⟩)
set_option maxHeartbeats 4000000 in
set_option maxRecDepth 100000 in
theorem sUns_4 (b : Nat → Int) (hb : Bt b) (z : ByteArray) (w : World) :
    Calls Tryd.prog 99 #[.agg (adr 4 b z)] w fun e w' => e = .returned (.bool (be4f b 0 == 0)) ∧ Below w.heap.size w w' := by
  rw [← uns4_eq hb]
  clear hb
  go_enter Tryd.func99, Tryd.ntmps99
  go_wp2_with fail
  go_region_held3 (fun w' => blk? w' (w.heap.size) = some (adr 4 b z)) (first | go_simp) (first
    | (go_at_call 80; (with_reducible refine (sIsValid_4 _ _ _).mono ?_); rintro e w1 ⟨rfl, hb1⟩; have hk1 := blk?_below hb1; (try simp only [size_drew', size_drewN'] at hk1); have hB1 := below_via (w := w) (by repeat' (first | (with_reducible exact Below.refl _ _) | (with_reducible assumption) | (with_reducible refine Below.alloc ?_ ?_ _) | (with_reducible refine Below.drew ?_) | (with_reducible refine below_drewN ?_ _) | (with_reducible refine Below.setCell ?_ ?_ _) | (with_reducible refine below_setRow' ?_ ?_ _) | go_size)) hb1; have hL0 : w.heap.size < w1.heap.size := (by have hS0 := hb1.size; (try simp at hS0); omega); have hLe : w.heap.size ≤ w1.heap.size := hB1.size; clear hb1)
    | (go_at_call 81; (with_reducible refine (same_4 _ _ _).mono ?_); rintro e w1 ⟨rfl, hb1⟩; have hk1 := blk?_below hb1; (try simp only [size_drew', size_drewN'] at hk1); have hB1 := below_via (w := w) (by repeat' (first | (with_reducible exact Below.refl _ _) | (with_reducible assumption) | (with_reducible refine Below.alloc ?_ ?_ _) | (with_reducible refine Below.drew ?_) | (with_reducible refine below_drewN ?_ _) | (with_reducible refine Below.setCell ?_ ?_ _) | (with_reducible refine below_setRow' ?_ ?_ _) | go_size)) hb1; have hL0 : w.heap.size < w1.heap.size := (by have hS0 := hb1.size; (try simp at hS0); omega); have hLe : w.heap.size ≤ w1.heap.size := hB1.size; clear hb1))
  all_goals (go_wp2; go_ret; exact ⟨rfl, (by repeat' (first | (with_reducible exact Below.refl _ _) | (with_reducible assumption) | (with_reducible refine Below.alloc ?_ ?_ _) | (with_reducible refine Below.drew ?_) | (with_reducible refine below_drewN ?_ _) | (with_reducible refine Below.setCell ?_ ?_ _) | (with_reducible refine below_setRow' ?_ ?_ _) | go_size))⟩)
set_option maxHeartbeats 4000000 in
set_option maxRecDepth 100000 in
theorem sUns_16 (b : Nat → Int) (hb : Bt b) (w : World) :
    Calls Tryd.prog 99 #[.agg (adr 16 b ⟨#[]⟩)] w fun e w' => e = .returned (.bool (((be8f b 0) == 0) && ((be8f b 8) == 0))) ∧ Below w.heap.size w w' := by
  rw [← uns6_eq hb]
  clear hb
  go_enter Tryd.func99, Tryd.ntmps99
  go_wp2_with fail
  go_region_held3 (fun w' => blk? w' (w.heap.size) = some (adr 16 b ⟨#[]⟩)) (first | go_simp) (first
    | (go_at_call 80; (with_reducible refine (sIsValid_16 _ _ _).mono ?_); rintro e w1 ⟨rfl, hb1⟩; have hk1 := blk?_below hb1; (try simp only [size_drew', size_drewN'] at hk1); have hB1 := below_via (w := w) (by repeat' (first | (with_reducible exact Below.refl _ _) | (with_reducible assumption) | (with_reducible refine Below.alloc ?_ ?_ _) | (with_reducible refine Below.drew ?_) | (with_reducible refine below_drewN ?_ _) | (with_reducible refine Below.setCell ?_ ?_ _) | (with_reducible refine below_setRow' ?_ ?_ _) | go_size)) hb1; have hL0 : w.heap.size < w1.heap.size := (by have hS0 := hb1.size; (try simp at hS0); omega); have hLe : w.heap.size ≤ w1.heap.size := hB1.size; clear hb1)
    | (go_at_call 81; (with_reducible refine (same_16 _ _ _).mono ?_); rintro e w1 ⟨rfl, hb1⟩; have hk1 := blk?_below hb1; (try simp only [size_drew', size_drewN'] at hk1); have hB1 := below_via (w := w) (by repeat' (first | (with_reducible exact Below.refl _ _) | (with_reducible assumption) | (with_reducible refine Below.alloc ?_ ?_ _) | (with_reducible refine Below.drew ?_) | (with_reducible refine below_drewN ?_ _) | (with_reducible refine Below.setCell ?_ ?_ _) | (with_reducible refine below_setRow' ?_ ?_ _) | go_size)) hb1; have hL0 : w.heap.size < w1.heap.size := (by have hS0 := hb1.size; (try simp at hS0); omega); have hLe : w.heap.size ≤ w1.heap.size := hB1.size; clear hb1))
  all_goals (go_wp2; go_ret; exact ⟨rfl, (by repeat' (first | (with_reducible exact Below.refl _ _) | (with_reducible assumption) | (with_reducible refine Below.alloc ?_ ?_ _) | (with_reducible refine Below.drew ?_) | (with_reducible refine below_drewN ?_ _) | (with_reducible refine Below.setCell ?_ ?_ _) | (with_reducible refine below_setRow' ?_ ?_ _) | go_size))⟩)
theorem dLoop_0 (n : Int) (h4 : n ≠ 4) (h16 : n ≠ 16) (b : Nat → Int) (hb : Bt b) (z : ByteArray) (w : World) : Calls Tryd.prog 100 #[.agg (adr n b z)] w fun e w' => e = .returned (.bool (false)) ∧ Below w.heap.size w w' := by
  have h := sLoop_0 n h4 h16 b hb z w
  exact h
theorem dMult_0 (n : Int) (h4 : n ≠ 4) (h16 : n ≠ 16) (b : Nat → Int) (hb : Bt b) (z : ByteArray) (w : World) : Calls Tryd.prog 101 #[.agg (adr n b z)] w fun e w' => e = .returned (.bool (false)) ∧ Below w.heap.size w w' := by
  have h := sMult_0 n h4 h16 b hb z w
  exact h
theorem dIfl_0 (n : Int) (h4 : n ≠ 4) (h16 : n ≠ 16) (b : Nat → Int) (hb : Bt b) (z : ByteArray) (w : World) : Calls Tryd.prog 102 #[.agg (adr n b z)] w fun e w' => e = .returned (.bool (false)) ∧ Below w.heap.size w w' := by
  have h := sIfl_0 n h4 h16 b hb z w
  exact h
theorem dLLM_0 (n : Int) (h4 : n ≠ 4) (h16 : n ≠ 16) (b : Nat → Int) (hb : Bt b) (z : ByteArray) (w : World) : Calls Tryd.prog 103 #[.agg (adr n b z)] w fun e w' => e = .returned (.bool (false)) ∧ Below w.heap.size w w' := by
  have h := sLLM_0 n h4 h16 b hb z w
  exact h
theorem dLLU_0 (n : Int) (h4 : n ≠ 4) (h16 : n ≠ 16) (b : Nat → Int) (hb : Bt b) (z : ByteArray) (w : World) : Calls Tryd.prog 104 #[.agg (adr n b z)] w fun e w' => e = .returned (.bool (false)) ∧ Below w.heap.size w w' := by
  have h := sLLU_0 n h4 h16 b hb z w
  exact h
theorem dPriv_0 (n : Int) (h4 : n ≠ 4) (h16 : n ≠ 16) (b : Nat → Int) (hb : Bt b) (z : ByteArray) (w : World) : Calls Tryd.prog 105 #[.agg (adr n b z)] w fun e w' => e = .returned (.bool (false)) ∧ Below w.heap.size w w' := by
  have h := sPriv_0 n h4 h16 b hb z w
  exact h
set_option maxHeartbeats 4000000 in
set_option maxRecDepth 100000 in
theorem defined_0 (n : Int) (h4 : n ≠ 4) (h16 : n ≠ 16) (b : Nat → Int) (hb : Bt b) (z : ByteArray) (w : World) :
    Calls Tryd.prog 57 #[.agg (adr n b z)] w fun e w' => e = .returned (.agg (b7 (false) (false) (false) (false) (false) (false) (false))) ∧ Below w.heap.size w w' := by
  have HB := Lib.hid hb
  clear hb
  go_enter Tryd.func57, Tryd.ntmps57
  go_wp2_with fail
  go_region_held (fun w' => blk? w' (w.heap.size) = some (adr n b z)) (first | go_simp) (first
    | (go_at_call 99; (with_reducible refine (sUns_0 n h4 h16 _ _ _).mono ?_); rintro e w1 ⟨rfl, hb1⟩; have hk1 := blk?_below hb1; (try simp only [size_drew', size_drewN'] at hk1); have hB1 := below_via (w := w) (by repeat' (first | (with_reducible exact Below.refl _ _) | (with_reducible assumption) | (with_reducible refine Below.alloc ?_ ?_ _) | (with_reducible refine Below.drew ?_) | (with_reducible refine below_drewN ?_ _) | (with_reducible refine Below.setCell ?_ ?_ _) | (with_reducible refine below_setRow' ?_ ?_ _) | go_size)) hb1; have hL0 : w.heap.size < w1.heap.size := (by have hS0 := hb1.size; (try simp at hS0); omega); have hL1 : w.heap.size + 1 < w1.heap.size := (by have hS0 := hb1.size; (try simp at hS0); omega); have hLe : w.heap.size ≤ w1.heap.size := hB1.size; clear hb1)
    | (go_at_call 100; (with_reducible refine (dLoop_0 n h4 h16 _ HB.out _ _).mono ?_); rintro e w1 ⟨rfl, hb1⟩; have hk1 := blk?_below hb1; (try simp only [size_drew', size_drewN'] at hk1); have hB1 := below_via (w := w) (by repeat' (first | (with_reducible exact Below.refl _ _) | (with_reducible assumption) | (with_reducible refine Below.alloc ?_ ?_ _) | (with_reducible refine Below.drew ?_) | (with_reducible refine below_drewN ?_ _) | (with_reducible refine Below.setCell ?_ ?_ _) | (with_reducible refine below_setRow' ?_ ?_ _) | go_size)) hb1; have hL0 : w.heap.size < w1.heap.size := (by have hS0 := hb1.size; (try simp at hS0); omega); have hL1 : w.heap.size + 1 < w1.heap.size := (by have hS0 := hb1.size; (try simp at hS0); omega); have hLe : w.heap.size ≤ w1.heap.size := hB1.size; clear hb1)
    | (go_at_call 101; (with_reducible refine (dMult_0 n h4 h16 _ HB.out _ _).mono ?_); rintro e w1 ⟨rfl, hb1⟩; have hk1 := blk?_below hb1; (try simp only [size_drew', size_drewN'] at hk1); have hB1 := below_via (w := w) (by repeat' (first | (with_reducible exact Below.refl _ _) | (with_reducible assumption) | (with_reducible refine Below.alloc ?_ ?_ _) | (with_reducible refine Below.drew ?_) | (with_reducible refine below_drewN ?_ _) | (with_reducible refine Below.setCell ?_ ?_ _) | (with_reducible refine below_setRow' ?_ ?_ _) | go_size)) hb1; have hL0 : w.heap.size < w1.heap.size := (by have hS0 := hb1.size; (try simp at hS0); omega); have hL1 : w.heap.size + 1 < w1.heap.size := (by have hS0 := hb1.size; (try simp at hS0); omega); have hLe : w.heap.size ≤ w1.heap.size := hB1.size; clear hb1)
    | (go_at_call 102; (with_reducible refine (dIfl_0 n h4 h16 _ HB.out _ _).mono ?_); rintro e w1 ⟨rfl, hb1⟩; have hk1 := blk?_below hb1; (try simp only [size_drew', size_drewN'] at hk1); have hB1 := below_via (w := w) (by repeat' (first | (with_reducible exact Below.refl _ _) | (with_reducible assumption) | (with_reducible refine Below.alloc ?_ ?_ _) | (with_reducible refine Below.drew ?_) | (with_reducible refine below_drewN ?_ _) | (with_reducible refine Below.setCell ?_ ?_ _) | (with_reducible refine below_setRow' ?_ ?_ _) | go_size)) hb1; have hL0 : w.heap.size < w1.heap.size := (by have hS0 := hb1.size; (try simp at hS0); omega); have hL1 : w.heap.size + 1 < w1.heap.size := (by have hS0 := hb1.size; (try simp at hS0); omega); have hLe : w.heap.size ≤ w1.heap.size := hB1.size; clear hb1)
    | (go_at_call 103; (with_reducible refine (dLLM_0 n h4 h16 _ HB.out _ _).mono ?_); rintro e w1 ⟨rfl, hb1⟩; have hk1 := blk?_below hb1; (try simp only [size_drew', size_drewN'] at hk1); have hB1 := below_via (w := w) (by repeat' (first | (with_reducible exact Below.refl _ _) | (with_reducible assumption) | (with_reducible refine Below.alloc ?_ ?_ _) | (with_reducible refine Below.drew ?_) | (with_reducible refine below_drewN ?_ _) | (with_reducible refine Below.setCell ?_ ?_ _) | (with_reducible refine below_setRow' ?_ ?_ _) | go_size)) hb1; have hL0 : w.heap.size < w1.heap.size := (by have hS0 := hb1.size; (try simp at hS0); omega); have hL1 : w.heap.size + 1 < w1.heap.size := (by have hS0 := hb1.size; (try simp at hS0); omega); have hLe : w.heap.size ≤ w1.heap.size := hB1.size; clear hb1)
    | (go_at_call 104; (with_reducible refine (dLLU_0 n h4 h16 _ HB.out _ _).mono ?_); rintro e w1 ⟨rfl, hb1⟩; have hk1 := blk?_below hb1; (try simp only [size_drew', size_drewN'] at hk1); have hB1 := below_via (w := w) (by repeat' (first | (with_reducible exact Below.refl _ _) | (with_reducible assumption) | (with_reducible refine Below.alloc ?_ ?_ _) | (with_reducible refine Below.drew ?_) | (with_reducible refine below_drewN ?_ _) | (with_reducible refine Below.setCell ?_ ?_ _) | (with_reducible refine below_setRow' ?_ ?_ _) | go_size)) hb1; have hL0 : w.heap.size < w1.heap.size := (by have hS0 := hb1.size; (try simp at hS0); omega); have hL1 : w.heap.size + 1 < w1.heap.size := (by have hS0 := hb1.size; (try simp at hS0); omega); have hLe : w.heap.size ≤ w1.heap.size := hB1.size; clear hb1)
    | (go_at_call 105; (with_reducible refine (dPriv_0 n h4 h16 _ HB.out _ _).mono ?_); rintro e w1 ⟨rfl, hb1⟩; have hk1 := blk?_below hb1; (try simp only [size_drew', size_drewN'] at hk1); have hB1 := below_via (w := w) (by repeat' (first | (with_reducible exact Below.refl _ _) | (with_reducible assumption) | (with_reducible refine Below.alloc ?_ ?_ _) | (with_reducible refine Below.drew ?_) | (with_reducible refine below_drewN ?_ _) | (with_reducible refine Below.setCell ?_ ?_ _) | (with_reducible refine below_setRow' ?_ ?_ _) | go_size)) hb1; have hL0 : w.heap.size < w1.heap.size := (by have hS0 := hb1.size; (try simp at hS0); omega); have hL1 : w.heap.size + 1 < w1.heap.size := (by have hS0 := hb1.size; (try simp at hS0); omega); have hLe : w.heap.size ≤ w1.heap.size := hB1.size; clear hb1))
  all_goals
    go_wp2
    refine bodyPost_ret (res57 Tryd.results57 _ _ (w.heap.size + 1) _ rfl ?_ rfl) rfl ⟨rfl, (by repeat' (first | (with_reducible exact Below.refl _ _) | (with_reducible assumption) | (with_reducible refine Below.alloc ?_ ?_ _) | (with_reducible refine Below.drew ?_) | (with_reducible refine below_drewN ?_ _) | (with_reducible refine Below.setCell ?_ ?_ _) | (with_reducible refine below_setRow' ?_ ?_ _) | go_size))⟩
    go_simp
theorem dLoop_4 (b : Nat → Int) (hb : Bt b) (z : ByteArray) (w : World) : Calls Tryd.prog 100 #[.agg (adr 4 b z)] w fun e w' => e = .returned (.bool (kLo4 (281470681743360 + be4f b 0))) ∧ Below w.heap.size w w' := by
  have h := sLoop_4 b hb z w
  rw [kLo4_eq hb] at h
  exact h
theorem dMult_4 (b : Nat → Int) (hb : Bt b) (z : ByteArray) (w : World) : Calls Tryd.prog 101 #[.agg (adr 4 b z)] w fun e w' => e = .returned (.bool (kMu4 (281470681743360 + be4f b 0))) ∧ Below w.heap.size w w' := by
  have h := sMult_4 b hb z w
  rw [kMu4_eq hb] at h
  exact h
theorem dIfl_4 (b : Nat → Int) (hb : Bt b) (z : ByteArray) (w : World) : Calls Tryd.prog 102 #[.agg (adr 4 b z)] w fun e w' => e = .returned (.bool (false)) ∧ Below w.heap.size w w' := by
  have h := sIfl_4 b hb z w
  exact h
theorem dLLM_4 (b : Nat → Int) (hb : Bt b) (z : ByteArray) (w : World) : Calls Tryd.prog 103 #[.agg (adr 4 b z)] w fun e w' => e = .returned (.bool (kLM4 (281470681743360 + be4f b 0))) ∧ Below w.heap.size w w' := by
  have h := sLLM_4 b hb z w
  rw [kLM4_eq hb] at h
  exact h
theorem dLLU_4 (b : Nat → Int) (hb : Bt b) (z : ByteArray) (w : World) : Calls Tryd.prog 104 #[.agg (adr 4 b z)] w fun e w' => e = .returned (.bool (kLU4 (281470681743360 + be4f b 0))) ∧ Below w.heap.size w w' := by
  have h := sLLU_4 b hb z w
  rw [kLU4_eq hb] at h
  exact h
theorem dPriv_4 (b : Nat → Int) (hb : Bt b) (z : ByteArray) (w : World) : Calls Tryd.prog 105 #[.agg (adr 4 b z)] w fun e w' => e = .returned (.bool (kPr4 (281470681743360 + be4f b 0))) ∧ Below w.heap.size w w' := by
  have h := sPriv_4 b hb z w
  rw [kPr4_eq hb] at h
  exact h
set_option maxHeartbeats 4000000 in
set_option maxRecDepth 100000 in
theorem defined_4 (b : Nat → Int) (hb : Bt b) (z : ByteArray) (w : World) :
    Calls Tryd.prog 57 #[.agg (adr 4 b z)] w fun e w' => e = .returned (.agg (b7 (be4f b 0 == 0) (kLo4 (281470681743360 + be4f b 0)) (kMu4 (281470681743360 + be4f b 0)) (false) (kLM4 (281470681743360 + be4f b 0)) (kLU4 (281470681743360 + be4f b 0)) (kPr4 (281470681743360 + be4f b 0)))) ∧ Below w.heap.size w w' := by
  have HB := Lib.hid hb
  clear hb
  go_enter Tryd.func57, Tryd.ntmps57
  go_wp2_with fail
  go_region_held (fun w' => blk? w' (w.heap.size) = some (adr 4 b z)) (first | go_simp) (first
    | (go_at_call 99; (with_reducible refine (sUns_4 _ HB.out _ _).mono ?_); rintro e w1 ⟨rfl, hb1⟩; have hk1 := blk?_below hb1; (try simp only [size_drew', size_drewN'] at hk1); have hB1 := below_via (w := w) (by repeat' (first | (with_reducible exact Below.refl _ _) | (with_reducible assumption) | (with_reducible refine Below.alloc ?_ ?_ _) | (with_reducible refine Below.drew ?_) | (with_reducible refine below_drewN ?_ _) | (with_reducible refine Below.setCell ?_ ?_ _) | (with_reducible refine below_setRow' ?_ ?_ _) | go_size)) hb1; have hL0 : w.heap.size < w1.heap.size := (by have hS0 := hb1.size; (try simp at hS0); omega); have hL1 : w.heap.size + 1 < w1.heap.size := (by have hS0 := hb1.size; (try simp at hS0); omega); have hLe : w.heap.size ≤ w1.heap.size := hB1.size; clear hb1)
    | (go_at_call 100; (with_reducible refine (dLoop_4 _ HB.out _ _).mono ?_); rintro e w1 ⟨rfl, hb1⟩; have hk1 := blk?_below hb1; (try simp only [size_drew', size_drewN'] at hk1); have hB1 := below_via (w := w) (by repeat' (first | (with_reducible exact Below.refl _ _) | (with_reducible assumption) | (with_reducible refine Below.alloc ?_ ?_ _) | (with_reducible refine Below.drew ?_) | (with_reducible refine below_drewN ?_ _) | (with_reducible refine Below.setCell ?_ ?_ _) | (with_reducible refine below_setRow' ?_ ?_ _) | go_size)) hb1; have hL0 : w.heap.size < w1.heap.size := (by have hS0 := hb1.size; (try simp at hS0); omega); have hL1 : w.heap.size + 1 < w1.heap.size := (by have hS0 := hb1.size; (try simp at hS0); omega); have hLe : w.heap.size ≤ w1.heap.size := hB1.size; clear hb1)
    | (go_at_call 101; (with_reducible refine (dMult_4 _ HB.out _ _).mono ?_); rintro e w1 ⟨rfl, hb1⟩; have hk1 := blk?_below hb1; (try simp only [size_drew', size_drewN'] at hk1); have hB1 := below_via (w := w) (by repeat' (first | (with_reducible exact Below.refl _ _) | (with_reducible assumption) | (with_reducible refine Below.alloc ?_ ?_ _) | (with_reducible refine Below.drew ?_) | (with_reducible refine below_drewN ?_ _) | (with_reducible refine Below.setCell ?_ ?_ _) | (with_reducible refine below_setRow' ?_ ?_ _) | go_size)) hb1; have hL0 : w.heap.size < w1.heap.size := (by have hS0 := hb1.size; (try simp at hS0); omega); have hL1 : w.heap.size + 1 < w1.heap.size := (by have hS0 := hb1.size; (try simp at hS0); omega); have hLe : w.heap.size ≤ w1.heap.size := hB1.size; clear hb1)
    | (go_at_call 102; (with_reducible refine (dIfl_4 _ HB.out _ _).mono ?_); rintro e w1 ⟨rfl, hb1⟩; have hk1 := blk?_below hb1; (try simp only [size_drew', size_drewN'] at hk1); have hB1 := below_via (w := w) (by repeat' (first | (with_reducible exact Below.refl _ _) | (with_reducible assumption) | (with_reducible refine Below.alloc ?_ ?_ _) | (with_reducible refine Below.drew ?_) | (with_reducible refine below_drewN ?_ _) | (with_reducible refine Below.setCell ?_ ?_ _) | (with_reducible refine below_setRow' ?_ ?_ _) | go_size)) hb1; have hL0 : w.heap.size < w1.heap.size := (by have hS0 := hb1.size; (try simp at hS0); omega); have hL1 : w.heap.size + 1 < w1.heap.size := (by have hS0 := hb1.size; (try simp at hS0); omega); have hLe : w.heap.size ≤ w1.heap.size := hB1.size; clear hb1)
    | (go_at_call 103; (with_reducible refine (dLLM_4 _ HB.out _ _).mono ?_); rintro e w1 ⟨rfl, hb1⟩; have hk1 := blk?_below hb1; (try simp only [size_drew', size_drewN'] at hk1); have hB1 := below_via (w := w) (by repeat' (first | (with_reducible exact Below.refl _ _) | (with_reducible assumption) | (with_reducible refine Below.alloc ?_ ?_ _) | (with_reducible refine Below.drew ?_) | (with_reducible refine below_drewN ?_ _) | (with_reducible refine Below.setCell ?_ ?_ _) | (with_reducible refine below_setRow' ?_ ?_ _) | go_size)) hb1; have hL0 : w.heap.size < w1.heap.size := (by have hS0 := hb1.size; (try simp at hS0); omega); have hL1 : w.heap.size + 1 < w1.heap.size := (by have hS0 := hb1.size; (try simp at hS0); omega); have hLe : w.heap.size ≤ w1.heap.size := hB1.size; clear hb1)
    | (go_at_call 104; (with_reducible refine (dLLU_4 _ HB.out _ _).mono ?_); rintro e w1 ⟨rfl, hb1⟩; have hk1 := blk?_below hb1; (try simp only [size_drew', size_drewN'] at hk1); have hB1 := below_via (w := w) (by repeat' (first | (with_reducible exact Below.refl _ _) | (with_reducible assumption) | (with_reducible refine Below.alloc ?_ ?_ _) | (with_reducible refine Below.drew ?_) | (with_reducible refine below_drewN ?_ _) | (with_reducible refine Below.setCell ?_ ?_ _) | (with_reducible refine below_setRow' ?_ ?_ _) | go_size)) hb1; have hL0 : w.heap.size < w1.heap.size := (by have hS0 := hb1.size; (try simp at hS0); omega); have hL1 : w.heap.size + 1 < w1.heap.size := (by have hS0 := hb1.size; (try simp at hS0); omega); have hLe : w.heap.size ≤ w1.heap.size := hB1.size; clear hb1)
    | (go_at_call 105; (with_reducible refine (dPriv_4 _ HB.out _ _).mono ?_); rintro e w1 ⟨rfl, hb1⟩; have hk1 := blk?_below hb1; (try simp only [size_drew', size_drewN'] at hk1); have hB1 := below_via (w := w) (by repeat' (first | (with_reducible exact Below.refl _ _) | (with_reducible assumption) | (with_reducible refine Below.alloc ?_ ?_ _) | (with_reducible refine Below.drew ?_) | (with_reducible refine below_drewN ?_ _) | (with_reducible refine Below.setCell ?_ ?_ _) | (with_reducible refine below_setRow' ?_ ?_ _) | go_size)) hb1; have hL0 : w.heap.size < w1.heap.size := (by have hS0 := hb1.size; (try simp at hS0); omega); have hL1 : w.heap.size + 1 < w1.heap.size := (by have hS0 := hb1.size; (try simp at hS0); omega); have hLe : w.heap.size ≤ w1.heap.size := hB1.size; clear hb1))
  all_goals
    go_wp2
    refine bodyPost_ret (res57 Tryd.results57 _ _ (w.heap.size + 1) _ rfl ?_ rfl) rfl ⟨rfl, (by repeat' (first | (with_reducible exact Below.refl _ _) | (with_reducible assumption) | (with_reducible refine Below.alloc ?_ ?_ _) | (with_reducible refine Below.drew ?_) | (with_reducible refine below_drewN ?_ _) | (with_reducible refine Below.setCell ?_ ?_ _) | (with_reducible refine below_setRow' ?_ ?_ _) | go_size))⟩
    go_simp
theorem dLoop_16 (b : Nat → Int) (hb : Bt b) (hm : mpB b = false) (w : World) : Calls Tryd.prog 100 #[.agg (adr 16 b ⟨#[]⟩)] w fun e w' => e = .returned (.bool (kLo6 (be8f b 0) (be8f b 8))) ∧ Below w.heap.size w w' := by
  have h := sLoop_16 b hb ⟨#[]⟩ hm w
  rw [kLo6_eq hb] at h
  exact h
theorem dMult_16 (b : Nat → Int) (hb : Bt b) (hm : mpB b = false) (w : World) : Calls Tryd.prog 101 #[.agg (adr 16 b ⟨#[]⟩)] w fun e w' => e = .returned (.bool (kMu6 (be8f b 0))) ∧ Below w.heap.size w w' := by
  have h := sMult_16 b hb ⟨#[]⟩ hm w
  rw [kMu6_eq hb] at h
  exact h
theorem dIfl_16 (b : Nat → Int) (hb : Bt b) (hm : mpB b = false) (w : World) : Calls Tryd.prog 102 #[.agg (adr 16 b ⟨#[]⟩)] w fun e w' => e = .returned (.bool (kIf6 (be8f b 0))) ∧ Below w.heap.size w w' := by
  have h := sIfl_16 b hb ⟨#[]⟩ hm w
  rw [kIf6_eq hb] at h
  exact h
theorem dLLM_16 (b : Nat → Int) (hb : Bt b) (hm : mpB b = false) (w : World) : Calls Tryd.prog 103 #[.agg (adr 16 b ⟨#[]⟩)] w fun e w' => e = .returned (.bool (kLM6 (be8f b 0))) ∧ Below w.heap.size w w' := by
  have h := sLLM_16 b hb ⟨#[]⟩ hm w
  rw [kLM6_eq hb] at h
  exact h
theorem dLLU_16 (b : Nat → Int) (hb : Bt b) (hm : mpB b = false) (w : World) : Calls Tryd.prog 104 #[.agg (adr 16 b ⟨#[]⟩)] w fun e w' => e = .returned (.bool (kLU6 (be8f b 0))) ∧ Below w.heap.size w w' := by
  have h := sLLU_16 b hb ⟨#[]⟩ hm w
  rw [kLU6_eq hb] at h
  exact h
theorem dPriv_16 (b : Nat → Int) (hb : Bt b) (hm : mpB b = false) (w : World) : Calls Tryd.prog 105 #[.agg (adr 16 b ⟨#[]⟩)] w fun e w' => e = .returned (.bool (kPr6 (be8f b 0))) ∧ Below w.heap.size w w' := by
  have h := sPriv_16 b hb ⟨#[]⟩ hm w
  rw [kPr6_eq hb] at h
  exact h
set_option maxHeartbeats 4000000 in
set_option maxRecDepth 100000 in
theorem defined_16 (b : Nat → Int) (hb : Bt b) (hm : mpB b = false) (w : World) :
    Calls Tryd.prog 57 #[.agg (adr 16 b ⟨#[]⟩)] w fun e w' => e = .returned (.agg (b7 (((be8f b 0) == 0) && ((be8f b 8) == 0)) (kLo6 (be8f b 0) (be8f b 8)) (kMu6 (be8f b 0)) (kIf6 (be8f b 0)) (kLM6 (be8f b 0)) (kLU6 (be8f b 0)) (kPr6 (be8f b 0)))) ∧ Below w.heap.size w w' := by
  have HB := Lib.hid hb
  have HM := Lib.hid hm
  clear hm
  clear hb
  go_enter Tryd.func57, Tryd.ntmps57
  go_wp2_with fail
  go_region_held (fun w' => blk? w' (w.heap.size) = some (adr 16 b ⟨#[]⟩)) (first | go_simp) (first
    | (go_at_call 99; (with_reducible refine (sUns_16 _ HB.out _).mono ?_); rintro e w1 ⟨rfl, hb1⟩; have hk1 := blk?_below hb1; (try simp only [size_drew', size_drewN'] at hk1); have hB1 := below_via (w := w) (by repeat' (first | (with_reducible exact Below.refl _ _) | (with_reducible assumption) | (with_reducible refine Below.alloc ?_ ?_ _) | (with_reducible refine Below.drew ?_) | (with_reducible refine below_drewN ?_ _) | (with_reducible refine Below.setCell ?_ ?_ _) | (with_reducible refine below_setRow' ?_ ?_ _) | go_size)) hb1; have hL0 : w.heap.size < w1.heap.size := (by have hS0 := hb1.size; (try simp at hS0); omega); have hL1 : w.heap.size + 1 < w1.heap.size := (by have hS0 := hb1.size; (try simp at hS0); omega); have hLe : w.heap.size ≤ w1.heap.size := hB1.size; clear hb1)
    | (go_at_call 100; (with_reducible refine (dLoop_16 _ HB.out HM.out _).mono ?_); rintro e w1 ⟨rfl, hb1⟩; have hk1 := blk?_below hb1; (try simp only [size_drew', size_drewN'] at hk1); have hB1 := below_via (w := w) (by repeat' (first | (with_reducible exact Below.refl _ _) | (with_reducible assumption) | (with_reducible refine Below.alloc ?_ ?_ _) | (with_reducible refine Below.drew ?_) | (with_reducible refine below_drewN ?_ _) | (with_reducible refine Below.setCell ?_ ?_ _) | (with_reducible refine below_setRow' ?_ ?_ _) | go_size)) hb1; have hL0 : w.heap.size < w1.heap.size := (by have hS0 := hb1.size; (try simp at hS0); omega); have hL1 : w.heap.size + 1 < w1.heap.size := (by have hS0 := hb1.size; (try simp at hS0); omega); have hLe : w.heap.size ≤ w1.heap.size := hB1.size; clear hb1)
    | (go_at_call 101; (with_reducible refine (dMult_16 _ HB.out HM.out _).mono ?_); rintro e w1 ⟨rfl, hb1⟩; have hk1 := blk?_below hb1; (try simp only [size_drew', size_drewN'] at hk1); have hB1 := below_via (w := w) (by repeat' (first | (with_reducible exact Below.refl _ _) | (with_reducible assumption) | (with_reducible refine Below.alloc ?_ ?_ _) | (with_reducible refine Below.drew ?_) | (with_reducible refine below_drewN ?_ _) | (with_reducible refine Below.setCell ?_ ?_ _) | (with_reducible refine below_setRow' ?_ ?_ _) | go_size)) hb1; have hL0 : w.heap.size < w1.heap.size := (by have hS0 := hb1.size; (try simp at hS0); omega); have hL1 : w.heap.size + 1 < w1.heap.size := (by have hS0 := hb1.size; (try simp at hS0); omega); have hLe : w.heap.size ≤ w1.heap.size := hB1.size; clear hb1)
    | (go_at_call 102; (with_reducible refine (dIfl_16 _ HB.out HM.out _).mono ?_); rintro e w1 ⟨rfl, hb1⟩; have hk1 := blk?_below hb1; (try simp only [size_drew', size_drewN'] at hk1); have hB1 := below_via (w := w) (by repeat' (first | (with_reducible exact Below.refl _ _) | (with_reducible assumption) | (with_reducible refine Below.alloc ?_ ?_ _) | (with_reducible refine Below.drew ?_) | (with_reducible refine below_drewN ?_ _) | (with_reducible refine Below.setCell ?_ ?_ _) | (with_reducible refine below_setRow' ?_ ?_ _) | go_size)) hb1; have hL0 : w.heap.size < w1.heap.size := (by have hS0 := hb1.size; (try simp at hS0); omega); have hL1 : w.heap.size + 1 < w1.heap.size := (by have hS0 := hb1.size; (try simp at hS0); omega); have hLe : w.heap.size ≤ w1.heap.size := hB1.size; clear hb1)
    | (go_at_call 103; (with_reducible refine (dLLM_16 _ HB.out HM.out _).mono ?_); rintro e w1 ⟨rfl, hb1⟩; have hk1 := blk?_below hb1; (try simp only [size_drew', size_drewN'] at hk1); have hB1 := below_via (w := w) (by repeat' (first | (with_reducible exact Below.refl _ _) | (with_reducible assumption) | (with_reducible refine Below.alloc ?_ ?_ _) | (with_reducible refine Below.drew ?_) | (with_reducible refine below_drewN ?_ _) | (with_reducible refine Below.setCell ?_ ?_ _) | (with_reducible refine below_setRow' ?_ ?_ _) | go_size)) hb1; have hL0 : w.heap.size < w1.heap.size := (by have hS0 := hb1.size; (try simp at hS0); omega); have hL1 : w.heap.size + 1 < w1.heap.size := (by have hS0 := hb1.size; (try simp at hS0); omega); have hLe : w.heap.size ≤ w1.heap.size := hB1.size; clear hb1)
    | (go_at_call 104; (with_reducible refine (dLLU_16 _ HB.out HM.out _).mono ?_); rintro e w1 ⟨rfl, hb1⟩; have hk1 := blk?_below hb1; (try simp only [size_drew', size_drewN'] at hk1); have hB1 := below_via (w := w) (by repeat' (first | (with_reducible exact Below.refl _ _) | (with_reducible assumption) | (with_reducible refine Below.alloc ?_ ?_ _) | (with_reducible refine Below.drew ?_) | (with_reducible refine below_drewN ?_ _) | (with_reducible refine Below.setCell ?_ ?_ _) | (with_reducible refine below_setRow' ?_ ?_ _) | go_size)) hb1; have hL0 : w.heap.size < w1.heap.size := (by have hS0 := hb1.size; (try simp at hS0); omega); have hL1 : w.heap.size + 1 < w1.heap.size := (by have hS0 := hb1.size; (try simp at hS0); omega); have hLe : w.heap.size ≤ w1.heap.size := hB1.size; clear hb1)
    | (go_at_call 105; (with_reducible refine (dPriv_16 _ HB.out HM.out _).mono ?_); rintro e w1 ⟨rfl, hb1⟩; have hk1 := blk?_below hb1; (try simp only [size_drew', size_drewN'] at hk1); have hB1 := below_via (w := w) (by repeat' (first | (with_reducible exact Below.refl _ _) | (with_reducible assumption) | (with_reducible refine Below.alloc ?_ ?_ _) | (with_reducible refine Below.drew ?_) | (with_reducible refine below_drewN ?_ _) | (with_reducible refine Below.setCell ?_ ?_ _) | (with_reducible refine below_setRow' ?_ ?_ _) | go_size)) hb1; have hL0 : w.heap.size < w1.heap.size := (by have hS0 := hb1.size; (try simp at hS0); omega); have hL1 : w.heap.size + 1 < w1.heap.size := (by have hS0 := hb1.size; (try simp at hS0); omega); have hLe : w.heap.size ≤ w1.heap.size := hB1.size; clear hb1))
  all_goals
    go_wp2
    refine bodyPost_ret (res57 Tryd.results57 _ _ (w.heap.size + 1) _ rfl ?_ rfl) rfl ⟨rfl, (by repeat' (first | (with_reducible exact Below.refl _ _) | (with_reducible assumption) | (with_reducible refine Below.alloc ?_ ?_ _) | (with_reducible refine Below.drew ?_) | (with_reducible refine below_drewN ?_ _) | (with_reducible refine Below.setCell ?_ ?_ _) | (with_reducible refine below_setRow' ?_ ?_ _) | go_size))⟩
    go_simp
end Go.Proofs.YtmlkcgacneealaaDoor
