/- Is4In6, Unmap and scope of the reference. No conditions but on the bytes. -/
import Derived.Test.YtmlkcgacneealaaDoorSpc
import Derived.Test.YtmlkcgacneealaaDoorInside
set_option linter.unusedVariables false
set_option linter.unusedSimpArgs false
namespace Go.Proofs.YtmlkcgacneealaaDoor
open Go.RowKit

/-- What the first twelve bytes of an IPv4-mapped address are. -/
def wnt (j : Nat) : Int := if j < 10 then 0 else 255
def mpB (b : Nat → Int) : Bool := (List.range 12).all fun j => b j == wnt j
theorem mpB_true (b : Nat → Int) (h : ∀ j, j < 12 → b j = wnt j) : mpB b = true := by simp [mpB]; exact h
theorem mpB_false (b : Nat → Int) (k : Nat) (hk : k < 12) (h : b k ≠ wnt k) : mpB b = false := by
  cases e : mpB b
  · rfl
  · simp [mpB] at e; exact absurd (e k hk) h
theorem mpB_iff {b : Nat → Int} (hb : Bt b) : mpB b = true ↔ be8f b 0 = 0 ∧ be8f b 8 / 4294967296 = 65535 := by
  have h0 := hb 0; have h1 := hb 1; have h2 := hb 2; have h3 := hb 3; have h4 := hb 4; have h5 := hb 5; have h6 := hb 6; have h7 := hb 7
  have h8 := hb 8; have h9 := hb 9; have h10 := hb 10; have h11 := hb 11; have h12 := hb 12; have h13 := hb 13; have h14 := hb 14; have h15 := hb 15
  have e : mpB b = true ↔ b 0 = 0 ∧ b 1 = 0 ∧ b 2 = 0 ∧ b 3 = 0 ∧ b 4 = 0 ∧ b 5 = 0 ∧ b 6 = 0 ∧ b 7 = 0 ∧ b 8 = 0 ∧ b 9 = 0 ∧ b 10 = 255 ∧ b 11 = 255 := by
    simp [mpB, List.range_succ, wnt, and_assoc]
  rw [e]
  unfold be8f be8
  simp only [Nat.zero_add, Nat.reduceAdd]
  constructor <;> intro h <;> omega
set_option maxHeartbeats 4000000 in
set_option maxRecDepth 100000 in
theorem sIs46_0 (n : Int) (h4 : n ≠ 4) (h16 : n ≠ 16) (b : Nat → Int) (z : ByteArray) (w : World) : Calls Tryd.prog 94 #[.agg (adr n b z)] w fun e w' => e = .returned (.bool false) ∧ Below w.heap.size w w' := by
  go_enter Tryd.func94, Tryd.ntmps94
  go_wp2_with (first
    | (go_at_call 116; (with_reducible refine (sIs6_0 n h4 h16 _ _ _).mono ?_); rintro e w1 ⟨rfl, hb1⟩; have hk1 := blk?_below hb1; (try simp only [size_drew', size_drewN'] at hk1); have hB1 := below_via (w := w) (by repeat' (first | (with_reducible exact Below.refl _ _) | (with_reducible assumption) | (with_reducible refine Below.alloc ?_ ?_ _) | (with_reducible refine Below.drew ?_) | (with_reducible refine below_drewN ?_ _) | (with_reducible refine Below.setCell ?_ ?_ _) | (with_reducible refine below_setRow' ?_ ?_ _) | go_size)) hb1; have hL0 : w.heap.size < w1.heap.size := (by have hS0 := hb1.size; (try simp at hS0); omega); have hLe : w.heap.size ≤ w1.heap.size := hB1.size; clear hb1))
  go_ret
  exact ⟨rfl, (by repeat' (first | (with_reducible exact Below.refl _ _) | (with_reducible assumption) | (with_reducible refine Below.alloc ?_ ?_ _) | (with_reducible refine Below.drew ?_) | (with_reducible refine below_drewN ?_ _) | (with_reducible refine Below.setCell ?_ ?_ _) | (with_reducible refine below_setRow' ?_ ?_ _) | go_size))⟩
set_option maxHeartbeats 4000000 in
set_option maxRecDepth 100000 in
theorem sIs46_4 (b : Nat → Int) (z : ByteArray) (w : World) : Calls Tryd.prog 94 #[.agg (adr 4 b z)] w fun e w' => e = .returned (.bool false) ∧ Below w.heap.size w w' := by
  go_enter Tryd.func94, Tryd.ntmps94
  go_wp2_with (first
    | (go_at_call 116; (with_reducible refine (sIs6_4 _ _ _).mono ?_); rintro e w1 ⟨rfl, hb1⟩; have hk1 := blk?_below hb1; (try simp only [size_drew', size_drewN'] at hk1); have hB1 := below_via (w := w) (by repeat' (first | (with_reducible exact Below.refl _ _) | (with_reducible assumption) | (with_reducible refine Below.alloc ?_ ?_ _) | (with_reducible refine Below.drew ?_) | (with_reducible refine below_drewN ?_ _) | (with_reducible refine Below.setCell ?_ ?_ _) | (with_reducible refine below_setRow' ?_ ?_ _) | go_size)) hb1; have hL0 : w.heap.size < w1.heap.size := (by have hS0 := hb1.size; (try simp at hS0); omega); have hLe : w.heap.size ≤ w1.heap.size := hB1.size; clear hb1))
  go_ret
  exact ⟨rfl, (by repeat' (first | (with_reducible exact Below.refl _ _) | (with_reducible assumption) | (with_reducible refine Below.alloc ?_ ?_ _) | (with_reducible refine Below.drew ?_) | (with_reducible refine below_drewN ?_ _) | (with_reducible refine Below.setCell ?_ ?_ _) | (with_reducible refine below_setRow' ?_ ?_ _) | go_size))⟩
set_option maxHeartbeats 4000000 in
set_option maxRecDepth 100000 in
theorem sIs46_16 (b : Nat → Int) (z : ByteArray) (w : World) : Calls Tryd.prog 94 #[.agg (adr 16 b z)] w fun e w' => e = .returned (.bool (mpB b)) ∧ Below w.heap.size w w' := by
  go_enter Tryd.func94, Tryd.ntmps94
  go_wp2_with (first
    | (go_at_call 116; (with_reducible refine (sIs6_16 _ _ _).mono ?_); rintro e w1 ⟨rfl, hb1⟩; have hk1 := blk?_below hb1; (try simp only [size_drew', size_drewN'] at hk1); have hB1 := below_via (w := w) (by repeat' (first | (with_reducible exact Below.refl _ _) | (with_reducible assumption) | (with_reducible refine Below.alloc ?_ ?_ _) | (with_reducible refine Below.drew ?_) | (with_reducible refine below_drewN ?_ _) | (with_reducible refine Below.setCell ?_ ?_ _) | (with_reducible refine below_setRow' ?_ ?_ _) | go_size)) hb1; have hL0 : w.heap.size < w1.heap.size := (by have hS0 := hb1.size; (try simp at hS0); omega); have hLe : w.heap.size ≤ w1.heap.size := hB1.size; clear hb1))
  have hk : blk? w1 w.heap.size = some (adr 16 b z) := by rw [hk1 _ (by simp)]; go_simp
  go_loop [8, 3, 4] (fun i v3 v4 => ∃ k : Nat, k ≤ 12 ∧ i = .int .i64 k ∧ ∀ j, j < k → b j = wnt j) (fun i _ _ => 12 - (intOf i).toNat)
  case atStart => exact ⟨0, by omega, rfl, fun j hj => by omega⟩
  case round =>
    obtain ⟨k, hk12, rfl, hs⟩ := hrel
    have HS := Lib.hid hs
    clear hs
    by_cases hlt : k < 12
    · have hi0 : (0 : Int) ≤ (k : Int) := by omega
      have hi1 : (k : Int) < 12 := by omega
      have hi2 : (k : Int) < 16 := by omega
      have hcell : w1.cell? ⟨w.heap.size, 1 + k, none⟩ = some (.int .u8 (b k)) := by rw [blk?_cell hk, adr_byte' _ _ _ _ (by omega)]
      clear hk1
      by_cases ht : k < 10
      · have hw : wnt k = 0 := by unfold wnt; rw [if_pos ht]
        have ht' : decide (10 ≤ (k : Int)) = false := decide_eq_false (by omega)
        by_cases hx : b k = 0
        · have hx' : (b k != 0) = false := by rw [hx]; rfl
          have HX := Lib.hid hx
          have HW := Lib.hid hw
          clear hx hw
          go_wp2
          go_round
          case rel => exact ⟨k + 1, by omega, by go_num, fun j hj => by
            by_cases e : j = k
            · rw [e, HX.out, HW.out]
            · exact HS.out j (by omega)⟩
          case measure => simp [intOf]; omega
        · have hx' : (b k != 0) = true := by rw [bne_iff_ne]; exact hx
          have HF := Lib.hid (mpB_false b k hlt (by rw [hw]; exact hx))
          clear hx hw
          go_wp2
          go_ret
          exact ⟨ret_bool HF.out.symm, (by repeat' (first | (with_reducible exact Below.refl _ _) | (with_reducible assumption) | (with_reducible refine Below.alloc ?_ ?_ _) | (with_reducible refine Below.drew ?_) | (with_reducible refine below_drewN ?_ _) | (with_reducible refine Below.setCell ?_ ?_ _) | (with_reducible refine below_setRow' ?_ ?_ _) | go_size))⟩
      · have hw : wnt k = 255 := by unfold wnt; rw [if_neg ht]
        have ht' : decide (10 ≤ (k : Int)) = true := decide_eq_true (by omega)
        by_cases hx : b k = 255
        · have hx' : (b k != 255) = false := by rw [hx]; rfl
          have HX := Lib.hid hx
          have HW := Lib.hid hw
          clear hx hw
          go_wp2
          go_round
          case rel => exact ⟨k + 1, by omega, by go_num, fun j hj => by
            by_cases e : j = k
            · rw [e, HX.out, HW.out]
            · exact HS.out j (by omega)⟩
          case measure => simp [intOf]; omega
        · have hx' : (b k != 255) = true := by rw [bne_iff_ne]; exact hx
          have HF := Lib.hid (mpB_false b k hlt (by rw [hw]; exact hx))
          clear hx hw
          go_wp2
          go_ret
          exact ⟨ret_bool HF.out.symm, (by repeat' (first | (with_reducible exact Below.refl _ _) | (with_reducible assumption) | (with_reducible refine Below.alloc ?_ ?_ _) | (with_reducible refine Below.drew ?_) | (with_reducible refine below_drewN ?_ _) | (with_reducible refine Below.setCell ?_ ?_ _) | (with_reducible refine below_setRow' ?_ ?_ _) | go_size))⟩
    · obtain rfl : k = 12 := by omega
      have HT := Lib.hid (mpB_true b HS.out)
      go_wp2
      go_ret
      exact ⟨ret_bool HT.out.symm, (by repeat' (first | (with_reducible exact Below.refl _ _) | (with_reducible assumption) | (with_reducible refine Below.alloc ?_ ?_ _) | (with_reducible refine Below.drew ?_) | (with_reducible refine below_drewN ?_ _) | (with_reducible refine Below.setCell ?_ ?_ _) | (with_reducible refine below_setRow' ?_ ?_ _) | go_size))⟩
theorem sIs46_16v (b : Nat → Int) (z : ByteArray) (v : Bool) (hv : mpB b = v) (w : World) : Calls Tryd.prog 94 #[.agg (adr 16 b z)] w fun e w' => e = .returned (.bool v) ∧ Below w.heap.size w w' := by rw [← hv]; exact sIs46_16 b z w
set_option maxHeartbeats 4000000 in
set_option maxRecDepth 100000 in
theorem sUnmap_0 (n : Int) (h4 : n ≠ 4) (h16 : n ≠ 16) (b : Nat → Int) (z : ByteArray) (w : World) : Calls Tryd.prog 144 #[.agg (adr n b z)] w fun e w' => e = .returned (.agg (adr 0 zb ⟨#[]⟩)) ∧ Below w.heap.size w w' := by
  go_enter Tryd.func144, Tryd.ntmps144
  go_wp2_with (first
    | (go_at_call 94; (with_reducible refine (sIs46_0 n h4 h16 _ _ _).mono ?_); rintro e w1 ⟨rfl, hb1⟩; have hk1 := blk?_below hb1; (try simp only [size_drew', size_drewN'] at hk1); have hB1 := below_via (w := w) (by repeat' (first | (with_reducible exact Below.refl _ _) | (with_reducible assumption) | (with_reducible refine Below.alloc ?_ ?_ _) | (with_reducible refine Below.drew ?_) | (with_reducible refine below_drewN ?_ _) | (with_reducible refine Below.setCell ?_ ?_ _) | (with_reducible refine below_setRow' ?_ ?_ _) | go_size)) hb1; have hL0 : w.heap.size < w1.heap.size := (by have hS0 := hb1.size; (try simp at hS0); omega); have hL1 : w.heap.size + 1 < w1.heap.size := (by have hS0 := hb1.size; (try simp at hS0); omega); have hLe : w.heap.size ≤ w1.heap.size := hB1.size; clear hb1)
    | (go_at_call 81; (with_reducible refine (same_0 n h4 h16 _ _ _).mono ?_); rintro e w1 ⟨rfl, hb1⟩; have hk1 := blk?_below hb1; (try simp only [size_drew', size_drewN'] at hk1); have hB1 := below_via (w := w) (by repeat' (first | (with_reducible exact Below.refl _ _) | (with_reducible assumption) | (with_reducible refine Below.alloc ?_ ?_ _) | (with_reducible refine Below.drew ?_) | (with_reducible refine below_drewN ?_ _) | (with_reducible refine Below.setCell ?_ ?_ _) | (with_reducible refine below_setRow' ?_ ?_ _) | go_size)) hb1; have hL0 : w.heap.size < w1.heap.size := (by have hS0 := hb1.size; (try simp at hS0); omega); have hL1 : w.heap.size + 1 < w1.heap.size := (by have hS0 := hb1.size; (try simp at hS0); omega); have hLe : w.heap.size ≤ w1.heap.size := hB1.size; clear hb1))
  refine bodyPost_ret (res25 Tryd.results144 _ _ (w.heap.size + 1) _ rfl ?_ rfl) rfl ⟨rfl, (by repeat' (first | (with_reducible exact Below.refl _ _) | (with_reducible assumption) | (with_reducible refine Below.alloc ?_ ?_ _) | (with_reducible refine Below.drew ?_) | (with_reducible refine below_drewN ?_ _) | (with_reducible refine Below.setCell ?_ ?_ _) | (with_reducible refine below_setRow' ?_ ?_ _) | go_size))⟩
  go_simp
set_option maxHeartbeats 4000000 in
set_option maxRecDepth 100000 in
theorem sUnmap_4 (b : Nat → Int) (z : ByteArray) (w : World) : Calls Tryd.prog 144 #[.agg (adr 4 b z)] w fun e w' => e = .returned (.agg (adr 4 (pre 4 b) ⟨#[]⟩)) ∧ Below w.heap.size w w' := by
  go_enter Tryd.func144, Tryd.ntmps144
  go_wp2_with (first
    | (go_at_call 94; (with_reducible refine (sIs46_4 _ _ _).mono ?_); rintro e w1 ⟨rfl, hb1⟩; have hk1 := blk?_below hb1; (try simp only [size_drew', size_drewN'] at hk1); have hB1 := below_via (w := w) (by repeat' (first | (with_reducible exact Below.refl _ _) | (with_reducible assumption) | (with_reducible refine Below.alloc ?_ ?_ _) | (with_reducible refine Below.drew ?_) | (with_reducible refine below_drewN ?_ _) | (with_reducible refine Below.setCell ?_ ?_ _) | (with_reducible refine below_setRow' ?_ ?_ _) | go_size)) hb1; have hL0 : w.heap.size < w1.heap.size := (by have hS0 := hb1.size; (try simp at hS0); omega); have hL1 : w.heap.size + 1 < w1.heap.size := (by have hS0 := hb1.size; (try simp at hS0); omega); have hLe : w.heap.size ≤ w1.heap.size := hB1.size; clear hb1)
    | (go_at_call 81; (with_reducible refine (same_4 _ _ _).mono ?_); rintro e w1 ⟨rfl, hb1⟩; have hk1 := blk?_below hb1; (try simp only [size_drew', size_drewN'] at hk1); have hB1 := below_via (w := w) (by repeat' (first | (with_reducible exact Below.refl _ _) | (with_reducible assumption) | (with_reducible refine Below.alloc ?_ ?_ _) | (with_reducible refine Below.drew ?_) | (with_reducible refine below_drewN ?_ _) | (with_reducible refine Below.setCell ?_ ?_ _) | (with_reducible refine below_setRow' ?_ ?_ _) | go_size)) hb1; have hL0 : w.heap.size < w1.heap.size := (by have hS0 := hb1.size; (try simp at hS0); omega); have hL1 : w.heap.size + 1 < w1.heap.size := (by have hS0 := hb1.size; (try simp at hS0); omega); have hLe : w.heap.size ≤ w1.heap.size := hB1.size; clear hb1))
  refine bodyPost_ret (res25 Tryd.results144 _ _ (w.heap.size + 1) _ rfl ?_ rfl) rfl ⟨rfl, (by repeat' (first | (with_reducible exact Below.refl _ _) | (with_reducible assumption) | (with_reducible refine Below.alloc ?_ ?_ _) | (with_reducible refine Below.drew ?_) | (with_reducible refine below_drewN ?_ _) | (with_reducible refine Below.setCell ?_ ?_ _) | (with_reducible refine below_setRow' ?_ ?_ _) | go_size))⟩
  go_simp
set_option maxHeartbeats 4000000 in
set_option maxRecDepth 100000 in
theorem sUnmap_16 (b : Nat → Int) (z : ByteArray) (hv : mpB b = false) (w : World) : Calls Tryd.prog 144 #[.agg (adr 16 b z)] w fun e w' => e = .returned (.agg (adr 16 b z)) ∧ Below w.heap.size w w' := by
  have HV := Lib.hid hv
  clear hv
  go_enter Tryd.func144, Tryd.ntmps144
  go_wp2_with (first
    | (go_at_call 94; (with_reducible refine (sIs46_16v _ _ false HV.out _).mono ?_); rintro e w1 ⟨rfl, hb1⟩; have hk1 := blk?_below hb1; (try simp only [size_drew', size_drewN'] at hk1); have hB1 := below_via (w := w) (by repeat' (first | (with_reducible exact Below.refl _ _) | (with_reducible assumption) | (with_reducible refine Below.alloc ?_ ?_ _) | (with_reducible refine Below.drew ?_) | (with_reducible refine below_drewN ?_ _) | (with_reducible refine Below.setCell ?_ ?_ _) | (with_reducible refine below_setRow' ?_ ?_ _) | go_size)) hb1; have hL0 : w.heap.size < w1.heap.size := (by have hS0 := hb1.size; (try simp at hS0); omega); have hL1 : w.heap.size + 1 < w1.heap.size := (by have hS0 := hb1.size; (try simp at hS0); omega); have hLe : w.heap.size ≤ w1.heap.size := hB1.size; clear hb1)
    | (go_at_call 81; (with_reducible refine (same_16 _ _ _).mono ?_); rintro e w1 ⟨rfl, hb1⟩; have hk1 := blk?_below hb1; (try simp only [size_drew', size_drewN'] at hk1); have hB1 := below_via (w := w) (by repeat' (first | (with_reducible exact Below.refl _ _) | (with_reducible assumption) | (with_reducible refine Below.alloc ?_ ?_ _) | (with_reducible refine Below.drew ?_) | (with_reducible refine below_drewN ?_ _) | (with_reducible refine Below.setCell ?_ ?_ _) | (with_reducible refine below_setRow' ?_ ?_ _) | go_size)) hb1; have hL0 : w.heap.size < w1.heap.size := (by have hS0 := hb1.size; (try simp at hS0); omega); have hL1 : w.heap.size + 1 < w1.heap.size := (by have hS0 := hb1.size; (try simp at hS0); omega); have hLe : w.heap.size ≤ w1.heap.size := hB1.size; clear hb1))
  refine bodyPost_ret (res25 Tryd.results144 _ _ (w.heap.size + 1) _ rfl ?_ rfl) rfl ⟨rfl, (by repeat' (first | (with_reducible exact Below.refl _ _) | (with_reducible assumption) | (with_reducible refine Below.alloc ?_ ?_ _) | (with_reducible refine Below.drew ?_) | (with_reducible refine below_drewN ?_ _) | (with_reducible refine Below.setCell ?_ ?_ _) | (with_reducible refine below_setRow' ?_ ?_ _) | go_size))⟩
  go_simp
set_option maxHeartbeats 4000000 in
set_option maxRecDepth 100000 in
theorem sscope (n : Int) (b : Nat → Int) (hb : Bt b) (z : ByteArray) (w : World) : Calls Tryd.prog 147 #[.agg (adr n b z)] w fun e w' => e = .returned (.int .i64 (b 1 % 16)) ∧ Below w.heap.size w w' := by
  obtain ⟨h0, h1⟩ := hb 1
  clear hb
  go_enter Tryd.func147, Tryd.ntmps147
  go_wp2
  go_ret
  exact ⟨rfl, (by repeat' (first | (with_reducible exact Below.refl _ _) | (with_reducible assumption) | (with_reducible refine Below.alloc ?_ ?_ _) | (with_reducible refine Below.drew ?_) | (with_reducible refine below_drewN ?_ _) | (with_reducible refine Below.setCell ?_ ?_ _) | (with_reducible refine below_setRow' ?_ ?_ _) | go_size))⟩
set_option maxHeartbeats 4000000 in
set_option maxRecDepth 100000 in
theorem lIs46_0 (n : Int) (h4 : n ≠ 4) (h16 : n ≠ 16) (b : Nat → Int) (z : ByteArray) (w : World) : Calls Tryd.prog 55 #[.agg (adr n b z)] w fun e w' => e = .returned (.bool false) ∧ Below w.heap.size w w' := by
  go_enter Tryd.func55, Tryd.ntmps55
  go_wp2_with (first
    | (go_at_call 38; (with_reducible refine (sa_any _ _ _ _).mono ?_); rintro e w1 ⟨rfl, hb1⟩; have hk1 := blk?_below hb1; (try simp only [size_drew', size_drewN'] at hk1); have hB1 := below_via (w := w) (by repeat' (first | (with_reducible exact Below.refl _ _) | (with_reducible assumption) | (with_reducible refine Below.alloc ?_ ?_ _) | (with_reducible refine Below.drew ?_) | (with_reducible refine below_drewN ?_ _) | (with_reducible refine Below.setCell ?_ ?_ _) | (with_reducible refine below_setRow' ?_ ?_ _) | go_size)) hb1; have hL0 : w.heap.size < w1.heap.size := (by have hS0 := hb1.size; (try simp at hS0); omega); have hLe : w.heap.size ≤ w1.heap.size := hB1.size; clear hb1)
    | (go_at_call 94; (with_reducible refine (sIs46_0 n h4 h16 _ _ _).mono ?_); rintro e w1 ⟨rfl, hb1⟩; have hk1 := blk?_below hb1; (try simp only [size_drew', size_drewN'] at hk1); have hB1 := below_via (w := w) (by repeat' (first | (with_reducible exact Below.refl _ _) | (with_reducible assumption) | (with_reducible refine Below.alloc ?_ ?_ _) | (with_reducible refine Below.drew ?_) | (with_reducible refine below_drewN ?_ _) | (with_reducible refine Below.setCell ?_ ?_ _) | (with_reducible refine below_setRow' ?_ ?_ _) | go_size)) hb1; have hL0 : w.heap.size < w1.heap.size := (by have hS0 := hb1.size; (try simp at hS0); omega); have hLe : w.heap.size ≤ w1.heap.size := hB1.size; clear hb1))
  go_ret
  exact ⟨rfl, (by repeat' (first | (with_reducible exact Below.refl _ _) | (with_reducible assumption) | (with_reducible refine Below.alloc ?_ ?_ _) | (with_reducible refine Below.drew ?_) | (with_reducible refine below_drewN ?_ _) | (with_reducible refine Below.setCell ?_ ?_ _) | (with_reducible refine below_setRow' ?_ ?_ _) | go_size))⟩
set_option maxHeartbeats 4000000 in
set_option maxRecDepth 100000 in
theorem lIs46_4 (b : Nat → Int) (z : ByteArray) (w : World) : Calls Tryd.prog 55 #[.agg (adr 4 b z)] w fun e w' => e = .returned (.bool false) ∧ Below w.heap.size w w' := by
  go_enter Tryd.func55, Tryd.ntmps55
  go_wp2_with (first
    | (go_at_call 38; (with_reducible refine (sa_any _ _ _ _).mono ?_); rintro e w1 ⟨rfl, hb1⟩; have hk1 := blk?_below hb1; (try simp only [size_drew', size_drewN'] at hk1); have hB1 := below_via (w := w) (by repeat' (first | (with_reducible exact Below.refl _ _) | (with_reducible assumption) | (with_reducible refine Below.alloc ?_ ?_ _) | (with_reducible refine Below.drew ?_) | (with_reducible refine below_drewN ?_ _) | (with_reducible refine Below.setCell ?_ ?_ _) | (with_reducible refine below_setRow' ?_ ?_ _) | go_size)) hb1; have hL0 : w.heap.size < w1.heap.size := (by have hS0 := hb1.size; (try simp at hS0); omega); have hLe : w.heap.size ≤ w1.heap.size := hB1.size; clear hb1)
    | (go_at_call 94; (with_reducible refine (sIs46_4 _ _ _).mono ?_); rintro e w1 ⟨rfl, hb1⟩; have hk1 := blk?_below hb1; (try simp only [size_drew', size_drewN'] at hk1); have hB1 := below_via (w := w) (by repeat' (first | (with_reducible exact Below.refl _ _) | (with_reducible assumption) | (with_reducible refine Below.alloc ?_ ?_ _) | (with_reducible refine Below.drew ?_) | (with_reducible refine below_drewN ?_ _) | (with_reducible refine Below.setCell ?_ ?_ _) | (with_reducible refine below_setRow' ?_ ?_ _) | go_size)) hb1; have hL0 : w.heap.size < w1.heap.size := (by have hS0 := hb1.size; (try simp at hS0); omega); have hLe : w.heap.size ≤ w1.heap.size := hB1.size; clear hb1))
  go_ret
  exact ⟨rfl, (by repeat' (first | (with_reducible exact Below.refl _ _) | (with_reducible assumption) | (with_reducible refine Below.alloc ?_ ?_ _) | (with_reducible refine Below.drew ?_) | (with_reducible refine below_drewN ?_ _) | (with_reducible refine Below.setCell ?_ ?_ _) | (with_reducible refine below_setRow' ?_ ?_ _) | go_size))⟩
set_option maxHeartbeats 4000000 in
set_option maxRecDepth 100000 in
theorem lIs46_16 (b : Nat → Int) (z : ByteArray) (w : World) : Calls Tryd.prog 55 #[.agg (adr 16 b z)] w fun e w' => e = .returned (.bool (mpB b)) ∧ Below w.heap.size w w' := by
  go_enter Tryd.func55, Tryd.ntmps55
  go_wp2_with (first
    | (go_at_call 38; (with_reducible refine (sa_any _ _ _ _).mono ?_); rintro e w1 ⟨rfl, hb1⟩; have hk1 := blk?_below hb1; (try simp only [size_drew', size_drewN'] at hk1); have hB1 := below_via (w := w) (by repeat' (first | (with_reducible exact Below.refl _ _) | (with_reducible assumption) | (with_reducible refine Below.alloc ?_ ?_ _) | (with_reducible refine Below.drew ?_) | (with_reducible refine below_drewN ?_ _) | (with_reducible refine Below.setCell ?_ ?_ _) | (with_reducible refine below_setRow' ?_ ?_ _) | go_size)) hb1; have hL0 : w.heap.size < w1.heap.size := (by have hS0 := hb1.size; (try simp at hS0); omega); have hLe : w.heap.size ≤ w1.heap.size := hB1.size; clear hb1)
    | (go_at_call 94; (with_reducible refine (sIs46_16 _ _ _).mono ?_); rintro e w1 ⟨rfl, hb1⟩; have hk1 := blk?_below hb1; (try simp only [size_drew', size_drewN'] at hk1); have hB1 := below_via (w := w) (by repeat' (first | (with_reducible exact Below.refl _ _) | (with_reducible assumption) | (with_reducible refine Below.alloc ?_ ?_ _) | (with_reducible refine Below.drew ?_) | (with_reducible refine below_drewN ?_ _) | (with_reducible refine Below.setCell ?_ ?_ _) | (with_reducible refine below_setRow' ?_ ?_ _) | go_size)) hb1; have hL0 : w.heap.size < w1.heap.size := (by have hS0 := hb1.size; (try simp at hS0); omega); have hLe : w.heap.size ≤ w1.heap.size := hB1.size; clear hb1))
  go_ret
  exact ⟨rfl, (by repeat' (first | (with_reducible exact Below.refl _ _) | (with_reducible assumption) | (with_reducible refine Below.alloc ?_ ?_ _) | (with_reducible refine Below.drew ?_) | (with_reducible refine below_drewN ?_ _) | (with_reducible refine Below.setCell ?_ ?_ _) | (with_reducible refine below_setRow' ?_ ?_ _) | go_size))⟩
end Go.Proofs.YtmlkcgacneealaaDoor
