/- FnSteps returns true. Conditions: the listed variables as laid. -/
import Derived.Test.YtmlkcgacneealaaDoorLawJ2
import Derived.Deep.DeepCutAuto
import Derived.BigQuiet
set_option linter.unusedVariables false
set_option linter.unusedSimpArgs false
namespace Go.Proofs.YtmlkcgacneealaaDoor
open Go.RowKit
theorem wraps_u32 : ∀ n : Int, 0 ≤ n → n < 2 ^ 32 → IntKind.wrap .u32 n = n := fun n h0 h1 => by rw [IntKind.wrap_u32]; omega
theorem u32_hi8 (x y : Int) (hx0 : 0 ≤ x) (hx : x % 256 = 0) (hx1 : x < 4294967296) (hy0 : 0 ≤ y) (hy : y < 256) : bits .or .u32 x y = x + y := bits_join .u32 32 (by decide) wraps_u32 8 x y hx0 hx hx1 hy0 hy (by omega)
theorem u32_hi16 (x y : Int) (hx0 : 0 ≤ x) (hx : x % 65536 = 0) (hx1 : x < 4294967296) (hy0 : 0 ≤ y) (hy : y < 65536) : bits .or .u32 x y = x + y := bits_join .u32 32 (by decide) wraps_u32 16 x y hx0 hx hx1 hy0 hy (by omega)
theorem u32_hi24 (x y : Int) (hx0 : 0 ≤ x) (hx : x % 16777216 = 0) (hx1 : x < 4294967296) (hy0 : 0 ≤ y) (hy : y < 16777216) : bits .or .u32 x y = x + y := bits_join .u32 32 (by decide) wraps_u32 24 x y hx0 hx hx1 hy0 hy (by omega)
set_option maxHeartbeats 4000000 in
set_option maxRecDepth 100000 in
theorem num_4 (c : Nat → Int) (hc : Bt c) (z : ByteArray) (v : Int) (hv : be4f c 0 = v) (w : World) :
    Calls Tryd.prog 54 #[.agg (adr 4 c z)] w fun e w' => e = .returned (.int .u32 v) ∧ Below w.heap.size w w' := by
  obtain ⟨h00, h01⟩ := hc 0
  obtain ⟨h10, h11⟩ := hc 1
  obtain ⟨h20, h21⟩ := hc 2
  obtain ⟨h30, h31⟩ := hc 3
  rw [← hv]
  clear hv hc
  have q0 : (w.alloc (.cells (adr 4 c z) 29)).cell? ⟨w.heap.size, 1, none⟩ = some (.int .u8 (c 0)) := by go_simp
  have q1 : (w.alloc (.cells (adr 4 c z) 29)).cell? ⟨w.heap.size, 2, none⟩ = some (.int .u8 (c 1)) := by go_simp
  have q2 : (w.alloc (.cells (adr 4 c z) 29)).cell? ⟨w.heap.size, 3, none⟩ = some (.int .u8 (c 2)) := by go_simp
  have q3 : (w.alloc (.cells (adr 4 c z) 29)).cell? ⟨w.heap.size, 4, none⟩ = some (.int .u8 (c 3)) := by go_simp
  go_enter Tryd.func54, Tryd.ntmps54
  go_wp2
  go_quiet (fail)
  go_wp2
  go_ret
  refine ⟨?_, (by repeat' (first | (with_reducible exact Below.refl _ _) | (with_reducible assumption) | (with_reducible refine Below.alloc ?_ ?_ _) | (with_reducible refine Below.drew ?_) | (with_reducible refine below_drewN ?_ _) | (with_reducible refine Below.setCell ?_ ?_ _) | (with_reducible refine below_setRow' ?_ ?_ _) | go_size))⟩
  have e : bits .or .u32 (bits .or .u32 (bits .or .u32 (c 0 * 16777216) (c 1 * 65536)) (c 2 * 256)) (c 3) = be4f c 0 := by
    simp (disch := omega) only [u32_hi8, u32_hi16, u32_hi24]
    unfold be4f be4; simp only [Nat.reduceAdd]
  rw [← e]
  rfl
set_option maxHeartbeats 4000000 in
set_option maxRecDepth 100000 in
theorem num_16 (c : Nat → Int) (hc : Bt c) (z : ByteArray) (v : Int) (hv : be4f c 12 = v) (w : World) :
    Calls Tryd.prog 54 #[.agg (adr 16 c z)] w fun e w' => e = .returned (.int .u32 v) ∧ Below w.heap.size w w' := by
  obtain ⟨h00, h01⟩ := hc 12
  obtain ⟨h10, h11⟩ := hc 13
  obtain ⟨h20, h21⟩ := hc 14
  obtain ⟨h30, h31⟩ := hc 15
  rw [← hv]
  clear hv hc
  have q0 : (w.alloc (.cells (adr 16 c z) 29)).cell? ⟨w.heap.size, 13, none⟩ = some (.int .u8 (c 12)) := by go_simp
  have q1 : (w.alloc (.cells (adr 16 c z) 29)).cell? ⟨w.heap.size, 14, none⟩ = some (.int .u8 (c 13)) := by go_simp
  have q2 : (w.alloc (.cells (adr 16 c z) 29)).cell? ⟨w.heap.size, 15, none⟩ = some (.int .u8 (c 14)) := by go_simp
  have q3 : (w.alloc (.cells (adr 16 c z) 29)).cell? ⟨w.heap.size, 16, none⟩ = some (.int .u8 (c 15)) := by go_simp
  go_enter Tryd.func54, Tryd.ntmps54
  go_wp2
  go_quiet (fail)
  go_wp2
  go_ret
  refine ⟨?_, (by repeat' (first | (with_reducible exact Below.refl _ _) | (with_reducible assumption) | (with_reducible refine Below.alloc ?_ ?_ _) | (with_reducible refine Below.drew ?_) | (with_reducible refine below_drewN ?_ _) | (with_reducible refine Below.setCell ?_ ?_ _) | (with_reducible refine below_setRow' ?_ ?_ _) | go_size))⟩
  have e : bits .or .u32 (bits .or .u32 (bits .or .u32 (c 12 * 16777216) (c 13 * 65536)) (c 14 * 256)) (c 15) = be4f c 12 := by
    simp (disch := omega) only [u32_hi8, u32_hi16, u32_hi24]
    unfold be4f be4; simp only [Nat.reduceAdd]
  rw [← e]
  rfl
set_option maxHeartbeats 4000000 in
set_option maxRecDepth 100000 in
theorem law13_4g (b : Nat → Int) (z : ByteArray) (m : Nat) (hm : m < 256) (hC : Bt (pre 4 b)) (f : Int) (hf0 : 0 ≤ f) (hf : be4f (pre 4 b) 0 = f) (hfm : 4294967295 - (m : Int) < f) (w : World) :
    Calls Tryd.prog 13 #[.agg (adr 4 b z), .int .u8 m] w fun e w' => e = .returned (.bool true) ∧ Below w.heap.size w w' := by
  have HC := Lib.hid hC
  have HF := Lib.hid hf
  have hm0 : (0 : Int) ≤ (m : Int) := by omega
  have hm1 : (m : Int) < 256 := by omega
  clear hC hf
  go_enter Tryd.func13, Tryd.ntmps13
  go_wp2_with (first
    | (go_at_call 52; (with_reducible refine (bare_4 _ _ _).mono ?_); rintro e w1 ⟨rfl, hb1⟩; have hk1 := blk?_below hb1; (try simp only [size_drew', size_drewN'] at hk1); have hB1 := below_via (w := w) (by repeat' (first | (with_reducible exact Below.refl _ _) | (with_reducible assumption) | (with_reducible refine Below.alloc ?_ ?_ _) | (with_reducible refine Below.drew ?_) | (with_reducible refine below_drewN ?_ _) | (with_reducible refine Below.setCell ?_ ?_ _) | (with_reducible refine below_setRow' ?_ ?_ _) | go_size)) hb1; have hL0 : w.heap.size < w1.heap.size := (by have hS0 := hb1.size; (try simp at hS0); omega); have hLe : w.heap.size ≤ w1.heap.size := hB1.size; clear hb1)
    | (go_at_call 36; (with_reducible refine (valid_4 _ _ _).mono ?_); rintro e w1 ⟨rfl, hb1⟩; have hk1 := blk?_below hb1; (try simp only [size_drew', size_drewN'] at hk1); have hB1 := below_via (w := w) (by repeat' (first | (with_reducible exact Below.refl _ _) | (with_reducible assumption) | (with_reducible refine Below.alloc ?_ ?_ _) | (with_reducible refine Below.drew ?_) | (with_reducible refine below_drewN ?_ _) | (with_reducible refine Below.setCell ?_ ?_ _) | (with_reducible refine below_setRow' ?_ ?_ _) | go_size)) hb1; have hL0 : w.heap.size < w1.heap.size := (by have hS0 := hb1.size; (try simp at hS0); omega); have hLe : w.heap.size ≤ w1.heap.size := hB1.size; clear hb1)
    | (go_at_call 54; (with_reducible refine (num_4 _ HC.out _ _ HF.out _).mono ?_); rintro e w3 ⟨rfl, hb1⟩; have hk1 := blk?_below hb1; (try simp only [size_drew', size_drewN'] at hk1); have hB1 := below_via (w := w) (by repeat' (first | (with_reducible exact Below.refl _ _) | (with_reducible assumption) | (with_reducible refine Below.alloc ?_ ?_ _) | (with_reducible refine Below.drew ?_) | (with_reducible refine below_drewN ?_ _) | (with_reducible refine Below.setCell ?_ ?_ _) | (with_reducible refine below_setRow' ?_ ?_ _) | go_size)) hb1; have hL0 : w.heap.size < w3.heap.size := (by have hS0 := hb1.size; (try simp at hS0); omega); have hLe : w.heap.size ≤ w3.heap.size := hB1.size; obtain ⟨hc1, hf1⟩ := bcell hb1; (try simp only [size_drew', size_drewN'] at hc1); (try simp only [size_drew', size_drewN'] at hf1); clear hb1))
  go_ret
  exact ⟨rfl, (by repeat' (first | (with_reducible exact Below.refl _ _) | (with_reducible assumption) | (with_reducible refine Below.alloc ?_ ?_ _) | (with_reducible refine Below.drew ?_) | (with_reducible refine below_drewN ?_ _) | (with_reducible refine Below.setCell ?_ ?_ _) | (with_reducible refine below_setRow' ?_ ?_ _) | go_size))⟩
set_option maxHeartbeats 4000000 in
set_option maxRecDepth 100000 in
theorem law13_4w (b : Nat → Int) (z : ByteArray) (m : Nat) (hm : m < 256) (hC : Bt (pre 4 b)) (f : Int) (hf0 : 0 ≤ f) (hf : be4f (pre 4 b) 0 = f) (hfm : f ≤ 4294967295 - (m : Int)) (st : Nat → Nat → Int) (hst : ∀ k, k ≤ m → Bt (st k)) (hs0 : adr 4 (pre 4 b) ⟨#[]⟩ = adr 4 (st 0) ⟨#[]⟩) {b4 o4 b6 o6 : Nat} (w : World) (hg : Gl b4 o4 b6 o6 w)
    (hN : ∀ k, k < m → ∀ w, Gl b4 o4 b6 o6 w → Calls Tryd.prog 41 #[.agg (adr 4 (st k) ⟨#[]⟩)] w fun e w' => e = .returned (.agg (adr 4 (st (k + 1)) ⟨#[]⟩)) ∧ Below w.heap.size w w') (hP : ∀ k, k < m → ∀ w, Gl b4 o4 b6 o6 w → Calls Tryd.prog 39 #[.agg (adr 4 (st (k + 1)) ⟨#[]⟩)] w fun e w' => e = .returned (.agg (adr 4 (st k) ⟨#[]⟩)) ∧ Below w.heap.size w w') (hF : be4f (st m) 0 = f + m) :
    Calls Tryd.prog 13 #[.agg (adr 4 b z), .int .u8 m] w fun e w' => e = .returned (.bool true) ∧ Below w.heap.size w w' := by
  have HG := Lib.hid hg
  have HC := Lib.hid hC
  have HF := Lib.hid hf
  have HF2 := Lib.hid hF
  have HS := Lib.hid hst
  have HN := Lib.hid hN
  have HP := Lib.hid hP
  have HS0 := Lib.hid hs0
  have hm0 : (0 : Int) ≤ (m : Int) := by omega
  have hm1 : (m : Int) < 256 := by omega
  have hq1 : ¬ (4294967295 - (m : Int) < f) := by omega
  have hEq : adrEq 4 (st 0) ⟨#[]⟩ 4 (st 0) ⟨#[]⟩ = true := (adrEq_iff _ _ _ _ _ _).2 ⟨rfl, fun _ _ => rfl, rfl⟩
  clear hg hC hf hF hst hN hP hs0
  go_enter Tryd.func13, Tryd.ntmps13
  go_wp2_with (first
    | (go_at_call 52; (with_reducible refine (bare_4 _ _ _).mono ?_); rintro e w1 ⟨rfl, hb1⟩; have hk1 := blk?_below hb1; (try simp only [size_drew', size_drewN'] at hk1); have hB1 := below_via (w := w) (by repeat' (first | (with_reducible exact Below.refl _ _) | (with_reducible assumption) | (with_reducible refine Below.alloc ?_ ?_ _) | (with_reducible refine Below.drew ?_) | (with_reducible refine below_drewN ?_ _) | (with_reducible refine Below.setCell ?_ ?_ _) | (with_reducible refine below_setRow' ?_ ?_ _) | go_size)) hb1; have hL0 : w.heap.size < w1.heap.size := (by have hS0 := hb1.size; (try simp at hS0); omega); have hLe : w.heap.size ≤ w1.heap.size := hB1.size; clear hb1)
    | (go_at_call 36; (with_reducible refine (valid_4 _ _ _).mono ?_); rintro e w1 ⟨rfl, hb1⟩; have hk1 := blk?_below hb1; (try simp only [size_drew', size_drewN'] at hk1); have hB1 := below_via (w := w) (by repeat' (first | (with_reducible exact Below.refl _ _) | (with_reducible assumption) | (with_reducible refine Below.alloc ?_ ?_ _) | (with_reducible refine Below.drew ?_) | (with_reducible refine below_drewN ?_ _) | (with_reducible refine Below.setCell ?_ ?_ _) | (with_reducible refine below_setRow' ?_ ?_ _) | go_size)) hb1; have hL0 : w.heap.size < w1.heap.size := (by have hS0 := hb1.size; (try simp at hS0); omega); have hLe : w.heap.size ≤ w1.heap.size := hB1.size; clear hb1)
    | (go_at_call 54; (with_reducible refine (num_4 _ HC.out _ _ HF.out _).mono ?_); rintro e w3 ⟨rfl, hb1⟩; have hk1 := blk?_below hb1; (try simp only [size_drew', size_drewN'] at hk1); have hB1 := below_via (w := w) (by repeat' (first | (with_reducible exact Below.refl _ _) | (with_reducible assumption) | (with_reducible refine Below.alloc ?_ ?_ _) | (with_reducible refine Below.drew ?_) | (with_reducible refine below_drewN ?_ _) | (with_reducible refine Below.setCell ?_ ?_ _) | (with_reducible refine below_setRow' ?_ ?_ _) | go_size)) hb1; have hL0 : w.heap.size < w3.heap.size := (by have hS0 := hb1.size; (try simp at hS0); omega); have hLe : w.heap.size ≤ w3.heap.size := hB1.size; obtain ⟨hc1, hf1⟩ := bcell hb1; (try simp only [size_drew', size_drewN'] at hc1); (try simp only [size_drew', size_drewN'] at hf1); clear hb1))
  go_loopw [23, 4] (fun i v4 wr => ∃ k : Nat, k ≤ m ∧ i = .int .u8 k ∧ blk? wr w.heap.size = some (adr 4 (st 0) ⟨#[]⟩) ∧ blk? wr w3.heap.size = some (adr 4 (st k) ⟨#[]⟩) ∧ Below w.heap.size w wr) (fun i _ _ => m - (intOf i).toNat)
  case atStart =>
    refine ⟨0, by omega, rfl, ?_, ?_, (by repeat' (first | (with_reducible exact Below.refl _ _) | (with_reducible assumption) | (with_reducible refine Below.alloc ?_ ?_ _) | (with_reducible refine Below.drew ?_) | (with_reducible refine below_drewN ?_ _) | (with_reducible refine Below.setCell ?_ ?_ _) | (with_reducible refine below_setRow' ?_ ?_ _) | go_size))⟩
    · rw [← HS0.out]; go_simp
    · rw [← HS0.out]; go_simp
  case round =>
    obtain ⟨k, hk, rfl, k0, k3, hB⟩ := hrel
    have hl0 := blk?_lt k0
    have hl3 := blk?_lt k3
    have hi0 : (0 : Int) ≤ (k : Int) := by omega
    by_cases hlt : k < m
    · have hi1 : (k : Int) < (m : Int) := by omega
      have hi2 : (k : Int) + 1 < 256 := by omega
      go_upto_region 12 with (first
        | (go_at_call 41; (with_reducible refine (HN.out k hlt _ ?_).mono ?_); (exact HG.out.below (by repeat' (first | (with_reducible exact Below.refl _ _) | (with_reducible assumption) | (with_reducible refine Below.alloc ?_ ?_ _) | (with_reducible refine Below.drew ?_) | (with_reducible refine below_drewN ?_ _) | (with_reducible refine Below.setCell ?_ ?_ _) | (with_reducible refine below_setRow' ?_ ?_ _) | go_size)) (Nat.le_refl _)); rintro e w5 ⟨rfl, hb1⟩; have hk1 := blk?_below hb1; (try simp only [size_drew', size_drewN'] at hk1); have hB1 := below_via (w := w) (by repeat' (first | (with_reducible exact Below.refl _ _) | (with_reducible assumption) | (with_reducible refine Below.alloc ?_ ?_ _) | (with_reducible refine Below.drew ?_) | (with_reducible refine below_drewN ?_ _) | (with_reducible refine Below.setCell ?_ ?_ _) | (with_reducible refine below_setRow' ?_ ?_ _) | go_size)) hb1; have hL0 : w.heap.size < w5.heap.size := (by have hS0 := hb1.size; (try simp at hS0); omega); have hL1 : w3.heap.size < w5.heap.size := (by have hS0 := hb1.size; (try simp at hS0); omega); have hLe : w.heap.size ≤ w5.heap.size := hB1.size; obtain ⟨hc1, hf1⟩ := bcell hb1; (try simp only [size_drew', size_drewN'] at hc1); (try simp only [size_drew', size_drewN'] at hf1); clear hb1))
      obtain ⟨w6, hw6⟩ : ∃ x : World, x = w5.setRow w3.heap.size (adr 4 (st (k + 1)) ⟨#[]⟩) := ⟨_, rfl⟩
      have j0 : blk? w6 w.heap.size = some (adr 4 (st 0) ⟨#[]⟩) := by rw [hw6]; go_simp
      have j3 : blk? w6 w3.heap.size = some (adr 4 (st (k + 1)) ⟨#[]⟩) := by rw [hw6]; go_simp
      have hB6 : Below w.heap.size w w6 := by rw [hw6]; exact (by repeat' (first | (with_reducible exact Below.refl _ _) | (with_reducible assumption) | (with_reducible refine Below.alloc ?_ ?_ _) | (with_reducible refine Below.drew ?_) | (with_reducible refine below_drewN ?_ _) | (with_reducible refine Below.setCell ?_ ?_ _) | (with_reducible refine below_setRow' ?_ ?_ _) | go_size))
      simp only [← hw6]
      clear hw6 hc1 hf1 hk1 k0 k3
      have hc0 : w6.cell? ⟨w.heap.size, 0, none⟩ = some (.int .i64 4) := by rw [blk?_cell j0]; rfl
      have hc3 : w6.cell? ⟨w3.heap.size, 0, none⟩ = some (.int .i64 4) := by rw [blk?_cell j3]; rfl
      go_wp2
      go_roundw
      case rel => exact ⟨k + 1, by omega, by go_num, j0, j3, hB6⟩
      case measure => simp [intOf]; omega
    · obtain rfl : k = m := by omega
      have hq2 : f + (k : Int) < 4294967296 := by omega
      have hq3 : 0 ≤ f + (k : Int) := by omega
      go_wp2_with (first
        | (go_at_call 54; (with_reducible refine (num_4 _ (HS.out k (Nat.le_refl _)) _ _ HF2.out _).mono ?_); rintro e w7 ⟨rfl, hb1⟩; have hk1 := blk?_below hb1; (try simp only [size_drew', size_drewN'] at hk1); have hB1 := below_via (w := w) (by repeat' (first | (with_reducible exact Below.refl _ _) | (with_reducible assumption) | (with_reducible refine Below.alloc ?_ ?_ _) | (with_reducible refine Below.drew ?_) | (with_reducible refine below_drewN ?_ _) | (with_reducible refine Below.setCell ?_ ?_ _) | (with_reducible refine below_setRow' ?_ ?_ _) | go_size)) hb1; have hL0 : w.heap.size < w7.heap.size := (by have hS0 := hb1.size; (try simp at hS0); omega); have hL1 : w3.heap.size < w7.heap.size := (by have hS0 := hb1.size; (try simp at hS0); omega); have hLe : w.heap.size ≤ w7.heap.size := hB1.size; obtain ⟨hc1, hf1⟩ := bcell hb1; (try simp only [size_drew', size_drewN'] at hc1); (try simp only [size_drew', size_drewN'] at hf1); clear hb1))
      go_loopw [42] (fun i wr => ∃ q : Nat, q ≤ k ∧ i = .int .u8 q ∧ blk? wr w.heap.size = some (adr 4 (st 0) ⟨#[]⟩) ∧ blk? wr w3.heap.size = some (adr 4 (st (k - q)) ⟨#[]⟩) ∧ Below w.heap.size w wr) (fun i _ => k - (intOf i).toNat)
      case atStart =>
        refine ⟨0, by omega, rfl, ?_, ?_, (by repeat' (first | (with_reducible exact Below.refl _ _) | (with_reducible assumption) | (with_reducible refine Below.alloc ?_ ?_ _) | (with_reducible refine Below.drew ?_) | (with_reducible refine below_drewN ?_ _) | (with_reducible refine Below.setCell ?_ ?_ _) | (with_reducible refine below_setRow' ?_ ?_ _) | go_size))⟩
        · go_simp
        · go_simp
      case round =>
        obtain ⟨q, hq, rfl, k0, k3, hB⟩ := hrel
        have hl0 := blk?_lt k0
        have hl3 := blk?_lt k3
        have hi0 : (0 : Int) ≤ (q : Int) := by omega
        by_cases hlt : q < k
        · have hi1 : (q : Int) < (k : Int) := by omega
          have hi2 : (q : Int) + 1 < 256 := by omega
          have eq1 : k - q = k - (q + 1) + 1 := by omega
          rw [eq1] at k3
          clear eq1
          obtain ⟨r, hr⟩ : ∃ r : Nat, r = k - (q + 1) := ⟨_, rfl⟩
          rw [← hr] at k3
          have hrk : r < k := by omega
          have HR := Lib.hid hr
          clear hr
          go_upto_region 20 with (first
            | (go_at_call 39; (with_reducible refine (HP.out r hrk _ ?_).mono ?_); (exact HG.out.below (by repeat' (first | (with_reducible exact Below.refl _ _) | (with_reducible assumption) | (with_reducible refine Below.alloc ?_ ?_ _) | (with_reducible refine Below.drew ?_) | (with_reducible refine below_drewN ?_ _) | (with_reducible refine Below.setCell ?_ ?_ _) | (with_reducible refine below_setRow' ?_ ?_ _) | go_size)) (Nat.le_refl _)); rintro e w8 ⟨rfl, hb1⟩; have hk1 := blk?_below hb1; (try simp only [size_drew', size_drewN'] at hk1); have hB1 := below_via (w := w) (by repeat' (first | (with_reducible exact Below.refl _ _) | (with_reducible assumption) | (with_reducible refine Below.alloc ?_ ?_ _) | (with_reducible refine Below.drew ?_) | (with_reducible refine below_drewN ?_ _) | (with_reducible refine Below.setCell ?_ ?_ _) | (with_reducible refine below_setRow' ?_ ?_ _) | go_size)) hb1; have hL0 : w.heap.size < w8.heap.size := (by have hS0 := hb1.size; (try simp at hS0); omega); have hL1 : w3.heap.size < w8.heap.size := (by have hS0 := hb1.size; (try simp at hS0); omega); have hLe : w.heap.size ≤ w8.heap.size := hB1.size; clear hb1))
          obtain ⟨w6, hw6⟩ : ∃ x : World, x = w8.setRow w3.heap.size (adr 4 (st r) ⟨#[]⟩) := ⟨_, rfl⟩
          have j0 : blk? w6 w.heap.size = some (adr 4 (st 0) ⟨#[]⟩) := by rw [hw6]; go_simp
          have j3 : blk? w6 w3.heap.size = some (adr 4 (st r) ⟨#[]⟩) := by rw [hw6]; go_simp
          have hB6 : Below w.heap.size w w6 := by rw [hw6]; exact (by repeat' (first | (with_reducible exact Below.refl _ _) | (with_reducible assumption) | (with_reducible refine Below.alloc ?_ ?_ _) | (with_reducible refine Below.drew ?_) | (with_reducible refine below_drewN ?_ _) | (with_reducible refine Below.setCell ?_ ?_ _) | (with_reducible refine below_setRow' ?_ ?_ _) | go_size))
          simp only [← hw6]
          clear hw6 hk1 k0 k3
          go_wp2
          go_roundw
          case rel => exact ⟨q + 1, by omega, by go_num, j0, by rw [← HR.out]; exact j3, hB6⟩
          case measure => simp [intOf]; omega
        · obtain rfl : q = k := by omega
          rw [Nat.sub_self] at k3
          go_wp2_with (first
            | (go_at_call 53; (with_reducible refine (iIsValid_4 (b4 := b4) (o4 := o4) _ (HS.out 0 (by omega)) _ _ ?_).mono ?_); (exact HG.out.g4.below (by repeat' (first | (with_reducible exact Below.refl _ _) | (with_reducible assumption) | (with_reducible refine Below.alloc ?_ ?_ _) | (with_reducible refine Below.drew ?_) | (with_reducible refine below_drewN ?_ _) | (with_reducible refine Below.setCell ?_ ?_ _) | (with_reducible refine below_setRow' ?_ ?_ _) | go_size)) (Nat.le_refl _)); rintro e w1 ⟨rfl, hb1⟩; have hk1 := blk?_below hb1; (try simp only [size_drew', size_drewN'] at hk1); have hB1 := below_via (w := w) (by repeat' (first | (with_reducible exact Below.refl _ _) | (with_reducible assumption) | (with_reducible refine Below.alloc ?_ ?_ _) | (with_reducible refine Below.drew ?_) | (with_reducible refine below_drewN ?_ _) | (with_reducible refine Below.setCell ?_ ?_ _) | (with_reducible refine below_setRow' ?_ ?_ _) | go_size)) hb1; have hL0 : w.heap.size < w1.heap.size := (by have hS0 := hb1.size; (try simp at hS0); omega); have hL1 : w3.heap.size < w1.heap.size := (by have hS0 := hb1.size; (try simp at hS0); omega); have hLe : w.heap.size ≤ w1.heap.size := hB1.size; clear hb1))
          go_ret
          exact ⟨rfl, (by repeat' (first | (with_reducible exact Below.refl _ _) | (with_reducible assumption) | (with_reducible refine Below.alloc ?_ ?_ _) | (with_reducible refine Below.drew ?_) | (with_reducible refine below_drewN ?_ _) | (with_reducible refine Below.setCell ?_ ?_ _) | (with_reducible refine below_setRow' ?_ ?_ _) | go_size))⟩
set_option maxHeartbeats 4000000 in
set_option maxRecDepth 100000 in
theorem law13_16g (b : Nat → Int) (z : ByteArray) (m : Nat) (hm : m < 256) (hC : Bt (b)) (f : Int) (hf0 : 0 ≤ f) (hf : be4f (b) 12 = f) (hfm : 4294967295 - (m : Int) < f) (w : World) :
    Calls Tryd.prog 13 #[.agg (adr 16 b z), .int .u8 m] w fun e w' => e = .returned (.bool true) ∧ Below w.heap.size w w' := by
  have HC := Lib.hid hC
  have HF := Lib.hid hf
  have hm0 : (0 : Int) ≤ (m : Int) := by omega
  have hm1 : (m : Int) < 256 := by omega
  clear hC hf
  go_enter Tryd.func13, Tryd.ntmps13
  go_wp2_with (first
    | (go_at_call 52; (with_reducible refine (bare_16 _ _ _).mono ?_); rintro e w1 ⟨rfl, hb1⟩; have hk1 := blk?_below hb1; (try simp only [size_drew', size_drewN'] at hk1); have hB1 := below_via (w := w) (by repeat' (first | (with_reducible exact Below.refl _ _) | (with_reducible assumption) | (with_reducible refine Below.alloc ?_ ?_ _) | (with_reducible refine Below.drew ?_) | (with_reducible refine below_drewN ?_ _) | (with_reducible refine Below.setCell ?_ ?_ _) | (with_reducible refine below_setRow' ?_ ?_ _) | go_size)) hb1; have hL0 : w.heap.size < w1.heap.size := (by have hS0 := hb1.size; (try simp at hS0); omega); have hLe : w.heap.size ≤ w1.heap.size := hB1.size; clear hb1)
    | (go_at_call 36; (with_reducible refine (valid_16 _ _ _).mono ?_); rintro e w1 ⟨rfl, hb1⟩; have hk1 := blk?_below hb1; (try simp only [size_drew', size_drewN'] at hk1); have hB1 := below_via (w := w) (by repeat' (first | (with_reducible exact Below.refl _ _) | (with_reducible assumption) | (with_reducible refine Below.alloc ?_ ?_ _) | (with_reducible refine Below.drew ?_) | (with_reducible refine below_drewN ?_ _) | (with_reducible refine Below.setCell ?_ ?_ _) | (with_reducible refine below_setRow' ?_ ?_ _) | go_size)) hb1; have hL0 : w.heap.size < w1.heap.size := (by have hS0 := hb1.size; (try simp at hS0); omega); have hLe : w.heap.size ≤ w1.heap.size := hB1.size; clear hb1)
    | (go_at_call 54; (with_reducible refine (num_16 _ HC.out _ _ HF.out _).mono ?_); rintro e w3 ⟨rfl, hb1⟩; have hk1 := blk?_below hb1; (try simp only [size_drew', size_drewN'] at hk1); have hB1 := below_via (w := w) (by repeat' (first | (with_reducible exact Below.refl _ _) | (with_reducible assumption) | (with_reducible refine Below.alloc ?_ ?_ _) | (with_reducible refine Below.drew ?_) | (with_reducible refine below_drewN ?_ _) | (with_reducible refine Below.setCell ?_ ?_ _) | (with_reducible refine below_setRow' ?_ ?_ _) | go_size)) hb1; have hL0 : w.heap.size < w3.heap.size := (by have hS0 := hb1.size; (try simp at hS0); omega); have hLe : w.heap.size ≤ w3.heap.size := hB1.size; obtain ⟨hc1, hf1⟩ := bcell hb1; (try simp only [size_drew', size_drewN'] at hc1); (try simp only [size_drew', size_drewN'] at hf1); clear hb1))
  go_ret
  exact ⟨rfl, (by repeat' (first | (with_reducible exact Below.refl _ _) | (with_reducible assumption) | (with_reducible refine Below.alloc ?_ ?_ _) | (with_reducible refine Below.drew ?_) | (with_reducible refine below_drewN ?_ _) | (with_reducible refine Below.setCell ?_ ?_ _) | (with_reducible refine below_setRow' ?_ ?_ _) | go_size))⟩
set_option maxHeartbeats 4000000 in
set_option maxRecDepth 100000 in
theorem law13_16w (b : Nat → Int) (z : ByteArray) (m : Nat) (hm : m < 256) (hC : Bt (b)) (f : Int) (hf0 : 0 ≤ f) (hf : be4f (b) 12 = f) (hfm : f ≤ 4294967295 - (m : Int)) (st : Nat → Nat → Int) (hst : ∀ k, k ≤ m → Bt (st k)) (hs0 : adr 16 (b) ⟨#[]⟩ = adr 16 (st 0) ⟨#[]⟩) {b4 o4 b6 o6 : Nat} (w : World) (hg : Gl b4 o4 b6 o6 w)
    (hN : ∀ k, k < m → ∀ w, Gl b4 o4 b6 o6 w → Calls Tryd.prog 41 #[.agg (adr 16 (st k) ⟨#[]⟩)] w fun e w' => e = .returned (.agg (adr 16 (st (k + 1)) ⟨#[]⟩)) ∧ Below w.heap.size w w') (hP : ∀ k, k < m → ∀ w, Gl b4 o4 b6 o6 w → Calls Tryd.prog 39 #[.agg (adr 16 (st (k + 1)) ⟨#[]⟩)] w fun e w' => e = .returned (.agg (adr 16 (st k) ⟨#[]⟩)) ∧ Below w.heap.size w w') (hF : be4f (st m) 12 = f + m) :
    Calls Tryd.prog 13 #[.agg (adr 16 b z), .int .u8 m] w fun e w' => e = .returned (.bool true) ∧ Below w.heap.size w w' := by
  have HG := Lib.hid hg
  have HC := Lib.hid hC
  have HF := Lib.hid hf
  have HF2 := Lib.hid hF
  have HS := Lib.hid hst
  have HN := Lib.hid hN
  have HP := Lib.hid hP
  have HS0 := Lib.hid hs0
  have hm0 : (0 : Int) ≤ (m : Int) := by omega
  have hm1 : (m : Int) < 256 := by omega
  have hq1 : ¬ (4294967295 - (m : Int) < f) := by omega
  have hEq : adrEq 16 (st 0) ⟨#[]⟩ 16 (st 0) ⟨#[]⟩ = true := (adrEq_iff _ _ _ _ _ _).2 ⟨rfl, fun _ _ => rfl, rfl⟩
  clear hg hC hf hF hst hN hP hs0
  go_enter Tryd.func13, Tryd.ntmps13
  go_wp2_with (first
    | (go_at_call 52; (with_reducible refine (bare_16 _ _ _).mono ?_); rintro e w1 ⟨rfl, hb1⟩; have hk1 := blk?_below hb1; (try simp only [size_drew', size_drewN'] at hk1); have hB1 := below_via (w := w) (by repeat' (first | (with_reducible exact Below.refl _ _) | (with_reducible assumption) | (with_reducible refine Below.alloc ?_ ?_ _) | (with_reducible refine Below.drew ?_) | (with_reducible refine below_drewN ?_ _) | (with_reducible refine Below.setCell ?_ ?_ _) | (with_reducible refine below_setRow' ?_ ?_ _) | go_size)) hb1; have hL0 : w.heap.size < w1.heap.size := (by have hS0 := hb1.size; (try simp at hS0); omega); have hLe : w.heap.size ≤ w1.heap.size := hB1.size; clear hb1)
    | (go_at_call 36; (with_reducible refine (valid_16 _ _ _).mono ?_); rintro e w1 ⟨rfl, hb1⟩; have hk1 := blk?_below hb1; (try simp only [size_drew', size_drewN'] at hk1); have hB1 := below_via (w := w) (by repeat' (first | (with_reducible exact Below.refl _ _) | (with_reducible assumption) | (with_reducible refine Below.alloc ?_ ?_ _) | (with_reducible refine Below.drew ?_) | (with_reducible refine below_drewN ?_ _) | (with_reducible refine Below.setCell ?_ ?_ _) | (with_reducible refine below_setRow' ?_ ?_ _) | go_size)) hb1; have hL0 : w.heap.size < w1.heap.size := (by have hS0 := hb1.size; (try simp at hS0); omega); have hLe : w.heap.size ≤ w1.heap.size := hB1.size; clear hb1)
    | (go_at_call 54; (with_reducible refine (num_16 _ HC.out _ _ HF.out _).mono ?_); rintro e w3 ⟨rfl, hb1⟩; have hk1 := blk?_below hb1; (try simp only [size_drew', size_drewN'] at hk1); have hB1 := below_via (w := w) (by repeat' (first | (with_reducible exact Below.refl _ _) | (with_reducible assumption) | (with_reducible refine Below.alloc ?_ ?_ _) | (with_reducible refine Below.drew ?_) | (with_reducible refine below_drewN ?_ _) | (with_reducible refine Below.setCell ?_ ?_ _) | (with_reducible refine below_setRow' ?_ ?_ _) | go_size)) hb1; have hL0 : w.heap.size < w3.heap.size := (by have hS0 := hb1.size; (try simp at hS0); omega); have hLe : w.heap.size ≤ w3.heap.size := hB1.size; obtain ⟨hc1, hf1⟩ := bcell hb1; (try simp only [size_drew', size_drewN'] at hc1); (try simp only [size_drew', size_drewN'] at hf1); clear hb1))
  go_loopw [23, 4] (fun i v4 wr => ∃ k : Nat, k ≤ m ∧ i = .int .u8 k ∧ blk? wr w.heap.size = some (adr 16 (st 0) ⟨#[]⟩) ∧ blk? wr w3.heap.size = some (adr 16 (st k) ⟨#[]⟩) ∧ Below w.heap.size w wr) (fun i _ _ => m - (intOf i).toNat)
  case atStart =>
    refine ⟨0, by omega, rfl, ?_, ?_, (by repeat' (first | (with_reducible exact Below.refl _ _) | (with_reducible assumption) | (with_reducible refine Below.alloc ?_ ?_ _) | (with_reducible refine Below.drew ?_) | (with_reducible refine below_drewN ?_ _) | (with_reducible refine Below.setCell ?_ ?_ _) | (with_reducible refine below_setRow' ?_ ?_ _) | go_size))⟩
    · rw [← HS0.out]; go_simp
    · rw [← HS0.out]; go_simp
  case round =>
    obtain ⟨k, hk, rfl, k0, k3, hB⟩ := hrel
    have hl0 := blk?_lt k0
    have hl3 := blk?_lt k3
    have hi0 : (0 : Int) ≤ (k : Int) := by omega
    by_cases hlt : k < m
    · have hi1 : (k : Int) < (m : Int) := by omega
      have hi2 : (k : Int) + 1 < 256 := by omega
      go_upto_region 12 with (first
        | (go_at_call 41; (with_reducible refine (HN.out k hlt _ ?_).mono ?_); (exact HG.out.below (by repeat' (first | (with_reducible exact Below.refl _ _) | (with_reducible assumption) | (with_reducible refine Below.alloc ?_ ?_ _) | (with_reducible refine Below.drew ?_) | (with_reducible refine below_drewN ?_ _) | (with_reducible refine Below.setCell ?_ ?_ _) | (with_reducible refine below_setRow' ?_ ?_ _) | go_size)) (Nat.le_refl _)); rintro e w5 ⟨rfl, hb1⟩; have hk1 := blk?_below hb1; (try simp only [size_drew', size_drewN'] at hk1); have hB1 := below_via (w := w) (by repeat' (first | (with_reducible exact Below.refl _ _) | (with_reducible assumption) | (with_reducible refine Below.alloc ?_ ?_ _) | (with_reducible refine Below.drew ?_) | (with_reducible refine below_drewN ?_ _) | (with_reducible refine Below.setCell ?_ ?_ _) | (with_reducible refine below_setRow' ?_ ?_ _) | go_size)) hb1; have hL0 : w.heap.size < w5.heap.size := (by have hS0 := hb1.size; (try simp at hS0); omega); have hL1 : w3.heap.size < w5.heap.size := (by have hS0 := hb1.size; (try simp at hS0); omega); have hLe : w.heap.size ≤ w5.heap.size := hB1.size; obtain ⟨hc1, hf1⟩ := bcell hb1; (try simp only [size_drew', size_drewN'] at hc1); (try simp only [size_drew', size_drewN'] at hf1); clear hb1))
      obtain ⟨w6, hw6⟩ : ∃ x : World, x = w5.setRow w3.heap.size (adr 16 (st (k + 1)) ⟨#[]⟩) := ⟨_, rfl⟩
      have j0 : blk? w6 w.heap.size = some (adr 16 (st 0) ⟨#[]⟩) := by rw [hw6]; go_simp
      have j3 : blk? w6 w3.heap.size = some (adr 16 (st (k + 1)) ⟨#[]⟩) := by rw [hw6]; go_simp
      have hB6 : Below w.heap.size w w6 := by rw [hw6]; exact (by repeat' (first | (with_reducible exact Below.refl _ _) | (with_reducible assumption) | (with_reducible refine Below.alloc ?_ ?_ _) | (with_reducible refine Below.drew ?_) | (with_reducible refine below_drewN ?_ _) | (with_reducible refine Below.setCell ?_ ?_ _) | (with_reducible refine below_setRow' ?_ ?_ _) | go_size))
      simp only [← hw6]
      clear hw6 hc1 hf1 hk1 k0 k3
      have hc0 : w6.cell? ⟨w.heap.size, 0, none⟩ = some (.int .i64 16) := by rw [blk?_cell j0]; rfl
      have hc3 : w6.cell? ⟨w3.heap.size, 0, none⟩ = some (.int .i64 16) := by rw [blk?_cell j3]; rfl
      go_wp2
      go_roundw
      case rel => exact ⟨k + 1, by omega, by go_num, j0, j3, hB6⟩
      case measure => simp [intOf]; omega
    · obtain rfl : k = m := by omega
      have hq2 : f + (k : Int) < 4294967296 := by omega
      have hq3 : 0 ≤ f + (k : Int) := by omega
      go_wp2_with (first
        | (go_at_call 54; (with_reducible refine (num_16 _ (HS.out k (Nat.le_refl _)) _ _ HF2.out _).mono ?_); rintro e w7 ⟨rfl, hb1⟩; have hk1 := blk?_below hb1; (try simp only [size_drew', size_drewN'] at hk1); have hB1 := below_via (w := w) (by repeat' (first | (with_reducible exact Below.refl _ _) | (with_reducible assumption) | (with_reducible refine Below.alloc ?_ ?_ _) | (with_reducible refine Below.drew ?_) | (with_reducible refine below_drewN ?_ _) | (with_reducible refine Below.setCell ?_ ?_ _) | (with_reducible refine below_setRow' ?_ ?_ _) | go_size)) hb1; have hL0 : w.heap.size < w7.heap.size := (by have hS0 := hb1.size; (try simp at hS0); omega); have hL1 : w3.heap.size < w7.heap.size := (by have hS0 := hb1.size; (try simp at hS0); omega); have hLe : w.heap.size ≤ w7.heap.size := hB1.size; obtain ⟨hc1, hf1⟩ := bcell hb1; (try simp only [size_drew', size_drewN'] at hc1); (try simp only [size_drew', size_drewN'] at hf1); clear hb1))
      go_loopw [42] (fun i wr => ∃ q : Nat, q ≤ k ∧ i = .int .u8 q ∧ blk? wr w.heap.size = some (adr 16 (st 0) ⟨#[]⟩) ∧ blk? wr w3.heap.size = some (adr 16 (st (k - q)) ⟨#[]⟩) ∧ Below w.heap.size w wr) (fun i _ => k - (intOf i).toNat)
      case atStart =>
        refine ⟨0, by omega, rfl, ?_, ?_, (by repeat' (first | (with_reducible exact Below.refl _ _) | (with_reducible assumption) | (with_reducible refine Below.alloc ?_ ?_ _) | (with_reducible refine Below.drew ?_) | (with_reducible refine below_drewN ?_ _) | (with_reducible refine Below.setCell ?_ ?_ _) | (with_reducible refine below_setRow' ?_ ?_ _) | go_size))⟩
        · go_simp
        · go_simp
      case round =>
        obtain ⟨q, hq, rfl, k0, k3, hB⟩ := hrel
        have hl0 := blk?_lt k0
        have hl3 := blk?_lt k3
        have hi0 : (0 : Int) ≤ (q : Int) := by omega
        by_cases hlt : q < k
        · have hi1 : (q : Int) < (k : Int) := by omega
          have hi2 : (q : Int) + 1 < 256 := by omega
          have eq1 : k - q = k - (q + 1) + 1 := by omega
          rw [eq1] at k3
          clear eq1
          obtain ⟨r, hr⟩ : ∃ r : Nat, r = k - (q + 1) := ⟨_, rfl⟩
          rw [← hr] at k3
          have hrk : r < k := by omega
          have HR := Lib.hid hr
          clear hr
          go_upto_region 20 with (first
            | (go_at_call 39; (with_reducible refine (HP.out r hrk _ ?_).mono ?_); (exact HG.out.below (by repeat' (first | (with_reducible exact Below.refl _ _) | (with_reducible assumption) | (with_reducible refine Below.alloc ?_ ?_ _) | (with_reducible refine Below.drew ?_) | (with_reducible refine below_drewN ?_ _) | (with_reducible refine Below.setCell ?_ ?_ _) | (with_reducible refine below_setRow' ?_ ?_ _) | go_size)) (Nat.le_refl _)); rintro e w8 ⟨rfl, hb1⟩; have hk1 := blk?_below hb1; (try simp only [size_drew', size_drewN'] at hk1); have hB1 := below_via (w := w) (by repeat' (first | (with_reducible exact Below.refl _ _) | (with_reducible assumption) | (with_reducible refine Below.alloc ?_ ?_ _) | (with_reducible refine Below.drew ?_) | (with_reducible refine below_drewN ?_ _) | (with_reducible refine Below.setCell ?_ ?_ _) | (with_reducible refine below_setRow' ?_ ?_ _) | go_size)) hb1; have hL0 : w.heap.size < w8.heap.size := (by have hS0 := hb1.size; (try simp at hS0); omega); have hL1 : w3.heap.size < w8.heap.size := (by have hS0 := hb1.size; (try simp at hS0); omega); have hLe : w.heap.size ≤ w8.heap.size := hB1.size; clear hb1))
          obtain ⟨w6, hw6⟩ : ∃ x : World, x = w8.setRow w3.heap.size (adr 16 (st r) ⟨#[]⟩) := ⟨_, rfl⟩
          have j0 : blk? w6 w.heap.size = some (adr 16 (st 0) ⟨#[]⟩) := by rw [hw6]; go_simp
          have j3 : blk? w6 w3.heap.size = some (adr 16 (st r) ⟨#[]⟩) := by rw [hw6]; go_simp
          have hB6 : Below w.heap.size w w6 := by rw [hw6]; exact (by repeat' (first | (with_reducible exact Below.refl _ _) | (with_reducible assumption) | (with_reducible refine Below.alloc ?_ ?_ _) | (with_reducible refine Below.drew ?_) | (with_reducible refine below_drewN ?_ _) | (with_reducible refine Below.setCell ?_ ?_ _) | (with_reducible refine below_setRow' ?_ ?_ _) | go_size))
          simp only [← hw6]
          clear hw6 hk1 k0 k3
          go_wp2
          go_roundw
          case rel => exact ⟨q + 1, by omega, by go_num, j0, by rw [← HR.out]; exact j3, hB6⟩
          case measure => simp [intOf]; omega
        · obtain rfl : q = k := by omega
          rw [Nat.sub_self] at k3
          go_wp2_with (first
            | (go_at_call 53; (with_reducible refine (iIsValid_16 (b4 := b4) (o4 := o4) (b6 := b6) (o6 := o6) _ (HS.out 0 (by omega)) _ ?_).mono ?_); (exact HG.out.below (by repeat' (first | (with_reducible exact Below.refl _ _) | (with_reducible assumption) | (with_reducible refine Below.alloc ?_ ?_ _) | (with_reducible refine Below.drew ?_) | (with_reducible refine below_drewN ?_ _) | (with_reducible refine Below.setCell ?_ ?_ _) | (with_reducible refine below_setRow' ?_ ?_ _) | go_size)) (Nat.le_refl _)); rintro e w1 ⟨rfl, hb1⟩; have hk1 := blk?_below hb1; (try simp only [size_drew', size_drewN'] at hk1); have hB1 := below_via (w := w) (by repeat' (first | (with_reducible exact Below.refl _ _) | (with_reducible assumption) | (with_reducible refine Below.alloc ?_ ?_ _) | (with_reducible refine Below.drew ?_) | (with_reducible refine below_drewN ?_ _) | (with_reducible refine Below.setCell ?_ ?_ _) | (with_reducible refine below_setRow' ?_ ?_ _) | go_size)) hb1; have hL0 : w.heap.size < w1.heap.size := (by have hS0 := hb1.size; (try simp at hS0); omega); have hL1 : w3.heap.size < w1.heap.size := (by have hS0 := hb1.size; (try simp at hS0); omega); have hLe : w.heap.size ≤ w1.heap.size := hB1.size; clear hb1))
          go_ret
          exact ⟨rfl, (by repeat' (first | (with_reducible exact Below.refl _ _) | (with_reducible assumption) | (with_reducible refine Below.alloc ?_ ?_ _) | (with_reducible refine Below.drew ?_) | (with_reducible refine below_drewN ?_ _) | (with_reducible refine Below.setCell ?_ ?_ _) | (with_reducible refine below_setRow' ?_ ?_ _) | go_size))⟩
set_option maxHeartbeats 4000000 in
set_option maxRecDepth 100000 in
theorem law13_0 (n : Int) (h4 : n ≠ 4) (h16 : n ≠ 16) (b : Nat → Int) (z : ByteArray) (m : Int) (w : World) :
    Calls Tryd.prog 13 #[.agg (adr n b z), .int .u8 m] w fun e w' => e = .returned (.bool true) ∧ Below w.heap.size w w' := by
  go_enter Tryd.func13, Tryd.ntmps13
  go_wp2_with (first
    | (go_at_call 52; (with_reducible refine (bare_0 n h4 h16 _ _ _).mono ?_); rintro e w1 ⟨rfl, hb1⟩; have hk1 := blk?_below hb1; (try simp only [size_drew', size_drewN'] at hk1); have hB1 := below_via (w := w) (by repeat' (first | (with_reducible exact Below.refl _ _) | (with_reducible assumption) | (with_reducible refine Below.alloc ?_ ?_ _) | (with_reducible refine Below.drew ?_) | (with_reducible refine below_drewN ?_ _) | (with_reducible refine Below.setCell ?_ ?_ _) | (with_reducible refine below_setRow' ?_ ?_ _) | go_size)) hb1; have hL0 : w.heap.size < w1.heap.size := (by have hS0 := hb1.size; (try simp at hS0); omega); have hLe : w.heap.size ≤ w1.heap.size := hB1.size; clear hb1)
    | (go_at_call 36; (with_reducible refine (valid_0 0 (by omega) (by omega) _ _ _).mono ?_); rintro e w1 ⟨rfl, hb1⟩; have hk1 := blk?_below hb1; (try simp only [size_drew', size_drewN'] at hk1); have hB1 := below_via (w := w) (by repeat' (first | (with_reducible exact Below.refl _ _) | (with_reducible assumption) | (with_reducible refine Below.alloc ?_ ?_ _) | (with_reducible refine Below.drew ?_) | (with_reducible refine below_drewN ?_ _) | (with_reducible refine Below.setCell ?_ ?_ _) | (with_reducible refine below_setRow' ?_ ?_ _) | go_size)) hb1; have hL0 : w.heap.size < w1.heap.size := (by have hS0 := hb1.size; (try simp at hS0); omega); have hLe : w.heap.size ≤ w1.heap.size := hB1.size; clear hb1))
  go_ret
  exact ⟨rfl, (by repeat' (first | (with_reducible exact Below.refl _ _) | (with_reducible assumption) | (with_reducible refine Below.alloc ?_ ?_ _) | (with_reducible refine Below.drew ?_) | (with_reducible refine below_drewN ?_ _) | (with_reducible refine Below.setCell ?_ ?_ _) | (with_reducible refine below_setRow' ?_ ?_ _) | go_size))⟩
theorem be4_12 {c : Nat → Int} (hc : Bt c) : be4f c 12 = be8f c 8 % 4294967296 := by
  have g8 := hc 8
  have g9 := hc 9
  have g10 := hc 10
  have g11 := hc 11
  have g12 := hc 12
  have g13 := hc 13
  have g14 := hc 14
  have g15 := hc 15
  unfold be4f be4 be8f be8
  simp only [Nat.reduceAdd]
  omega
theorem law13_4 (b : Nat → Int) (hb : Bt b) (z : ByteArray) (m : Nat) (hm : m < 256) {b4 o4 b6 o6 : Nat} (w : World) (hg : Gl b4 o4 b6 o6 w) : Calls Tryd.prog 13 #[.agg (adr 4 b z), .int .u8 m] w fun e w' => e = .returned (.bool true) ∧ Below w.heap.size w w' := by
  have hl := be4f_lt hb 0
  by_cases hc : 4294967295 - (m : Int) < be4f b 0
  · exact law13_4g b z m hm (Bt_pre hb 4) (be4f b 0) hl.1 (be4f_pre b) hc w
  · have hv (k : Nat) (hk : k ≤ m) : be4f (b4of (281470681743360 + be4f b 0 + k)) 0 = be4f b 0 + k := by rw [Int.add_assoc]; exact be4_b4of _ (by omega)
    have hB (k : Nat) (hk : k ≤ m) : Bt (b4of (281470681743360 + be4f b 0 + k)) := Bt_b4 (by omega)
    refine law13_4w b z m hm (Bt_pre hb 4) (be4f b 0) hl.1 (be4f_pre b) (by omega) (fun k => b4of (281470681743360 + be4f b 0 + k)) hB ?_ w hg ?_ ?_ (hv m (Nat.le_refl _))
    · show _ = adr 4 (b4of (281470681743360 + be4f b 0 + ((0 : Nat) : Int))) ⟨#[]⟩
      rw [show (281470681743360 : Int) + be4f b 0 + ((0 : Nat) : Int) = 281470681743360 + be4f b 0 by omega, b4of_be4 hb]
    · intro k hk w hg
      have := iNext_4n _ (hB k (by omega)) ⟨#[]⟩ (by rw [hv k (by omega)]; omega) w hg.g4
      rw [hv k (by omega), show (281470681743360 : Int) + (be4f b 0 + k) + 1 = 281470681743360 + be4f b 0 + ((k + 1 : Nat) : Int) by omega] at this
      exact this
    · intro k hk w hg
      have := iPrev_4n _ (hB (k + 1) (by omega)) ⟨#[]⟩ (by rw [hv (k + 1) (by omega)]; omega) w hg.g4
      rw [hv (k + 1) (by omega), show (281470681743360 : Int) + (be4f b 0 + ((k + 1 : Nat) : Int)) - 1 = 281470681743360 + be4f b 0 + (k : Int) by omega] at this
      exact this
theorem law13_16 (b : Nat → Int) (hb : Bt b) (z : ByteArray) (m : Nat) (hm : m < 256) {b4 o4 b6 o6 : Nat} (w : World) (hg : Gl b4 o4 b6 o6 w) : Calls Tryd.prog 13 #[.agg (adr 16 b z), .int .u8 m] w fun e w' => e = .returned (.bool true) ∧ Below w.heap.size w w' := by
  have hx := be8f_lt hb 0
  have hy := be8f_lt hb 8
  have e12 := be4_12 hb
  have hl := be4f_lt hb 12
  by_cases hc : 4294967295 - (m : Int) < be4f b 12
  · exact law13_16g b z m hm hb (be4f b 12) hl.1 rfl hc w
  · have hr (k : Nat) (hk : k ≤ m) : 0 ≤ be8f b 8 + (k : Int) ∧ be8f b 8 + (k : Int) < 18446744073709551616 := by omega
    have hB (k : Nat) (hk : k ≤ m) : Bt (b16of (be8f b 0) (be8f b 8 + k)) := Bt_b16 hx (hr k hk)
    refine law13_16w b z m hm hb (be4f b 12) hl.1 rfl (by omega) (fun k => b16of (be8f b 0) (be8f b 8 + k)) hB ?_ w hg ?_ ?_ ?_
    · show _ = adr 16 (b16of (be8f b 0) (be8f b 8 + ((0 : Nat) : Int))) ⟨#[]⟩
      rw [show be8f b 8 + ((0 : Nat) : Int) = be8f b 8 by omega, b16of_be8 hb, adr_pre16]
    · intro k hk w hg
      exact nx16 _ _ _ _ hx (hr k (by omega)) (Or.inl ⟨by omega, rfl, by omega⟩) _ (hB k (by omega)) (be8f_b16hi hx) (be8f_b16lo (hr k (by omega))) w hg
    · intro k hk w hg
      exact pv16 _ _ _ _ hx (hr (k + 1) (by omega)) (Or.inl ⟨by omega, rfl, by omega⟩) _ (hB (k + 1) (by omega)) (be8f_b16hi hx) (be8f_b16lo (hr (k + 1) (by omega))) w hg
    · show be4f (b16of (be8f b 0) (be8f b 8 + (m : Int))) 12 = be4f b 12 + m
      rw [be4_12 (hB m (Nat.le_refl _)), be8f_b16lo (hr m (Nat.le_refl _))]
      omega
theorem law13 (n : Int) (b : Nat → Int) (hb : Bt b) (z : ByteArray) (m : Int) (hm : 0 ≤ m ∧ m < 256) {b4 o4 b6 o6 : Nat} (w : World) (hg : Gl b4 o4 b6 o6 w) :
    Calls Tryd.prog 13 #[.agg (adr n b z), .int .u8 m] w fun e w' => e = .returned (.bool true) ∧ Below w.heap.size w w' := by
  obtain ⟨m, rfl⟩ := Int.eq_ofNat_of_zero_le hm.1
  by_cases h4 : n = 4
  · subst h4; exact law13_4 b hb z m (by omega) w hg
  by_cases h16 : n = 16
  · subst h16; exact law13_16 b hb z m (by omega) w hg
  exact law13_0 n h4 h16 b z m w
end Go.Proofs.YtmlkcgacneealaaDoor
