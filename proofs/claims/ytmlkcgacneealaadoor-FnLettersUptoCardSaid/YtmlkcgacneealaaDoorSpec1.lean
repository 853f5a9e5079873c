/- The reference's From, the conversions sa and ia, and the makers of addresses of package impl. Conditions: the listed variables as laid. -/
import Derived.Test.YtmlkcgacneealaaDoorOut
set_option linter.unusedVariables false
set_option linter.unusedSimpArgs false
namespace Go.Proofs.YtmlkcgacneealaaDoor
open Go.RowKit

/-- The first k bytes, zeros behind them. -/
def pre (k : Nat) (b : Nat → Int) : Nat → Int := fun i => if i < k then b i else 0
theorem pre_zero (b : Nat → Int) : pre 0 b = zb := by funext i; simp [pre, zb]
theorem pre_succ (k : Nat) (b : Nat → Int) : upd (pre k b) k (b k) = pre (k + 1) b := by
  funext i
  unfold upd pre
  by_cases h : i = k
  · subst h; simp
  · rw [if_neg h]
    by_cases h2 : i < k
    · rw [if_pos h2, if_pos (by omega)]
    · rw [if_neg h2, if_neg (by omega)]
set_option maxHeartbeats 4000000 in
set_option maxRecDepth 100000 in
theorem from_4 (g o c : Nat) (b : Nat → Int) (w : World) (hc : ∀ i, i < 4 → w.cell? ⟨g, o + i, none⟩ = some (.int .u8 (b i))) (hgs : g < w.heap.size) :
    Calls Tryd.prog 25 #[.slice (some ⟨g, o, none⟩) 4 c] w fun e w' => e = .returned (.tuple #[.agg (adr 4 (pre 4 b) ⟨#[]⟩), .bool true]) ∧ Below w.heap.size w w' := by
  have HC := Lib.hid hc
  clear hc
  have hgs1 : g < w.heap.size + 1 := by omega
  go_enter Tryd.func25, Tryd.ntmps25
  go_wp2
  go_loopw [21, 5, 6] (fun i v5 v6 wr => ∃ k : Nat, k ≤ 4 ∧ i = .int .i64 k ∧ wr = (w.alloc (.cells (adr 0 zb ⟨#[]⟩) 25)).alloc (.cells (adr 4 (pre k b) ⟨#[]⟩) 25)) (fun i _ _ _ => 4 - (intOf i).toNat)
  case atStart => exact ⟨0, by omega, rfl, by rw [pre_zero]⟩
  case round =>
    obtain ⟨k, hk, rfl, rfl⟩ := hrel
    by_cases hlt : k < 4
    · have hcell := HC.out k hlt
      have hk16 : k < 16 := by omega
      have hi0 : (0 : Int) ≤ (k : Int) := by omega
      have hi1 : (k : Int) < 4 := by omega
      have hi2 : (k : Int) < 16 := by omega
      go_wp2
      exact ⟨⟨k + 1, by omega, by go_num, by rw [pre_succ]⟩, by simp [intOf]; omega⟩
    · obtain rfl : k = 4 := by omega
      go_wp2
      refine bodyPost_ret (res25t Tryd.results25 _ _ w.heap.size _ rfl ?_ rfl) rfl ⟨rfl, (by repeat' (first | (with_reducible exact Below.refl _ _) | (with_reducible assumption) | (with_reducible refine Below.alloc ?_ ?_ _) | (with_reducible refine Below.drew ?_) | (with_reducible refine below_drewN ?_ _) | (with_reducible refine Below.setCell ?_ ?_ _) | (with_reducible refine below_setRow' ?_ ?_ _) | go_size))⟩
      go_simp
set_option maxHeartbeats 4000000 in
set_option maxRecDepth 100000 in
theorem from_16 (g o c : Nat) (b : Nat → Int) (w : World) (hc : ∀ i, i < 16 → w.cell? ⟨g, o + i, none⟩ = some (.int .u8 (b i))) (hgs : g < w.heap.size) :
    Calls Tryd.prog 25 #[.slice (some ⟨g, o, none⟩) 16 c] w fun e w' => e = .returned (.tuple #[.agg (adr 16 (pre 16 b) ⟨#[]⟩), .bool true]) ∧ Below w.heap.size w w' := by
  have HC := Lib.hid hc
  clear hc
  have hgs1 : g < w.heap.size + 1 := by omega
  go_enter Tryd.func25, Tryd.ntmps25
  go_wp2
  go_loopw [21, 5, 6] (fun i v5 v6 wr => ∃ k : Nat, k ≤ 16 ∧ i = .int .i64 k ∧ wr = (w.alloc (.cells (adr 0 zb ⟨#[]⟩) 25)).alloc (.cells (adr 16 (pre k b) ⟨#[]⟩) 25)) (fun i _ _ _ => 16 - (intOf i).toNat)
  case atStart => exact ⟨0, by omega, rfl, by rw [pre_zero]⟩
  case round =>
    obtain ⟨k, hk, rfl, rfl⟩ := hrel
    by_cases hlt : k < 16
    · have hcell := HC.out k hlt
      have hk16 : k < 16 := by omega
      have hi0 : (0 : Int) ≤ (k : Int) := by omega
      have hi1 : (k : Int) < 16 := by omega
      have hi2 : (k : Int) < 16 := by omega
      go_wp2
      exact ⟨⟨k + 1, by omega, by go_num, by rw [pre_succ]⟩, by simp [intOf]; omega⟩
    · obtain rfl : k = 16 := by omega
      go_wp2
      refine bodyPost_ret (res25t Tryd.results25 _ _ w.heap.size _ rfl ?_ rfl) rfl ⟨rfl, (by repeat' (first | (with_reducible exact Below.refl _ _) | (with_reducible assumption) | (with_reducible refine Below.alloc ?_ ?_ _) | (with_reducible refine Below.drew ?_) | (with_reducible refine below_drewN ?_ _) | (with_reducible refine Below.setCell ?_ ?_ _) | (with_reducible refine below_setRow' ?_ ?_ _) | go_size))⟩
      go_simp
set_option maxHeartbeats 4000000 in
set_option maxRecDepth 100000 in
theorem from_no (a : Option Addr) (n c : Nat) (h4 : n ≠ 4) (h16 : n ≠ 16) (w : World) :
    Calls Tryd.prog 25 #[.slice a n c] w fun e w' => e = .returned (.tuple #[.agg (adr 0 zb ⟨#[]⟩), .bool false]) ∧ Below w.heap.size w w' := by
  have e4 : ((n : Int) == 4) = false := beq_eq_false_iff_ne.2 (by omega)
  have e16 : ((n : Int) == 16) = false := beq_eq_false_iff_ne.2 (by omega)
  have e4' : ((n : Int) != 4) = true := by rw [bne_iff_ne]; omega
  have e16' : ((n : Int) != 16) = true := by rw [bne_iff_ne]; omega
  go_enter Tryd.func25, Tryd.ntmps25
  go_wp2
  refine bodyPost_ret (res25t Tryd.results25 _ _ w.heap.size _ rfl ?_ rfl) rfl ⟨rfl, (by repeat' (first | (with_reducible exact Below.refl _ _) | (with_reducible assumption) | (with_reducible refine Below.alloc ?_ ?_ _) | (with_reducible refine Below.drew ?_) | (with_reducible refine below_drewN ?_ _) | (with_reducible refine Below.setCell ?_ ?_ _) | (with_reducible refine below_setRow' ?_ ?_ _) | go_size))⟩
  go_simp
set_option maxHeartbeats 4000000 in
set_option maxRecDepth 100000 in
theorem ia_any (n : Int) (b : Nat → Int) (z : ByteArray) (w : World) :
    Calls Tryd.prog 27 #[.agg (adr n b z)] w fun e w' => e = .returned (.agg (adr n b z)) ∧ Below w.heap.size w w' := by
  go_enter Tryd.func27, Tryd.ntmps27
  go_wp2
  refine bodyPost_ret (res29 Tryd.results27 _ _ (w.heap.size + 1) _ rfl ?_ rfl) rfl ⟨rfl, (by repeat' (first | (with_reducible exact Below.refl _ _) | (with_reducible assumption) | (with_reducible refine Below.alloc ?_ ?_ _) | (with_reducible refine Below.drew ?_) | (with_reducible refine below_drewN ?_ _) | (with_reducible refine Below.setCell ?_ ?_ _) | (with_reducible refine below_setRow' ?_ ?_ _) | go_size))⟩
  go_simp
set_option maxHeartbeats 4000000 in
set_option maxRecDepth 100000 in
theorem sa_any (n : Int) (b : Nat → Int) (z : ByteArray) (w : World) :
    Calls Tryd.prog 38 #[.agg (adr n b z)] w fun e w' => e = .returned (.agg (adr n b z)) ∧ Below w.heap.size w w' := by
  go_enter Tryd.func38, Tryd.ntmps38
  go_wp2
  refine bodyPost_ret (res25 Tryd.results38 _ _ (w.heap.size + 1) _ rfl ?_ rfl) rfl ⟨rfl, (by repeat' (first | (with_reducible exact Below.refl _ _) | (with_reducible assumption) | (with_reducible refine Below.alloc ?_ ?_ _) | (with_reducible refine Below.drew ?_) | (with_reducible refine below_drewN ?_ _) | (with_reducible refine Below.setCell ?_ ?_ _) | (with_reducible refine below_setRow' ?_ ?_ _) | go_size))⟩
  go_simp

theorem b4of_be4 {b : Nat → Int} (hb : Bt b) : b4of (281470681743360 + be4f b 0) = pre 4 b := by
  funext i
  unfold b4of pre be4f be4
  have h0 := hb 0
  have h1 := hb 1
  have h2 := hb 2
  have h3 := hb 3
  by_cases h : i < 4
  · rw [if_pos h, if_pos h]
    match i, h with
    | 0, _ => simp [by8]; omega
    | 1, _ => simp [by8]; omega
    | 2, _ => simp [by8]; omega
    | 3, _ => simp [by8]; omega
    | i + 4, h => omega
  · rw [if_neg h, if_neg h]
theorem b16of_be8 {b : Nat → Int} (hb : Bt b) : b16of (be8f b 0) (be8f b 8) = pre 16 b := by
  funext i
  unfold b16of pre
  by_cases h : i < 8
  · rw [if_pos h, if_pos (by omega), by8_be8f hb 0 i h, Nat.zero_add]
  · rw [if_neg h]
    by_cases h2 : i < 16
    · rw [if_pos h2, if_pos h2, by8_be8f hb 8 (i - 8) (by omega), show 8 + (i - 8) = i from by omega]
    · rw [if_neg h2, if_neg h2]
set_option maxHeartbeats 4000000 in
set_option maxRecDepth 100000 in
theorem implAddrFrom4 (b : Nat → Int) (hb : Bt b) {b4 o4 : Nat} (w : World) (hg : G4 b4 o4 w) :
    Calls Tryd.prog 26 #[.agg (arr4 b)] w fun e w' => e = .returned (.agg (adr 4 (pre 4 b) ⟨#[]⟩)) ∧ Below w.heap.size w w' := by
  have HG := Lib.hid hg
  have HB := Lib.hid hb
  rw [← b4of_be4 hb]
  clear hb hg
  go_enter Tryd.func26, Tryd.ntmps26
  go_wp2_with (first
    | (go_at_call 70; refine (addrFrom4 (b4 := b4) (o4 := o4) b HB.out _ ?_).mono ?_; (exact HG.out.below (by repeat' (first | (with_reducible exact Below.refl _ _) | (with_reducible assumption) | (with_reducible refine Below.alloc ?_ ?_ _) | (with_reducible refine Below.drew ?_) | (with_reducible refine below_drewN ?_ _) | (with_reducible refine Below.setCell ?_ ?_ _) | (with_reducible refine below_setRow' ?_ ?_ _) | go_size)) (Nat.le_refl _)); rintro e w1 ⟨rfl, hb1⟩; have hk1 := blk?_below hb1; (try simp only [size_drew', size_drewN'] at hk1); have hB1 := below_via (w := w) (by repeat' (first | (with_reducible exact Below.refl _ _) | (with_reducible assumption) | (with_reducible refine Below.alloc ?_ ?_ _) | (with_reducible refine Below.drew ?_) | (with_reducible refine below_drewN ?_ _) | (with_reducible refine Below.setCell ?_ ?_ _) | (with_reducible refine below_setRow' ?_ ?_ _) | go_size)) hb1; have hL1 : w.heap.size + 1 < w1.heap.size := (by have hS0 := hb1.size; (try simp at hS0); omega); have hL0 : w.heap.size < w1.heap.size := (by omega); have hL3 : w.heap.size ≤ w1.heap.size := (by omega); clear hb1)
    | (go_at_call 69; refine (out_4 (b4 := b4) (o4 := o4) _ _ (by have := be4f_lt HB.out 0; omega) _ ?_).mono ?_; (exact HG.out.below (by repeat' (first | (with_reducible exact Below.refl _ _) | (with_reducible assumption) | (with_reducible refine Below.alloc ?_ ?_ _) | (with_reducible refine Below.drew ?_) | (with_reducible refine below_drewN ?_ _) | (with_reducible refine Below.setCell ?_ ?_ _) | (with_reducible refine below_setRow' ?_ ?_ _) | go_size)) (Nat.le_refl _)); rintro e w1 ⟨rfl, hb1⟩; have hk1 := blk?_below hb1; (try simp only [size_drew', size_drewN'] at hk1); have hB1 := below_via (w := w) (by repeat' (first | (with_reducible exact Below.refl _ _) | (with_reducible assumption) | (with_reducible refine Below.alloc ?_ ?_ _) | (with_reducible refine Below.drew ?_) | (with_reducible refine below_drewN ?_ _) | (with_reducible refine Below.setCell ?_ ?_ _) | (with_reducible refine below_setRow' ?_ ?_ _) | go_size)) hb1; have hL1 : w.heap.size + 1 < w1.heap.size := (by have hS0 := hb1.size; (try simp at hS0); omega); have hL0 : w.heap.size < w1.heap.size := (by omega); have hL3 : w.heap.size ≤ w1.heap.size := (by omega); clear hb1))
  refine bodyPost_ret (res29 Tryd.results26 _ _ (w.heap.size + 1) _ rfl ?_ rfl) rfl ⟨rfl, (by repeat' (first | (with_reducible exact Below.refl _ _) | (with_reducible assumption) | (with_reducible refine Below.alloc ?_ ?_ _) | (with_reducible refine Below.drew ?_) | (with_reducible refine below_drewN ?_ _) | (with_reducible refine Below.setCell ?_ ?_ _) | (with_reducible refine below_setRow' ?_ ?_ _) | go_size))⟩
  go_simp
set_option maxHeartbeats 4000000 in
set_option maxRecDepth 100000 in
theorem implAddrFrom16 (b : Nat → Int) (hb : Bt b) {b4 o4 b6 o6 : Nat} (w : World) (hg : Gl b4 o4 b6 o6 w) :
    Calls Tryd.prog 28 #[.agg (arr16 b)] w fun e w' => e = .returned (.agg (adr 16 (pre 16 b) ⟨#[]⟩)) ∧ Below w.heap.size w w' := by
  have HG := Lib.hid hg
  have HB := Lib.hid hb
  rw [← b16of_be8 hb]
  clear hb hg
  go_enter Tryd.func28, Tryd.ntmps28
  go_wp2_with (first
    | (go_at_call 71; refine (addrFrom16 (b4 := b4) (o4 := o4) (b6 := b6) (o6 := o6) b HB.out _ ?_).mono ?_; (exact HG.out.below (by repeat' (first | (with_reducible exact Below.refl _ _) | (with_reducible assumption) | (with_reducible refine Below.alloc ?_ ?_ _) | (with_reducible refine Below.drew ?_) | (with_reducible refine below_drewN ?_ _) | (with_reducible refine Below.setCell ?_ ?_ _) | (with_reducible refine below_setRow' ?_ ?_ _) | go_size)) (Nat.le_refl _)); rintro e w1 ⟨rfl, hb1⟩; have hk1 := blk?_below hb1; (try simp only [size_drew', size_drewN'] at hk1); have hB1 := below_via (w := w) (by repeat' (first | (with_reducible exact Below.refl _ _) | (with_reducible assumption) | (with_reducible refine Below.alloc ?_ ?_ _) | (with_reducible refine Below.drew ?_) | (with_reducible refine below_drewN ?_ _) | (with_reducible refine Below.setCell ?_ ?_ _) | (with_reducible refine below_setRow' ?_ ?_ _) | go_size)) hb1; have hL1 : w.heap.size + 1 < w1.heap.size := (by have hS0 := hb1.size; (try simp at hS0); omega); have hL0 : w.heap.size < w1.heap.size := (by omega); have hL3 : w.heap.size ≤ w1.heap.size := (by omega); clear hb1)
    | (go_at_call 69; refine (out_6 (b4 := b4) (o4 := o4) (b6 := b6) (o6 := o6) _ _ (be8f_lt HB.out _) (be8f_lt HB.out _) _ ?_).mono ?_; (exact HG.out.below (by repeat' (first | (with_reducible exact Below.refl _ _) | (with_reducible assumption) | (with_reducible refine Below.alloc ?_ ?_ _) | (with_reducible refine Below.drew ?_) | (with_reducible refine below_drewN ?_ _) | (with_reducible refine Below.setCell ?_ ?_ _) | (with_reducible refine below_setRow' ?_ ?_ _) | go_size)) (Nat.le_refl _)); rintro e w1 ⟨rfl, hb1⟩; have hk1 := blk?_below hb1; (try simp only [size_drew', size_drewN'] at hk1); have hB1 := below_via (w := w) (by repeat' (first | (with_reducible exact Below.refl _ _) | (with_reducible assumption) | (with_reducible refine Below.alloc ?_ ?_ _) | (with_reducible refine Below.drew ?_) | (with_reducible refine below_drewN ?_ _) | (with_reducible refine Below.setCell ?_ ?_ _) | (with_reducible refine below_setRow' ?_ ?_ _) | go_size)) hb1; have hL1 : w.heap.size + 1 < w1.heap.size := (by have hS0 := hb1.size; (try simp at hS0); omega); have hL0 : w.heap.size < w1.heap.size := (by omega); have hL3 : w.heap.size ≤ w1.heap.size := (by omega); clear hb1))
  refine bodyPost_ret (res29 Tryd.results28 _ _ (w.heap.size + 1) _ rfl ?_ rfl) rfl ⟨rfl, (by repeat' (first | (with_reducible exact Below.refl _ _) | (with_reducible assumption) | (with_reducible refine Below.alloc ?_ ?_ _) | (with_reducible refine Below.drew ?_) | (with_reducible refine below_drewN ?_ _) | (with_reducible refine Below.setCell ?_ ?_ _) | (with_reducible refine below_setRow' ?_ ?_ _) | go_size))⟩
  go_simp
end Go.Proofs.YtmlkcgacneealaaDoor
