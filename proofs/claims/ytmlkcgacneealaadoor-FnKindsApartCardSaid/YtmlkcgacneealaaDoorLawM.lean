/- FnKindsApart returns true. Conditions: the listed variables as laid. -/
import Derived.Test.YtmlkcgacneealaaDoorPApart
import Derived.Test.YtmlkcgacneealaaDoorLawI
import Derived.Deep.DeepCutAuto
set_option linter.unusedVariables false
set_option linter.unusedSimpArgs false
namespace Go.Proofs.YtmlkcgacneealaaDoor
open Go.RowKit

/-- Number k of the five. -/
def five (a0 a1 a2 a5 a6 : Bool) : Nat → Bool
  | 0 => a0 | 1 => a1 | 2 => a2 | 3 => a5 | _ => a6
def fidx : Nat → Int
  | 0 => 0 | 1 => 1 | 2 => 2 | 3 => 5 | _ => 6
/-- How many of the first k are true. -/
def cn (a0 a1 a2 a5 a6 : Bool) : Nat → Int
  | 0 => 0
  | k + 1 => cn a0 a1 a2 a5 a6 k + (if five a0 a1 a2 a5 a6 k then 1 else 0)
theorem cn_le : ∀ a0 a1 a2 a3 a4 a5 a6 : Bool, adm a0 a1 a2 a3 a4 a5 a6 = true → cn a0 a1 a2 a5 a6 5 ≤ 1 := by decide
theorem cn_bd (a0 a1 a2 a5 a6 : Bool) : ∀ k, 0 ≤ cn a0 a1 a2 a5 a6 k ∧ cn a0 a1 a2 a5 a6 k ≤ k
  | 0 => by simp [cn]
  | k + 1 => by
    have := cn_bd a0 a1 a2 a5 a6 k
    simp only [cn]
    split <;> omega
theorem loop_lo {b4 o4 b6 o6 : Nat} (w : World) (hg : Gl b4 o4 b6 o6 w) : Calls Tryd.prog 62 #[.agg (adr 16 (upd zb 15 1) ⟨#[]⟩)] w fun e w' => e = .returned (.bool true) ∧ Below w.heap.size w w' := by
  have h := iLoop_16f (upd zb 15 1) Bt_lo (by decide +kernel) w hg
  rw [show kLo6 (be8f (upd zb 15 1) 0) (be8f (upd zb 15 1) 8) = true by decide +kernel] at h; exact h
theorem uns_z {b4 o4 b6 o6 : Nat} (w : World) (hg : Gl b4 o4 b6 o6 w) : Calls Tryd.prog 63 #[.agg (adr 4 zb ⟨#[]⟩)] w fun e w' => e = .returned (.bool true) ∧ Below w.heap.size w w' := by
  have h := iUns_4 zb Bt_zb ⟨#[]⟩ w hg
  rw [show (be4f zb 0 == 0) = true by decide +kernel] at h; exact h
theorem llm_no {b4 o4 b6 o6 : Nat} (w : World) (hg : Gl b4 o4 b6 o6 w) : Calls Tryd.prog 64 #[.agg (adr 16 (upd (upd (upd zb 0 255) 1 2) 15 1) ⟨#[]⟩)] w fun e w' => e = .returned (.bool true) ∧ Below w.heap.size w w' := by
  have h := iLLM_16f (upd (upd (upd zb 0 255) 1 2) 15 1) Bt_no (by decide +kernel) w hg
  rw [show kLM6 (be8f (upd (upd (upd zb 0 255) 1 2) 15 1) 0) = true by decide +kernel] at h; exact h
theorem llm_ro {b4 o4 b6 o6 : Nat} (w : World) (hg : Gl b4 o4 b6 o6 w) : Calls Tryd.prog 64 #[.agg (adr 16 (upd (upd (upd zb 0 255) 1 2) 15 2) ⟨#[]⟩)] w fun e w' => e = .returned (.bool true) ∧ Below w.heap.size w w' := by
  have h := iLLM_16f (upd (upd (upd zb 0 255) 1 2) 15 2) Bt_ro (by decide +kernel) w hg
  rw [show kLM6 (be8f (upd (upd (upd zb 0 255) 1 2) 15 2) 0) = true by decide +kernel] at h; exact h
set_option maxHeartbeats 4000000 in
set_option maxRecDepth 100000 in
theorem law18w (n : Int) (b : Nat → Int) (z : ByteArray) (n' : Int) (b' : Nat → Int) (a0 a1 a2 a3 a4 a5 a6 : Bool) (H : adm a0 a1 a2 a3 a4 a5 a6 = true) {b4 o4 b6 o6 : Nat} (w : World) (hg : Gl b4 o4 b6 o6 w)
    (hI : ∀ w, Calls Tryd.prog 55 #[.agg (adr n b z)] w fun e w' => e = .returned (.bool false) ∧ Below w.heap.size w w')
    (hBr : ∀ w, Calls Tryd.prog 52 #[.agg (adr n b z)] w fun e w' => e = .returned (.agg (adr n' b' ⟨#[]⟩)) ∧ Below w.heap.size w w')
    (hK : ∀ w, Gl b4 o4 b6 o6 w → Calls Tryd.prog 56 #[.agg (adr n' b' ⟨#[]⟩)] w fun e w' => e = .returned (.agg (b7 a0 a1 a2 a3 a4 a5 a6)) ∧ Below w.heap.size w w') :
    Calls Tryd.prog 18 #[.agg (adr n b z)] w fun e w' => e = .returned (.bool true) ∧ Below w.heap.size w w' := by
  have HG := Lib.hid hg
  have HI := Lib.hid hI
  have HBr := Lib.hid hBr
  have HK := Lib.hid hK
  have HH := Lib.hid H
  have hle := cn_le a0 a1 a2 a3 a4 a5 a6 H
  clear hg hI hBr hK H
  go_enter Tryd.func18, Tryd.ntmps18
  go_wp2_with (first
    | (go_at_call 55; (with_reducible refine (HI.out _).mono ?_); rintro e w1 ⟨rfl, hb1⟩; have hk1 := blk?_below hb1; (try simp only [size_drew', size_drewN'] at hk1); have hB1 := below_via (w := w) (by repeat' (first | (with_reducible exact Below.refl _ _) | (with_reducible assumption) | (with_reducible refine Below.alloc ?_ ?_ _) | (with_reducible refine Below.drew ?_) | (with_reducible refine below_drewN ?_ _) | (with_reducible refine Below.setCell ?_ ?_ _) | (with_reducible refine below_setRow' ?_ ?_ _) | go_size)) hb1; have hL0 : w.heap.size < w1.heap.size := (by have hS0 := hb1.size; (try simp at hS0); omega); have hLe : w.heap.size ≤ w1.heap.size := hB1.size; clear hb1)
    | (go_at_call 52; (with_reducible refine (HBr.out _).mono ?_); rintro e w2 ⟨rfl, hb1⟩; have hk1 := blk?_below hb1; (try simp only [size_drew', size_drewN'] at hk1); have hB1 := below_via (w := w) (by repeat' (first | (with_reducible exact Below.refl _ _) | (with_reducible assumption) | (with_reducible refine Below.alloc ?_ ?_ _) | (with_reducible refine Below.drew ?_) | (with_reducible refine below_drewN ?_ _) | (with_reducible refine Below.setCell ?_ ?_ _) | (with_reducible refine below_setRow' ?_ ?_ _) | go_size)) hb1; have hL0 : w.heap.size < w2.heap.size := (by have hS0 := hb1.size; (try simp at hS0); omega); have hLe : w.heap.size ≤ w2.heap.size := hB1.size; clear hb1)
    | (go_at_call 56; (with_reducible refine (HK.out _ ?_).mono ?_); (exact HG.out.below (by repeat' (first | (with_reducible exact Below.refl _ _) | (with_reducible assumption) | (with_reducible refine Below.alloc ?_ ?_ _) | (with_reducible refine Below.drew ?_) | (with_reducible refine below_drewN ?_ _) | (with_reducible refine Below.setCell ?_ ?_ _) | (with_reducible refine below_setRow' ?_ ?_ _) | go_size)) (Nat.le_refl _)); rintro e w3 ⟨rfl, hb1⟩; have hk1 := blk?_below hb1; (try simp only [size_drew', size_drewN'] at hk1); have hB1 := below_via (w := w) (by repeat' (first | (with_reducible exact Below.refl _ _) | (with_reducible assumption) | (with_reducible refine Below.alloc ?_ ?_ _) | (with_reducible refine Below.drew ?_) | (with_reducible refine below_drewN ?_ _) | (with_reducible refine Below.setCell ?_ ?_ _) | (with_reducible refine below_setRow' ?_ ?_ _) | go_size)) hb1; have hL0 : w.heap.size < w3.heap.size := (by have hS0 := hb1.size; (try simp at hS0); omega); have hLe : w.heap.size ≤ w3.heap.size := hB1.size; clear hb1))
  go_loopw [15, 4, 6] (fun i c v6 wr => ∃ k : Nat, k ≤ 5 ∧ i = .int .i64 k ∧ c = .int .i64 (cn a0 a1 a2 a5 a6 k) ∧ blk? wr w3.heap.size = some (b7 a0 a1 a2 a3 a4 a5 a6) ∧ (∀ j, j < 5 → wr.cell? ⟨w3.heap.size + 1, j, none⟩ = some (.int .i64 (fidx j))) ∧ Below w.heap.size w wr) (fun i _ _ _ => 5 - (intOf i).toNat)
  case atStart =>
    refine ⟨0, by omega, rfl, rfl, ?_, ?_, (by repeat' (first | (with_reducible exact Below.refl _ _) | (with_reducible assumption) | (with_reducible refine Below.alloc ?_ ?_ _) | (with_reducible refine Below.drew ?_) | (with_reducible refine below_drewN ?_ _) | (with_reducible refine Below.setCell ?_ ?_ _) | (with_reducible refine below_setRow' ?_ ?_ _) | go_size))⟩
    · go_simp
    · intro j hj
      match j, hj with
      | 0, _ => go_simp; rfl
      | 1, _ => go_simp; rfl
      | 2, _ => go_simp; rfl
      | 3, _ => go_simp; rfl
      | 4, _ => go_simp; rfl
      | j + 5, hj => omega
  case round =>
    obtain ⟨k, hk, rfl, rfl, k3, hsl, hB⟩ := hrel
    have hl3 := blk?_lt k3
    have HS := Lib.hid hsl
    clear hsl
    by_cases hlt : k < 5
    · match k, hlt with
      | 0, _ =>
          have hs : wr.cell? ⟨w3.heap.size + 1, 0, none⟩ = some (.int .i64 0) := HS.out 0 (by omega)
          obtain ⟨q, hqd⟩ : ∃ q : Bool, q = a0 := ⟨_, rfl⟩
          have hx : wr.cell? ⟨w3.heap.size, 0, none⟩ = some (.bool q) := by rw [blk?_cell k3, hqd]; rfl
          have hcb := cn_bd a0 a1 a2 a5 a6 0
          have hcs : cn a0 a1 a2 a5 a6 1 = cn a0 a1 a2 a5 a6 0 + (if q then 1 else 0) := by rw [hqd]; rfl
          clear hqd
          cases q
          all_goals
            simp only [if_true, if_false, Bool.false_eq_true, Int.add_zero] at hcs
            go_wp2
            go_roundw
            case rel => exact ⟨1, by omega, by go_num, by rw [hcs], k3, HS.out, hB⟩
            case measure => simp [intOf]
      | 1, _ =>
          have hs : wr.cell? ⟨w3.heap.size + 1, 1, none⟩ = some (.int .i64 1) := HS.out 1 (by omega)
          obtain ⟨q, hqd⟩ : ∃ q : Bool, q = a1 := ⟨_, rfl⟩
          have hx : wr.cell? ⟨w3.heap.size, 1, none⟩ = some (.bool q) := by rw [blk?_cell k3, hqd]; rfl
          have hcb := cn_bd a0 a1 a2 a5 a6 1
          have hcs : cn a0 a1 a2 a5 a6 2 = cn a0 a1 a2 a5 a6 1 + (if q then 1 else 0) := by rw [hqd]; rfl
          clear hqd
          cases q
          all_goals
            simp only [if_true, if_false, Bool.false_eq_true, Int.add_zero] at hcs
            go_wp2
            go_roundw
            case rel => exact ⟨2, by omega, by go_num, by rw [hcs], k3, HS.out, hB⟩
            case measure => simp [intOf]
      | 2, _ =>
          have hs : wr.cell? ⟨w3.heap.size + 1, 2, none⟩ = some (.int .i64 2) := HS.out 2 (by omega)
          obtain ⟨q, hqd⟩ : ∃ q : Bool, q = a2 := ⟨_, rfl⟩
          have hx : wr.cell? ⟨w3.heap.size, 2, none⟩ = some (.bool q) := by rw [blk?_cell k3, hqd]; rfl
          have hcb := cn_bd a0 a1 a2 a5 a6 2
          have hcs : cn a0 a1 a2 a5 a6 3 = cn a0 a1 a2 a5 a6 2 + (if q then 1 else 0) := by rw [hqd]; rfl
          clear hqd
          cases q
          all_goals
            simp only [if_true, if_false, Bool.false_eq_true, Int.add_zero] at hcs
            go_wp2
            go_roundw
            case rel => exact ⟨3, by omega, by go_num, by rw [hcs], k3, HS.out, hB⟩
            case measure => simp [intOf]
      | 3, _ =>
          have hs : wr.cell? ⟨w3.heap.size + 1, 3, none⟩ = some (.int .i64 5) := HS.out 3 (by omega)
          obtain ⟨q, hqd⟩ : ∃ q : Bool, q = a5 := ⟨_, rfl⟩
          have hx : wr.cell? ⟨w3.heap.size, 5, none⟩ = some (.bool q) := by rw [blk?_cell k3, hqd]; rfl
          have hcb := cn_bd a0 a1 a2 a5 a6 3
          have hcs : cn a0 a1 a2 a5 a6 4 = cn a0 a1 a2 a5 a6 3 + (if q then 1 else 0) := by rw [hqd]; rfl
          clear hqd
          cases q
          all_goals
            simp only [if_true, if_false, Bool.false_eq_true, Int.add_zero] at hcs
            go_wp2
            go_roundw
            case rel => exact ⟨4, by omega, by go_num, by rw [hcs], k3, HS.out, hB⟩
            case measure => simp [intOf]
      | 4, _ =>
          have hs : wr.cell? ⟨w3.heap.size + 1, 4, none⟩ = some (.int .i64 6) := HS.out 4 (by omega)
          obtain ⟨q, hqd⟩ : ∃ q : Bool, q = a6 := ⟨_, rfl⟩
          have hx : wr.cell? ⟨w3.heap.size, 6, none⟩ = some (.bool q) := by rw [blk?_cell k3, hqd]; rfl
          have hcb := cn_bd a0 a1 a2 a5 a6 4
          have hcs : cn a0 a1 a2 a5 a6 5 = cn a0 a1 a2 a5 a6 4 + (if q then 1 else 0) := by rw [hqd]; rfl
          clear hqd
          cases q
          all_goals
            simp only [if_true, if_false, Bool.false_eq_true, Int.add_zero] at hcs
            go_wp2
            go_roundw
            case rel => exact ⟨5, by omega, by go_num, by rw [hcs], k3, HS.out, hB⟩
            case measure => simp [intOf]
      | k + 5, hlt => omega
    · obtain rfl : k = 5 := by omega
      have hx2 : wr.cell? ⟨w3.heap.size, 2, none⟩ = some (.bool a2) := by rw [blk?_cell k3]; rfl
      have hx3 : wr.cell? ⟨w3.heap.size, 3, none⟩ = some (.bool a3) := by rw [blk?_cell k3]; rfl
      have hx4 : wr.cell? ⟨w3.heap.size, 4, none⟩ = some (.bool a4) := by rw [blk?_cell k3]; rfl
      clear k3 HS
      generalize cn a0 a1 a2 a5 a6 5 = m at hle
      go_upto_region 12 with (first
        | (go_at_call 32; (with_reducible refine (impl_lo (b4 := b4) (o4 := o4) (b6 := b6) (o6 := o6) _ ?_).mono ?_); (exact HG.out.below (by repeat' (first | (with_reducible exact Below.refl _ _) | (with_reducible assumption) | (with_reducible refine Below.alloc ?_ ?_ _) | (with_reducible refine Below.drew ?_) | (with_reducible refine below_drewN ?_ _) | (with_reducible refine Below.setCell ?_ ?_ _) | (with_reducible refine below_setRow' ?_ ?_ _) | go_size)) (Nat.le_refl _)); rintro e w1 ⟨rfl, hb1⟩; have hk1 := blk?_below hb1; (try simp only [size_drew', size_drewN'] at hk1); have hB1 := below_via (w := w) (by repeat' (first | (with_reducible exact Below.refl _ _) | (with_reducible assumption) | (with_reducible refine Below.alloc ?_ ?_ _) | (with_reducible refine Below.drew ?_) | (with_reducible refine below_drewN ?_ _) | (with_reducible refine Below.setCell ?_ ?_ _) | (with_reducible refine below_setRow' ?_ ?_ _) | go_size)) hb1; have hL0 : w.heap.size < w1.heap.size := (by have hS0 := hb1.size; (try simp at hS0); omega); have hL1 : w3.heap.size < w1.heap.size := (by have hS0 := hb1.size; (try simp at hS0); omega); have hLe : w.heap.size ≤ w1.heap.size := hB1.size; obtain ⟨hc1, hf1⟩ := bcell hb1; (try simp only [size_drew', size_drewN'] at hc1); (try simp only [size_drew', size_drewN'] at hf1); clear hb1)
        | (go_at_call 62; (with_reducible refine (loop_lo (b4 := b4) (o4 := o4) (b6 := b6) (o6 := o6) _ ?_).mono ?_); (exact HG.out.below (by repeat' (first | (with_reducible exact Below.refl _ _) | (with_reducible assumption) | (with_reducible refine Below.alloc ?_ ?_ _) | (with_reducible refine Below.drew ?_) | (with_reducible refine below_drewN ?_ _) | (with_reducible refine Below.setCell ?_ ?_ _) | (with_reducible refine below_setRow' ?_ ?_ _) | go_size)) (Nat.le_refl _)); rintro e w1 ⟨rfl, hb1⟩; have hk1 := blk?_below hb1; (try simp only [size_drew', size_drewN'] at hk1); have hB1 := below_via (w := w) (by repeat' (first | (with_reducible exact Below.refl _ _) | (with_reducible assumption) | (with_reducible refine Below.alloc ?_ ?_ _) | (with_reducible refine Below.drew ?_) | (with_reducible refine below_drewN ?_ _) | (with_reducible refine Below.setCell ?_ ?_ _) | (with_reducible refine below_setRow' ?_ ?_ _) | go_size)) hb1; have hL0 : w.heap.size < w1.heap.size := (by have hS0 := hb1.size; (try simp at hS0); omega); have hL1 : w3.heap.size < w1.heap.size := (by have hS0 := hb1.size; (try simp at hS0); omega); have hLe : w.heap.size ≤ w1.heap.size := hB1.size; obtain ⟨hc1, hf1⟩ := bcell hb1; (try simp only [size_drew', size_drewN'] at hc1); (try simp only [size_drew', size_drewN'] at hf1); clear hb1)
        | (go_at_call 30; (with_reducible refine (implU4 (b4 := b4) (o4 := o4) _ ?_).mono ?_); (exact HG.out.g4.below (by repeat' (first | (with_reducible exact Below.refl _ _) | (with_reducible assumption) | (with_reducible refine Below.alloc ?_ ?_ _) | (with_reducible refine Below.drew ?_) | (with_reducible refine below_drewN ?_ _) | (with_reducible refine Below.setCell ?_ ?_ _) | (with_reducible refine below_setRow' ?_ ?_ _) | go_size)) (Nat.le_refl _)); rintro e w1 ⟨rfl, hb1⟩; have hk1 := blk?_below hb1; (try simp only [size_drew', size_drewN'] at hk1); have hB1 := below_via (w := w) (by repeat' (first | (with_reducible exact Below.refl _ _) | (with_reducible assumption) | (with_reducible refine Below.alloc ?_ ?_ _) | (with_reducible refine Below.drew ?_) | (with_reducible refine below_drewN ?_ _) | (with_reducible refine Below.setCell ?_ ?_ _) | (with_reducible refine below_setRow' ?_ ?_ _) | go_size)) hb1; have hL0 : w.heap.size < w1.heap.size := (by have hS0 := hb1.size; (try simp at hS0); omega); have hL1 : w3.heap.size < w1.heap.size := (by have hS0 := hb1.size; (try simp at hS0); omega); have hLe : w.heap.size ≤ w1.heap.size := hB1.size; obtain ⟨hc1, hf1⟩ := bcell hb1; (try simp only [size_drew', size_drewN'] at hc1); (try simp only [size_drew', size_drewN'] at hf1); clear hb1)
        | (go_at_call 63; (with_reducible refine (uns_z (b4 := b4) (o4 := o4) (b6 := b6) (o6 := o6) _ ?_).mono ?_); (exact HG.out.below (by repeat' (first | (with_reducible exact Below.refl _ _) | (with_reducible assumption) | (with_reducible refine Below.alloc ?_ ?_ _) | (with_reducible refine Below.drew ?_) | (with_reducible refine below_drewN ?_ _) | (with_reducible refine Below.setCell ?_ ?_ _) | (with_reducible refine below_setRow' ?_ ?_ _) | go_size)) (Nat.le_refl _)); rintro e w1 ⟨rfl, hb1⟩; have hk1 := blk?_below hb1; (try simp only [size_drew', size_drewN'] at hk1); have hB1 := below_via (w := w) (by repeat' (first | (with_reducible exact Below.refl _ _) | (with_reducible assumption) | (with_reducible refine Below.alloc ?_ ?_ _) | (with_reducible refine Below.drew ?_) | (with_reducible refine below_drewN ?_ _) | (with_reducible refine Below.setCell ?_ ?_ _) | (with_reducible refine below_setRow' ?_ ?_ _) | go_size)) hb1; have hL0 : w.heap.size < w1.heap.size := (by have hS0 := hb1.size; (try simp at hS0); omega); have hL1 : w3.heap.size < w1.heap.size := (by have hS0 := hb1.size; (try simp at hS0); omega); have hLe : w.heap.size ≤ w1.heap.size := hB1.size; obtain ⟨hc1, hf1⟩ := bcell hb1; (try simp only [size_drew', size_drewN'] at hc1); (try simp only [size_drew', size_drewN'] at hf1); clear hb1)
        | (go_at_call 33; (with_reducible refine (impl_no (b4 := b4) (o4 := o4) (b6 := b6) (o6 := o6) _ ?_).mono ?_); (exact HG.out.below (by repeat' (first | (with_reducible exact Below.refl _ _) | (with_reducible assumption) | (with_reducible refine Below.alloc ?_ ?_ _) | (with_reducible refine Below.drew ?_) | (with_reducible refine below_drewN ?_ _) | (with_reducible refine Below.setCell ?_ ?_ _) | (with_reducible refine below_setRow' ?_ ?_ _) | go_size)) (Nat.le_refl _)); rintro e w1 ⟨rfl, hb1⟩; have hk1 := blk?_below hb1; (try simp only [size_drew', size_drewN'] at hk1); have hB1 := below_via (w := w) (by repeat' (first | (with_reducible exact Below.refl _ _) | (with_reducible assumption) | (with_reducible refine Below.alloc ?_ ?_ _) | (with_reducible refine Below.drew ?_) | (with_reducible refine below_drewN ?_ _) | (with_reducible refine Below.setCell ?_ ?_ _) | (with_reducible refine below_setRow' ?_ ?_ _) | go_size)) hb1; have hL0 : w.heap.size < w1.heap.size := (by have hS0 := hb1.size; (try simp at hS0); omega); have hL1 : w3.heap.size < w1.heap.size := (by have hS0 := hb1.size; (try simp at hS0); omega); have hLe : w.heap.size ≤ w1.heap.size := hB1.size; obtain ⟨hc1, hf1⟩ := bcell hb1; (try simp only [size_drew', size_drewN'] at hc1); (try simp only [size_drew', size_drewN'] at hf1); clear hb1)
        | (go_at_call 34; (with_reducible refine (impl_ro (b4 := b4) (o4 := o4) (b6 := b6) (o6 := o6) _ ?_).mono ?_); (exact HG.out.below (by repeat' (first | (with_reducible exact Below.refl _ _) | (with_reducible assumption) | (with_reducible refine Below.alloc ?_ ?_ _) | (with_reducible refine Below.drew ?_) | (with_reducible refine below_drewN ?_ _) | (with_reducible refine Below.setCell ?_ ?_ _) | (with_reducible refine below_setRow' ?_ ?_ _) | go_size)) (Nat.le_refl _)); rintro e w1 ⟨rfl, hb1⟩; have hk1 := blk?_below hb1; (try simp only [size_drew', size_drewN'] at hk1); have hB1 := below_via (w := w) (by repeat' (first | (with_reducible exact Below.refl _ _) | (with_reducible assumption) | (with_reducible refine Below.alloc ?_ ?_ _) | (with_reducible refine Below.drew ?_) | (with_reducible refine below_drewN ?_ _) | (with_reducible refine Below.setCell ?_ ?_ _) | (with_reducible refine below_setRow' ?_ ?_ _) | go_size)) hb1; have hL0 : w.heap.size < w1.heap.size := (by have hS0 := hb1.size; (try simp at hS0); omega); have hL1 : w3.heap.size < w1.heap.size := (by have hS0 := hb1.size; (try simp at hS0); omega); have hLe : w.heap.size ≤ w1.heap.size := hB1.size; obtain ⟨hc1, hf1⟩ := bcell hb1; (try simp only [size_drew', size_drewN'] at hc1); (try simp only [size_drew', size_drewN'] at hf1); clear hb1)
        | (go_at_call 64; (with_reducible refine (llm_no (b4 := b4) (o4 := o4) (b6 := b6) (o6 := o6) _ ?_).mono ?_); (exact HG.out.below (by repeat' (first | (with_reducible exact Below.refl _ _) | (with_reducible assumption) | (with_reducible refine Below.alloc ?_ ?_ _) | (with_reducible refine Below.drew ?_) | (with_reducible refine below_drewN ?_ _) | (with_reducible refine Below.setCell ?_ ?_ _) | (with_reducible refine below_setRow' ?_ ?_ _) | go_size)) (Nat.le_refl _)); rintro e w1 ⟨rfl, hb1⟩; have hk1 := blk?_below hb1; (try simp only [size_drew', size_drewN'] at hk1); have hB1 := below_via (w := w) (by repeat' (first | (with_reducible exact Below.refl _ _) | (with_reducible assumption) | (with_reducible refine Below.alloc ?_ ?_ _) | (with_reducible refine Below.drew ?_) | (with_reducible refine below_drewN ?_ _) | (with_reducible refine Below.setCell ?_ ?_ _) | (with_reducible refine below_setRow' ?_ ?_ _) | go_size)) hb1; have hL0 : w.heap.size < w1.heap.size := (by have hS0 := hb1.size; (try simp at hS0); omega); have hL1 : w3.heap.size < w1.heap.size := (by have hS0 := hb1.size; (try simp at hS0); omega); have hLe : w.heap.size ≤ w1.heap.size := hB1.size; obtain ⟨hc1, hf1⟩ := bcell hb1; (try simp only [size_drew', size_drewN'] at hc1); (try simp only [size_drew', size_drewN'] at hf1); clear hb1)
        | (go_at_call 64; (with_reducible refine (llm_ro (b4 := b4) (o4 := o4) (b6 := b6) (o6 := o6) _ ?_).mono ?_); (exact HG.out.below (by repeat' (first | (with_reducible exact Below.refl _ _) | (with_reducible assumption) | (with_reducible refine Below.alloc ?_ ?_ _) | (with_reducible refine Below.drew ?_) | (with_reducible refine below_drewN ?_ _) | (with_reducible refine Below.setCell ?_ ?_ _) | (with_reducible refine below_setRow' ?_ ?_ _) | go_size)) (Nat.le_refl _)); rintro e w1 ⟨rfl, hb1⟩; have hk1 := blk?_below hb1; (try simp only [size_drew', size_drewN'] at hk1); have hB1 := below_via (w := w) (by repeat' (first | (with_reducible exact Below.refl _ _) | (with_reducible assumption) | (with_reducible refine Below.alloc ?_ ?_ _) | (with_reducible refine Below.drew ?_) | (with_reducible refine below_drewN ?_ _) | (with_reducible refine Below.setCell ?_ ?_ _) | (with_reducible refine below_setRow' ?_ ?_ _) | go_size)) hb1; have hL0 : w.heap.size < w1.heap.size := (by have hS0 := hb1.size; (try simp at hS0); omega); have hL1 : w3.heap.size < w1.heap.size := (by have hS0 := hb1.size; (try simp at hS0); omega); have hLe : w.heap.size ≤ w1.heap.size := hB1.size; obtain ⟨hc1, hf1⟩ := bcell hb1; (try simp only [size_drew', size_drewN'] at hc1); (try simp only [size_drew', size_drewN'] at hf1); clear hb1))
      have H := HH.out
      cases a3 <;> cases a4 <;> cases a2
      all_goals first
        | (exfalso; revert H; clear HH; cases a0 <;> cases a1 <;> cases a5 <;> cases a6 <;> decide)
        | (go_wp2; go_ret; exact ⟨rfl, (by repeat' (first | (with_reducible exact Below.refl _ _) | (with_reducible assumption) | (with_reducible refine Below.alloc ?_ ?_ _) | (with_reducible refine Below.drew ?_) | (with_reducible refine below_drewN ?_ _) | (with_reducible refine Below.setCell ?_ ?_ _) | (with_reducible refine below_setRow' ?_ ?_ _) | go_size))⟩)
set_option maxHeartbeats 4000000 in
set_option maxRecDepth 100000 in
theorem law18_16m (b : Nat → Int) (z : ByteArray) (hm : mpB b = true) (w : World) :
    Calls Tryd.prog 18 #[.agg (adr 16 b z)] w fun e w' => e = .returned (.bool true) ∧ Below w.heap.size w w' := by
  have HM := Lib.hid hm
  clear hm
  go_enter Tryd.func18, Tryd.ntmps18
  go_wp2_with (first
    | (go_at_call 55; (with_reducible refine (lIs46_16v _ _ true HM.out _).mono ?_); rintro e w1 ⟨rfl, hb1⟩; have hk1 := blk?_below hb1; (try simp only [size_drew', size_drewN'] at hk1); have hB1 := below_via (w := w) (by repeat' (first | (with_reducible exact Below.refl _ _) | (with_reducible assumption) | (with_reducible refine Below.alloc ?_ ?_ _) | (with_reducible refine Below.drew ?_) | (with_reducible refine below_drewN ?_ _) | (with_reducible refine Below.setCell ?_ ?_ _) | (with_reducible refine below_setRow' ?_ ?_ _) | go_size)) hb1; have hL0 : w.heap.size < w1.heap.size := (by have hS0 := hb1.size; (try simp at hS0); omega); have hLe : w.heap.size ≤ w1.heap.size := hB1.size; clear hb1))
  go_ret
  exact ⟨rfl, (by repeat' (first | (with_reducible exact Below.refl _ _) | (with_reducible assumption) | (with_reducible refine Below.alloc ?_ ?_ _) | (with_reducible refine Below.drew ?_) | (with_reducible refine below_drewN ?_ _) | (with_reducible refine Below.setCell ?_ ?_ _) | (with_reducible refine below_setRow' ?_ ?_ _) | go_size))⟩
theorem law18 (n : Int) (b : Nat → Int) (hb : Bt b) (z : ByteArray) {b4 o4 b6 o6 : Nat} (w : World) (hg : Gl b4 o4 b6 o6 w) :
    Calls Tryd.prog 18 #[.agg (adr n b z)] w fun e w' => e = .returned (.bool true) ∧ Below w.heap.size w w' := by
  by_cases h4 : n = 4
  · subst h4
    exact law18w 4 b z 4 (pre 4 b) _ _ _ _ _ _ _ (apart_4 (Bt_pre hb 4)) w hg (fun w => lIs46_4 b z w) (fun w => bare_4 b z w) (fun w hg => kinds_4 (pre 4 b) (Bt_pre hb 4) ⟨#[]⟩ w hg)
  by_cases h16 : n = 16
  · subst h16
    cases hm : mpB b
    · exact law18w 16 b z 16 b _ _ _ _ _ _ _ (apart_6 hb) w hg (fun w => lIs46_16v b z false hm w) (fun w => bare_16 b z w) (fun w hg => kinds_16f b hb (fun e => by have := (mpB_iff hb).2 e; rw [hm] at this; cases this) w hg)
    · exact law18_16m b z hm w
  · exact law18w n b z 0 zb _ _ _ _ _ _ _ apart_0 w hg (fun w => lIs46_0 n h4 h16 b z w) (fun w => bare_0 n h4 h16 b z w) (fun w hg => kinds_0 0 (by omega) (by omega) zb Bt_zb ⟨#[]⟩ w hg)
end Go.Proofs.YtmlkcgacneealaaDoor
