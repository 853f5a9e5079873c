/- impl.Next and impl.Prev return what the reference's do. Conditions: the listed variables as laid. -/
import Derived.Test.YtmlkcgacneealaaDoorPNx
set_option linter.unusedVariables false
set_option linter.unusedSimpArgs false
namespace Go.Proofs.YtmlkcgacneealaaDoor
open Go.RowKit

theorem next_6c' (hi lo : Int) (hh0 : 0 ≤ hi) (hh1 : hi + 1 < 18446744073709551616) (hl : lo = 18446744073709551615) {b4 o4 b6 o6 : Nat} (w : World) (hg : Gl b4 o4 b6 o6 w) : Calls Tryd.prog 84 #[.agg #[.int .u64 (hi), .int .u64 (lo), .pointer (some ⟨b6, o6, none⟩)]] w fun e w' => e = .returned (.agg #[.int .u64 (hi + 1), .int .u64 (0), .pointer (some ⟨b6, o6, none⟩)]) ∧ Below w.heap.size w w' := by subst hl; exact next_6c hi hh0 hh1 w hg
theorem next_6z' (hi lo : Int) (hh : hi = 18446744073709551615) (hl : lo = 18446744073709551615) {b4 o4 b6 o6 : Nat} (w : World) (hg : Gl b4 o4 b6 o6 w) : Calls Tryd.prog 84 #[.agg #[.int .u64 (hi), .int .u64 (lo), .pointer (some ⟨b6, o6, none⟩)]] w fun e w' => e = .returned (.agg #[.int .u64 (0), .int .u64 (0), .pointer none]) ∧ Below w.heap.size w w' := by subst hl; subst hh; exact next_6z w hg
theorem prev_6b' (hi lo : Int) (hh0 : 1 ≤ hi) (hh1 : hi < 18446744073709551616) (hl : lo = 0) {b4 o4 b6 o6 : Nat} (w : World) (hg : Gl b4 o4 b6 o6 w) : Calls Tryd.prog 82 #[.agg #[.int .u64 (hi), .int .u64 (lo), .pointer (some ⟨b6, o6, none⟩)]] w fun e w' => e = .returned (.agg #[.int .u64 (hi - 1), .int .u64 (18446744073709551615), .pointer (some ⟨b6, o6, none⟩)]) ∧ Below w.heap.size w w' := by subst hl; exact prev_6b hi hh0 hh1 w hg
theorem prev_6z' (hi lo : Int) (hh : hi = 0) (hl : lo = 0) {b4 o4 b6 o6 : Nat} (w : World) (hg : Gl b4 o4 b6 o6 w) : Calls Tryd.prog 82 #[.agg #[.int .u64 (hi), .int .u64 (lo), .pointer (some ⟨b6, o6, none⟩)]] w fun e w' => e = .returned (.agg #[.int .u64 (0), .int .u64 (0), .pointer none]) ∧ Below w.heap.size w w' := by subst hl; subst hh; exact prev_6z w hg
set_option maxHeartbeats 4000000 in
set_option maxRecDepth 100000 in
theorem iNext_4n (b : Nat → Int) (hb : Bt b) (z : ByteArray) (hv : be4f b 0 + 1 < 4294967296) {b4 o4 : Nat} (w : World) (hg : G4 b4 o4 w) :
    Calls Tryd.prog 41 #[.agg (adr 4 b z)] w fun e w' => e = .returned (.agg (adr 4 (b4of (281470681743360 + be4f b 0 + 1)) ⟨#[]⟩)) ∧ Below w.heap.size w w' := by
  have HG := Lib.hid hg
  have HB := Lib.hid hb
  have hL4 := be4f_lt hb 0
  have hH := be8f_lt hb 0
  have hL := be8f_lt hb 8
  have HV := Lib.hid hv
  have HL4 := Lib.hid hL4
  have HH := Lib.hid hH
  have HL := Lib.hid hL
  clear hg hb hL4 hH hL hv
  go_enter Tryd.func41, Tryd.ntmps41
  go_wp2_with (first
    | (go_at_call 78; (with_reducible refine (in_4 (b4 := b4) (o4 := o4) _ HB.out _ _ ?_).mono ?_); (exact HG.out.below (by repeat' (first | (with_reducible exact Below.refl _ _) | (with_reducible assumption) | (with_reducible refine Below.alloc ?_ ?_ _) | (with_reducible refine Below.drew ?_) | (with_reducible refine below_drewN ?_ _) | (with_reducible refine Below.setCell ?_ ?_ _) | (with_reducible refine below_setRow' ?_ ?_ _) | go_size)) (Nat.le_refl _)); rintro e w1 ⟨rfl, hb1⟩; have hk1 := blk?_below hb1; (try simp only [size_drew', size_drewN'] at hk1); have hB1 := below_via (w := w) (by repeat' (first | (with_reducible exact Below.refl _ _) | (with_reducible assumption) | (with_reducible refine Below.alloc ?_ ?_ _) | (with_reducible refine Below.drew ?_) | (with_reducible refine below_drewN ?_ _) | (with_reducible refine Below.setCell ?_ ?_ _) | (with_reducible refine below_setRow' ?_ ?_ _) | go_size)) hb1; have hL0 : w.heap.size < w1.heap.size := (by have hS0 := hb1.size; (try simp at hS0); omega); have hL1 : w.heap.size + 1 < w1.heap.size := (by have hS0 := hb1.size; (try simp at hS0); omega); have hLe : w.heap.size ≤ w1.heap.size := hB1.size; clear hb1)
    | (go_at_call 84; (with_reducible refine (next_4n (b4 := b4) (o4 := o4) _ (by have := HV.out; have := HL4.out; have := HH.out; have := HL.out; omega) (by have := HV.out; have := HL4.out; have := HH.out; have := HL.out; omega) (by have := HV.out; have := HL4.out; have := HH.out; have := HL.out; omega) _ ?_).mono ?_); (exact HG.out.below (by repeat' (first | (with_reducible exact Below.refl _ _) | (with_reducible assumption) | (with_reducible refine Below.alloc ?_ ?_ _) | (with_reducible refine Below.drew ?_) | (with_reducible refine below_drewN ?_ _) | (with_reducible refine Below.setCell ?_ ?_ _) | (with_reducible refine below_setRow' ?_ ?_ _) | go_size)) (Nat.le_refl _)); rintro e w1 ⟨rfl, hb1⟩; have hk1 := blk?_below hb1; (try simp only [size_drew', size_drewN'] at hk1); have hB1 := below_via (w := w) (by repeat' (first | (with_reducible exact Below.refl _ _) | (with_reducible assumption) | (with_reducible refine Below.alloc ?_ ?_ _) | (with_reducible refine Below.drew ?_) | (with_reducible refine below_drewN ?_ _) | (with_reducible refine Below.setCell ?_ ?_ _) | (with_reducible refine below_setRow' ?_ ?_ _) | go_size)) hb1; have hL0 : w.heap.size < w1.heap.size := (by have hS0 := hb1.size; (try simp at hS0); omega); have hL1 : w.heap.size + 1 < w1.heap.size := (by have hS0 := hb1.size; (try simp at hS0); omega); have hLe : w.heap.size ≤ w1.heap.size := hB1.size; clear hb1)
    | (go_at_call 69; (with_reducible refine (out_4 (b4 := b4) (o4 := o4) _ _ (by have := HV.out; have := HL4.out; have := HH.out; have := HL.out; omega) _ ?_).mono ?_); (exact HG.out.below (by repeat' (first | (with_reducible exact Below.refl _ _) | (with_reducible assumption) | (with_reducible refine Below.alloc ?_ ?_ _) | (with_reducible refine Below.drew ?_) | (with_reducible refine below_drewN ?_ _) | (with_reducible refine Below.setCell ?_ ?_ _) | (with_reducible refine below_setRow' ?_ ?_ _) | go_size)) (Nat.le_refl _)); rintro e w1 ⟨rfl, hb1⟩; have hk1 := blk?_below hb1; (try simp only [size_drew', size_drewN'] at hk1); have hB1 := below_via (w := w) (by repeat' (first | (with_reducible exact Below.refl _ _) | (with_reducible assumption) | (with_reducible refine Below.alloc ?_ ?_ _) | (with_reducible refine Below.drew ?_) | (with_reducible refine below_drewN ?_ _) | (with_reducible refine Below.setCell ?_ ?_ _) | (with_reducible refine below_setRow' ?_ ?_ _) | go_size)) hb1; have hL0 : w.heap.size < w1.heap.size := (by have hS0 := hb1.size; (try simp at hS0); omega); have hL1 : w.heap.size + 1 < w1.heap.size := (by have hS0 := hb1.size; (try simp at hS0); omega); have hLe : w.heap.size ≤ w1.heap.size := hB1.size; clear hb1))
  refine bodyPost_ret (res29 Tryd.results41 _ _ (w.heap.size + 1) _ rfl ?_ rfl) rfl ⟨rfl, (by repeat' (first | (with_reducible exact Below.refl _ _) | (with_reducible assumption) | (with_reducible refine Below.alloc ?_ ?_ _) | (with_reducible refine Below.drew ?_) | (with_reducible refine below_drewN ?_ _) | (with_reducible refine Below.setCell ?_ ?_ _) | (with_reducible refine below_setRow' ?_ ?_ _) | go_size))⟩
  go_simp
set_option maxHeartbeats 4000000 in
set_option maxRecDepth 100000 in
theorem iNext_4z (b : Nat → Int) (hb : Bt b) (z : ByteArray) (hv : be4f b 0 = 4294967295) {b4 o4 : Nat} (w : World) (hg : G4 b4 o4 w) :
    Calls Tryd.prog 41 #[.agg (adr 4 b z)] w fun e w' => e = .returned (.agg (adr 0 zb ⟨#[]⟩)) ∧ Below w.heap.size w w' := by
  have HG := Lib.hid hg
  have HB := Lib.hid hb
  have hL4 := be4f_lt hb 0
  have hH := be8f_lt hb 0
  have hL := be8f_lt hb 8
  have HV := Lib.hid hv
  have HL4 := Lib.hid hL4
  have HH := Lib.hid hH
  have HL := Lib.hid hL
  clear hg hb hL4 hH hL hv
  go_enter Tryd.func41, Tryd.ntmps41
  go_wp2_with (first
    | (go_at_call 78; (with_reducible refine (in_4 (b4 := b4) (o4 := o4) _ HB.out _ _ ?_).mono ?_); (exact HG.out.below (by repeat' (first | (with_reducible exact Below.refl _ _) | (with_reducible assumption) | (with_reducible refine Below.alloc ?_ ?_ _) | (with_reducible refine Below.drew ?_) | (with_reducible refine below_drewN ?_ _) | (with_reducible refine Below.setCell ?_ ?_ _) | (with_reducible refine below_setRow' ?_ ?_ _) | go_size)) (Nat.le_refl _)); rintro e w1 ⟨rfl, hb1⟩; have hk1 := blk?_below hb1; (try simp only [size_drew', size_drewN'] at hk1); have hB1 := below_via (w := w) (by repeat' (first | (with_reducible exact Below.refl _ _) | (with_reducible assumption) | (with_reducible refine Below.alloc ?_ ?_ _) | (with_reducible refine Below.drew ?_) | (with_reducible refine below_drewN ?_ _) | (with_reducible refine Below.setCell ?_ ?_ _) | (with_reducible refine below_setRow' ?_ ?_ _) | go_size)) hb1; have hL0 : w.heap.size < w1.heap.size := (by have hS0 := hb1.size; (try simp at hS0); omega); have hL1 : w.heap.size + 1 < w1.heap.size := (by have hS0 := hb1.size; (try simp at hS0); omega); have hLe : w.heap.size ≤ w1.heap.size := hB1.size; clear hb1)
    | (go_at_call 84; (with_reducible refine (next_4z (b4 := b4) (o4 := o4) _ (by have := HV.out; have := HL4.out; have := HH.out; have := HL.out; omega) (by have := HV.out; have := HL4.out; have := HH.out; have := HL.out; omega) (by have := HV.out; have := HL4.out; have := HH.out; have := HL.out; omega) _ ?_).mono ?_); (exact HG.out.below (by repeat' (first | (with_reducible exact Below.refl _ _) | (with_reducible assumption) | (with_reducible refine Below.alloc ?_ ?_ _) | (with_reducible refine Below.drew ?_) | (with_reducible refine below_drewN ?_ _) | (with_reducible refine Below.setCell ?_ ?_ _) | (with_reducible refine below_setRow' ?_ ?_ _) | go_size)) (Nat.le_refl _)); rintro e w1 ⟨rfl, hb1⟩; have hk1 := blk?_below hb1; (try simp only [size_drew', size_drewN'] at hk1); have hB1 := below_via (w := w) (by repeat' (first | (with_reducible exact Below.refl _ _) | (with_reducible assumption) | (with_reducible refine Below.alloc ?_ ?_ _) | (with_reducible refine Below.drew ?_) | (with_reducible refine below_drewN ?_ _) | (with_reducible refine Below.setCell ?_ ?_ _) | (with_reducible refine below_setRow' ?_ ?_ _) | go_size)) hb1; have hL0 : w.heap.size < w1.heap.size := (by have hS0 := hb1.size; (try simp at hS0); omega); have hL1 : w.heap.size + 1 < w1.heap.size := (by have hS0 := hb1.size; (try simp at hS0); omega); have hLe : w.heap.size ≤ w1.heap.size := hB1.size; clear hb1)
    | (go_at_call 69; (with_reducible refine (out_0 (b4 := b4) (o4 := o4) _ _ _ ?_).mono ?_); (exact HG.out.below (by repeat' (first | (with_reducible exact Below.refl _ _) | (with_reducible assumption) | (with_reducible refine Below.alloc ?_ ?_ _) | (with_reducible refine Below.drew ?_) | (with_reducible refine below_drewN ?_ _) | (with_reducible refine Below.setCell ?_ ?_ _) | (with_reducible refine below_setRow' ?_ ?_ _) | go_size)) (Nat.le_refl _)); rintro e w1 ⟨rfl, hb1⟩; have hk1 := blk?_below hb1; (try simp only [size_drew', size_drewN'] at hk1); have hB1 := below_via (w := w) (by repeat' (first | (with_reducible exact Below.refl _ _) | (with_reducible assumption) | (with_reducible refine Below.alloc ?_ ?_ _) | (with_reducible refine Below.drew ?_) | (with_reducible refine below_drewN ?_ _) | (with_reducible refine Below.setCell ?_ ?_ _) | (with_reducible refine below_setRow' ?_ ?_ _) | go_size)) hb1; have hL0 : w.heap.size < w1.heap.size := (by have hS0 := hb1.size; (try simp at hS0); omega); have hL1 : w.heap.size + 1 < w1.heap.size := (by have hS0 := hb1.size; (try simp at hS0); omega); have hLe : w.heap.size ≤ w1.heap.size := hB1.size; clear hb1))
  refine bodyPost_ret (res29 Tryd.results41 _ _ (w.heap.size + 1) _ rfl ?_ rfl) rfl ⟨rfl, (by repeat' (first | (with_reducible exact Below.refl _ _) | (with_reducible assumption) | (with_reducible refine Below.alloc ?_ ?_ _) | (with_reducible refine Below.drew ?_) | (with_reducible refine below_drewN ?_ _) | (with_reducible refine Below.setCell ?_ ?_ _) | (with_reducible refine below_setRow' ?_ ?_ _) | go_size))⟩
  go_simp
set_option maxHeartbeats 4000000 in
set_option maxRecDepth 100000 in
theorem iPrev_4n (b : Nat → Int) (hb : Bt b) (z : ByteArray) (hv : 1 ≤ be4f b 0) {b4 o4 : Nat} (w : World) (hg : G4 b4 o4 w) :
    Calls Tryd.prog 39 #[.agg (adr 4 b z)] w fun e w' => e = .returned (.agg (adr 4 (b4of (281470681743360 + be4f b 0 - 1)) ⟨#[]⟩)) ∧ Below w.heap.size w w' := by
  have HG := Lib.hid hg
  have HB := Lib.hid hb
  have hL4 := be4f_lt hb 0
  have hH := be8f_lt hb 0
  have hL := be8f_lt hb 8
  have HV := Lib.hid hv
  have HL4 := Lib.hid hL4
  have HH := Lib.hid hH
  have HL := Lib.hid hL
  clear hg hb hL4 hH hL hv
  go_enter Tryd.func39, Tryd.ntmps39
  go_wp2_with (first
    | (go_at_call 78; (with_reducible refine (in_4 (b4 := b4) (o4 := o4) _ HB.out _ _ ?_).mono ?_); (exact HG.out.below (by repeat' (first | (with_reducible exact Below.refl _ _) | (with_reducible assumption) | (with_reducible refine Below.alloc ?_ ?_ _) | (with_reducible refine Below.drew ?_) | (with_reducible refine below_drewN ?_ _) | (with_reducible refine Below.setCell ?_ ?_ _) | (with_reducible refine below_setRow' ?_ ?_ _) | go_size)) (Nat.le_refl _)); rintro e w1 ⟨rfl, hb1⟩; have hk1 := blk?_below hb1; (try simp only [size_drew', size_drewN'] at hk1); have hB1 := below_via (w := w) (by repeat' (first | (with_reducible exact Below.refl _ _) | (with_reducible assumption) | (with_reducible refine Below.alloc ?_ ?_ _) | (with_reducible refine Below.drew ?_) | (with_reducible refine below_drewN ?_ _) | (with_reducible refine Below.setCell ?_ ?_ _) | (with_reducible refine below_setRow' ?_ ?_ _) | go_size)) hb1; have hL0 : w.heap.size < w1.heap.size := (by have hS0 := hb1.size; (try simp at hS0); omega); have hL1 : w.heap.size + 1 < w1.heap.size := (by have hS0 := hb1.size; (try simp at hS0); omega); have hLe : w.heap.size ≤ w1.heap.size := hB1.size; clear hb1)
    | (go_at_call 82; (with_reducible refine (prev_4n (b4 := b4) (o4 := o4) _ (by have := HV.out; have := HL4.out; have := HH.out; have := HL.out; omega) (by have := HV.out; have := HL4.out; have := HH.out; have := HL.out; omega) (by have := HV.out; have := HL4.out; have := HH.out; have := HL.out; omega) _ ?_).mono ?_); (exact HG.out.below (by repeat' (first | (with_reducible exact Below.refl _ _) | (with_reducible assumption) | (with_reducible refine Below.alloc ?_ ?_ _) | (with_reducible refine Below.drew ?_) | (with_reducible refine below_drewN ?_ _) | (with_reducible refine Below.setCell ?_ ?_ _) | (with_reducible refine below_setRow' ?_ ?_ _) | go_size)) (Nat.le_refl _)); rintro e w1 ⟨rfl, hb1⟩; have hk1 := blk?_below hb1; (try simp only [size_drew', size_drewN'] at hk1); have hB1 := below_via (w := w) (by repeat' (first | (with_reducible exact Below.refl _ _) | (with_reducible assumption) | (with_reducible refine Below.alloc ?_ ?_ _) | (with_reducible refine Below.drew ?_) | (with_reducible refine below_drewN ?_ _) | (with_reducible refine Below.setCell ?_ ?_ _) | (with_reducible refine below_setRow' ?_ ?_ _) | go_size)) hb1; have hL0 : w.heap.size < w1.heap.size := (by have hS0 := hb1.size; (try simp at hS0); omega); have hL1 : w.heap.size + 1 < w1.heap.size := (by have hS0 := hb1.size; (try simp at hS0); omega); have hLe : w.heap.size ≤ w1.heap.size := hB1.size; clear hb1)
    | (go_at_call 69; (with_reducible refine (out_4 (b4 := b4) (o4 := o4) _ _ (by have := HV.out; have := HL4.out; have := HH.out; have := HL.out; omega) _ ?_).mono ?_); (exact HG.out.below (by repeat' (first | (with_reducible exact Below.refl _ _) | (with_reducible assumption) | (with_reducible refine Below.alloc ?_ ?_ _) | (with_reducible refine Below.drew ?_) | (with_reducible refine below_drewN ?_ _) | (with_reducible refine Below.setCell ?_ ?_ _) | (with_reducible refine below_setRow' ?_ ?_ _) | go_size)) (Nat.le_refl _)); rintro e w1 ⟨rfl, hb1⟩; have hk1 := blk?_below hb1; (try simp only [size_drew', size_drewN'] at hk1); have hB1 := below_via (w := w) (by repeat' (first | (with_reducible exact Below.refl _ _) | (with_reducible assumption) | (with_reducible refine Below.alloc ?_ ?_ _) | (with_reducible refine Below.drew ?_) | (with_reducible refine below_drewN ?_ _) | (with_reducible refine Below.setCell ?_ ?_ _) | (with_reducible refine below_setRow' ?_ ?_ _) | go_size)) hb1; have hL0 : w.heap.size < w1.heap.size := (by have hS0 := hb1.size; (try simp at hS0); omega); have hL1 : w.heap.size + 1 < w1.heap.size := (by have hS0 := hb1.size; (try simp at hS0); omega); have hLe : w.heap.size ≤ w1.heap.size := hB1.size; clear hb1))
  refine bodyPost_ret (res29 Tryd.results39 _ _ (w.heap.size + 1) _ rfl ?_ rfl) rfl ⟨rfl, (by repeat' (first | (with_reducible exact Below.refl _ _) | (with_reducible assumption) | (with_reducible refine Below.alloc ?_ ?_ _) | (with_reducible refine Below.drew ?_) | (with_reducible refine below_drewN ?_ _) | (with_reducible refine Below.setCell ?_ ?_ _) | (with_reducible refine below_setRow' ?_ ?_ _) | go_size))⟩
  go_simp
set_option maxHeartbeats 4000000 in
set_option maxRecDepth 100000 in
theorem iPrev_4z (b : Nat → Int) (hb : Bt b) (z : ByteArray) (hv : be4f b 0 = 0) {b4 o4 : Nat} (w : World) (hg : G4 b4 o4 w) :
    Calls Tryd.prog 39 #[.agg (adr 4 b z)] w fun e w' => e = .returned (.agg (adr 0 zb ⟨#[]⟩)) ∧ Below w.heap.size w w' := by
  have HG := Lib.hid hg
  have HB := Lib.hid hb
  have hL4 := be4f_lt hb 0
  have hH := be8f_lt hb 0
  have hL := be8f_lt hb 8
  have HV := Lib.hid hv
  have HL4 := Lib.hid hL4
  have HH := Lib.hid hH
  have HL := Lib.hid hL
  clear hg hb hL4 hH hL hv
  go_enter Tryd.func39, Tryd.ntmps39
  go_wp2_with (first
    | (go_at_call 78; (with_reducible refine (in_4 (b4 := b4) (o4 := o4) _ HB.out _ _ ?_).mono ?_); (exact HG.out.below (by repeat' (first | (with_reducible exact Below.refl _ _) | (with_reducible assumption) | (with_reducible refine Below.alloc ?_ ?_ _) | (with_reducible refine Below.drew ?_) | (with_reducible refine below_drewN ?_ _) | (with_reducible refine Below.setCell ?_ ?_ _) | (with_reducible refine below_setRow' ?_ ?_ _) | go_size)) (Nat.le_refl _)); rintro e w1 ⟨rfl, hb1⟩; have hk1 := blk?_below hb1; (try simp only [size_drew', size_drewN'] at hk1); have hB1 := below_via (w := w) (by repeat' (first | (with_reducible exact Below.refl _ _) | (with_reducible assumption) | (with_reducible refine Below.alloc ?_ ?_ _) | (with_reducible refine Below.drew ?_) | (with_reducible refine below_drewN ?_ _) | (with_reducible refine Below.setCell ?_ ?_ _) | (with_reducible refine below_setRow' ?_ ?_ _) | go_size)) hb1; have hL0 : w.heap.size < w1.heap.size := (by have hS0 := hb1.size; (try simp at hS0); omega); have hL1 : w.heap.size + 1 < w1.heap.size := (by have hS0 := hb1.size; (try simp at hS0); omega); have hLe : w.heap.size ≤ w1.heap.size := hB1.size; clear hb1)
    | (go_at_call 82; (with_reducible refine (prev_4z (b4 := b4) (o4 := o4) _ (by have := HV.out; have := HL4.out; have := HH.out; have := HL.out; omega) (by have := HV.out; have := HL4.out; have := HH.out; have := HL.out; omega) (by have := HV.out; have := HL4.out; have := HH.out; have := HL.out; omega) _ ?_).mono ?_); (exact HG.out.below (by repeat' (first | (with_reducible exact Below.refl _ _) | (with_reducible assumption) | (with_reducible refine Below.alloc ?_ ?_ _) | (with_reducible refine Below.drew ?_) | (with_reducible refine below_drewN ?_ _) | (with_reducible refine Below.setCell ?_ ?_ _) | (with_reducible refine below_setRow' ?_ ?_ _) | go_size)) (Nat.le_refl _)); rintro e w1 ⟨rfl, hb1⟩; have hk1 := blk?_below hb1; (try simp only [size_drew', size_drewN'] at hk1); have hB1 := below_via (w := w) (by repeat' (first | (with_reducible exact Below.refl _ _) | (with_reducible assumption) | (with_reducible refine Below.alloc ?_ ?_ _) | (with_reducible refine Below.drew ?_) | (with_reducible refine below_drewN ?_ _) | (with_reducible refine Below.setCell ?_ ?_ _) | (with_reducible refine below_setRow' ?_ ?_ _) | go_size)) hb1; have hL0 : w.heap.size < w1.heap.size := (by have hS0 := hb1.size; (try simp at hS0); omega); have hL1 : w.heap.size + 1 < w1.heap.size := (by have hS0 := hb1.size; (try simp at hS0); omega); have hLe : w.heap.size ≤ w1.heap.size := hB1.size; clear hb1)
    | (go_at_call 69; (with_reducible refine (out_0 (b4 := b4) (o4 := o4) _ _ _ ?_).mono ?_); (exact HG.out.below (by repeat' (first | (with_reducible exact Below.refl _ _) | (with_reducible assumption) | (with_reducible refine Below.alloc ?_ ?_ _) | (with_reducible refine Below.drew ?_) | (with_reducible refine below_drewN ?_ _) | (with_reducible refine Below.setCell ?_ ?_ _) | (with_reducible refine below_setRow' ?_ ?_ _) | go_size)) (Nat.le_refl _)); rintro e w1 ⟨rfl, hb1⟩; have hk1 := blk?_below hb1; (try simp only [size_drew', size_drewN'] at hk1); have hB1 := below_via (w := w) (by repeat' (first | (with_reducible exact Below.refl _ _) | (with_reducible assumption) | (with_reducible refine Below.alloc ?_ ?_ _) | (with_reducible refine Below.drew ?_) | (with_reducible refine below_drewN ?_ _) | (with_reducible refine Below.setCell ?_ ?_ _) | (with_reducible refine below_setRow' ?_ ?_ _) | go_size)) hb1; have hL0 : w.heap.size < w1.heap.size := (by have hS0 := hb1.size; (try simp at hS0); omega); have hL1 : w.heap.size + 1 < w1.heap.size := (by have hS0 := hb1.size; (try simp at hS0); omega); have hLe : w.heap.size ≤ w1.heap.size := hB1.size; clear hb1))
  refine bodyPost_ret (res29 Tryd.results39 _ _ (w.heap.size + 1) _ rfl ?_ rfl) rfl ⟨rfl, (by repeat' (first | (with_reducible exact Below.refl _ _) | (with_reducible assumption) | (with_reducible refine Below.alloc ?_ ?_ _) | (with_reducible refine Below.drew ?_) | (with_reducible refine below_drewN ?_ _) | (with_reducible refine Below.setCell ?_ ?_ _) | (with_reducible refine below_setRow' ?_ ?_ _) | go_size))⟩
  go_simp
set_option maxHeartbeats 4000000 in
set_option maxRecDepth 100000 in
theorem iNext_6n (b : Nat → Int) (hb : Bt b) (hv : be8f b 8 + 1 < 18446744073709551616) {b4 o4 b6 o6 : Nat} (w : World) (hg : Gl b4 o4 b6 o6 w) :
    Calls Tryd.prog 41 #[.agg (adr 16 b ⟨#[]⟩)] w fun e w' => e = .returned (.agg (adr 16 (b16of (be8f b 0) (be8f b 8 + 1)) ⟨#[]⟩)) ∧ Below w.heap.size w w' := by
  have HG := Lib.hid hg
  have HB := Lib.hid hb
  have hL4 := be4f_lt hb 0
  have hH := be8f_lt hb 0
  have hL := be8f_lt hb 8
  have HV := Lib.hid hv
  have HL4 := Lib.hid hL4
  have HH := Lib.hid hH
  have HL := Lib.hid hL
  clear hg hb hL4 hH hL hv
  go_enter Tryd.func41, Tryd.ntmps41
  go_wp2_with (first
    | (go_at_call 78; (with_reducible refine (in_16 (b4 := b4) (o4 := o4) (b6 := b6) (o6 := o6) _ HB.out _ ?_).mono ?_); (exact HG.out.below (by repeat' (first | (with_reducible exact Below.refl _ _) | (with_reducible assumption) | (with_reducible refine Below.alloc ?_ ?_ _) | (with_reducible refine Below.drew ?_) | (with_reducible refine below_drewN ?_ _) | (with_reducible refine Below.setCell ?_ ?_ _) | (with_reducible refine below_setRow' ?_ ?_ _) | go_size)) (Nat.le_refl _)); rintro e w1 ⟨rfl, hb1⟩; have hk1 := blk?_below hb1; (try simp only [size_drew', size_drewN'] at hk1); have hB1 := below_via (w := w) (by repeat' (first | (with_reducible exact Below.refl _ _) | (with_reducible assumption) | (with_reducible refine Below.alloc ?_ ?_ _) | (with_reducible refine Below.drew ?_) | (with_reducible refine below_drewN ?_ _) | (with_reducible refine Below.setCell ?_ ?_ _) | (with_reducible refine below_setRow' ?_ ?_ _) | go_size)) hb1; have hL0 : w.heap.size < w1.heap.size := (by have hS0 := hb1.size; (try simp at hS0); omega); have hL1 : w.heap.size + 1 < w1.heap.size := (by have hS0 := hb1.size; (try simp at hS0); omega); have hLe : w.heap.size ≤ w1.heap.size := hB1.size; clear hb1)
    | (go_at_call 84; (with_reducible refine (next_6n (b4 := b4) (o4 := o4) (b6 := b6) (o6 := o6) _ _ (by have := HV.out; have := HL4.out; have := HH.out; have := HL.out; omega) (by have := HV.out; have := HL4.out; have := HH.out; have := HL.out; omega) (by have := HV.out; have := HL4.out; have := HH.out; have := HL.out; omega) (by have := HV.out; have := HL4.out; have := HH.out; have := HL.out; omega) _ ?_).mono ?_); (exact HG.out.below (by repeat' (first | (with_reducible exact Below.refl _ _) | (with_reducible assumption) | (with_reducible refine Below.alloc ?_ ?_ _) | (with_reducible refine Below.drew ?_) | (with_reducible refine below_drewN ?_ _) | (with_reducible refine Below.setCell ?_ ?_ _) | (with_reducible refine below_setRow' ?_ ?_ _) | go_size)) (Nat.le_refl _)); rintro e w1 ⟨rfl, hb1⟩; have hk1 := blk?_below hb1; (try simp only [size_drew', size_drewN'] at hk1); have hB1 := below_via (w := w) (by repeat' (first | (with_reducible exact Below.refl _ _) | (with_reducible assumption) | (with_reducible refine Below.alloc ?_ ?_ _) | (with_reducible refine Below.drew ?_) | (with_reducible refine below_drewN ?_ _) | (with_reducible refine Below.setCell ?_ ?_ _) | (with_reducible refine below_setRow' ?_ ?_ _) | go_size)) hb1; have hL0 : w.heap.size < w1.heap.size := (by have hS0 := hb1.size; (try simp at hS0); omega); have hL1 : w.heap.size + 1 < w1.heap.size := (by have hS0 := hb1.size; (try simp at hS0); omega); have hLe : w.heap.size ≤ w1.heap.size := hB1.size; clear hb1)
    | (go_at_call 69; (with_reducible refine (out_6 (b4 := b4) (o4 := o4) (b6 := b6) (o6 := o6) _ _ (by have := HV.out; have := HL4.out; have := HH.out; have := HL.out; omega) (by have := HV.out; have := HL4.out; have := HH.out; have := HL.out; omega) _ ?_).mono ?_); (exact HG.out.below (by repeat' (first | (with_reducible exact Below.refl _ _) | (with_reducible assumption) | (with_reducible refine Below.alloc ?_ ?_ _) | (with_reducible refine Below.drew ?_) | (with_reducible refine below_drewN ?_ _) | (with_reducible refine Below.setCell ?_ ?_ _) | (with_reducible refine below_setRow' ?_ ?_ _) | go_size)) (Nat.le_refl _)); rintro e w1 ⟨rfl, hb1⟩; have hk1 := blk?_below hb1; (try simp only [size_drew', size_drewN'] at hk1); have hB1 := below_via (w := w) (by repeat' (first | (with_reducible exact Below.refl _ _) | (with_reducible assumption) | (with_reducible refine Below.alloc ?_ ?_ _) | (with_reducible refine Below.drew ?_) | (with_reducible refine below_drewN ?_ _) | (with_reducible refine Below.setCell ?_ ?_ _) | (with_reducible refine below_setRow' ?_ ?_ _) | go_size)) hb1; have hL0 : w.heap.size < w1.heap.size := (by have hS0 := hb1.size; (try simp at hS0); omega); have hL1 : w.heap.size + 1 < w1.heap.size := (by have hS0 := hb1.size; (try simp at hS0); omega); have hLe : w.heap.size ≤ w1.heap.size := hB1.size; clear hb1))
  refine bodyPost_ret (res29 Tryd.results41 _ _ (w.heap.size + 1) _ rfl ?_ rfl) rfl ⟨rfl, (by repeat' (first | (with_reducible exact Below.refl _ _) | (with_reducible assumption) | (with_reducible refine Below.alloc ?_ ?_ _) | (with_reducible refine Below.drew ?_) | (with_reducible refine below_drewN ?_ _) | (with_reducible refine Below.setCell ?_ ?_ _) | (with_reducible refine below_setRow' ?_ ?_ _) | go_size))⟩
  go_simp
set_option maxHeartbeats 4000000 in
set_option maxRecDepth 100000 in
theorem iNext_6c (b : Nat → Int) (hb : Bt b) (hv : be8f b 8 = 18446744073709551615 ∧ be8f b 0 + 1 < 18446744073709551616) {b4 o4 b6 o6 : Nat} (w : World) (hg : Gl b4 o4 b6 o6 w) :
    Calls Tryd.prog 41 #[.agg (adr 16 b ⟨#[]⟩)] w fun e w' => e = .returned (.agg (adr 16 (b16of (be8f b 0 + 1) 0) ⟨#[]⟩)) ∧ Below w.heap.size w w' := by
  have HG := Lib.hid hg
  have HB := Lib.hid hb
  have hL4 := be4f_lt hb 0
  have hH := be8f_lt hb 0
  have hL := be8f_lt hb 8
  have HV := Lib.hid hv
  have HL4 := Lib.hid hL4
  have HH := Lib.hid hH
  have HL := Lib.hid hL
  clear hg hb hL4 hH hL hv
  go_enter Tryd.func41, Tryd.ntmps41
  go_wp2_with (first
    | (go_at_call 78; (with_reducible refine (in_16 (b4 := b4) (o4 := o4) (b6 := b6) (o6 := o6) _ HB.out _ ?_).mono ?_); (exact HG.out.below (by repeat' (first | (with_reducible exact Below.refl _ _) | (with_reducible assumption) | (with_reducible refine Below.alloc ?_ ?_ _) | (with_reducible refine Below.drew ?_) | (with_reducible refine below_drewN ?_ _) | (with_reducible refine Below.setCell ?_ ?_ _) | (with_reducible refine below_setRow' ?_ ?_ _) | go_size)) (Nat.le_refl _)); rintro e w1 ⟨rfl, hb1⟩; have hk1 := blk?_below hb1; (try simp only [size_drew', size_drewN'] at hk1); have hB1 := below_via (w := w) (by repeat' (first | (with_reducible exact Below.refl _ _) | (with_reducible assumption) | (with_reducible refine Below.alloc ?_ ?_ _) | (with_reducible refine Below.drew ?_) | (with_reducible refine below_drewN ?_ _) | (with_reducible refine Below.setCell ?_ ?_ _) | (with_reducible refine below_setRow' ?_ ?_ _) | go_size)) hb1; have hL0 : w.heap.size < w1.heap.size := (by have hS0 := hb1.size; (try simp at hS0); omega); have hL1 : w.heap.size + 1 < w1.heap.size := (by have hS0 := hb1.size; (try simp at hS0); omega); have hLe : w.heap.size ≤ w1.heap.size := hB1.size; clear hb1)
    | (go_at_call 84; (with_reducible refine (next_6c' (b4 := b4) (o4 := o4) (b6 := b6) (o6 := o6) _ _ (by have := HV.out; have := HL4.out; have := HH.out; have := HL.out; omega) (by have := HV.out; have := HL4.out; have := HH.out; have := HL.out; omega) (by have := HV.out; have := HL4.out; have := HH.out; have := HL.out; omega) _ ?_).mono ?_); (exact HG.out.below (by repeat' (first | (with_reducible exact Below.refl _ _) | (with_reducible assumption) | (with_reducible refine Below.alloc ?_ ?_ _) | (with_reducible refine Below.drew ?_) | (with_reducible refine below_drewN ?_ _) | (with_reducible refine Below.setCell ?_ ?_ _) | (with_reducible refine below_setRow' ?_ ?_ _) | go_size)) (Nat.le_refl _)); rintro e w1 ⟨rfl, hb1⟩; have hk1 := blk?_below hb1; (try simp only [size_drew', size_drewN'] at hk1); have hB1 := below_via (w := w) (by repeat' (first | (with_reducible exact Below.refl _ _) | (with_reducible assumption) | (with_reducible refine Below.alloc ?_ ?_ _) | (with_reducible refine Below.drew ?_) | (with_reducible refine below_drewN ?_ _) | (with_reducible refine Below.setCell ?_ ?_ _) | (with_reducible refine below_setRow' ?_ ?_ _) | go_size)) hb1; have hL0 : w.heap.size < w1.heap.size := (by have hS0 := hb1.size; (try simp at hS0); omega); have hL1 : w.heap.size + 1 < w1.heap.size := (by have hS0 := hb1.size; (try simp at hS0); omega); have hLe : w.heap.size ≤ w1.heap.size := hB1.size; clear hb1)
    | (go_at_call 69; (with_reducible refine (out_6 (b4 := b4) (o4 := o4) (b6 := b6) (o6 := o6) _ _ (by have := HV.out; have := HL4.out; have := HH.out; have := HL.out; omega) (by have := HV.out; have := HL4.out; have := HH.out; have := HL.out; omega) _ ?_).mono ?_); (exact HG.out.below (by repeat' (first | (with_reducible exact Below.refl _ _) | (with_reducible assumption) | (with_reducible refine Below.alloc ?_ ?_ _) | (with_reducible refine Below.drew ?_) | (with_reducible refine below_drewN ?_ _) | (with_reducible refine Below.setCell ?_ ?_ _) | (with_reducible refine below_setRow' ?_ ?_ _) | go_size)) (Nat.le_refl _)); rintro e w1 ⟨rfl, hb1⟩; have hk1 := blk?_below hb1; (try simp only [size_drew', size_drewN'] at hk1); have hB1 := below_via (w := w) (by repeat' (first | (with_reducible exact Below.refl _ _) | (with_reducible assumption) | (with_reducible refine Below.alloc ?_ ?_ _) | (with_reducible refine Below.drew ?_) | (with_reducible refine below_drewN ?_ _) | (with_reducible refine Below.setCell ?_ ?_ _) | (with_reducible refine below_setRow' ?_ ?_ _) | go_size)) hb1; have hL0 : w.heap.size < w1.heap.size := (by have hS0 := hb1.size; (try simp at hS0); omega); have hL1 : w.heap.size + 1 < w1.heap.size := (by have hS0 := hb1.size; (try simp at hS0); omega); have hLe : w.heap.size ≤ w1.heap.size := hB1.size; clear hb1))
  refine bodyPost_ret (res29 Tryd.results41 _ _ (w.heap.size + 1) _ rfl ?_ rfl) rfl ⟨rfl, (by repeat' (first | (with_reducible exact Below.refl _ _) | (with_reducible assumption) | (with_reducible refine Below.alloc ?_ ?_ _) | (with_reducible refine Below.drew ?_) | (with_reducible refine below_drewN ?_ _) | (with_reducible refine Below.setCell ?_ ?_ _) | (with_reducible refine below_setRow' ?_ ?_ _) | go_size))⟩
  go_simp
set_option maxHeartbeats 4000000 in
set_option maxRecDepth 100000 in
theorem iNext_6z (b : Nat → Int) (hb : Bt b) (hv : be8f b 8 = 18446744073709551615 ∧ be8f b 0 = 18446744073709551615) {b4 o4 b6 o6 : Nat} (w : World) (hg : Gl b4 o4 b6 o6 w) :
    Calls Tryd.prog 41 #[.agg (adr 16 b ⟨#[]⟩)] w fun e w' => e = .returned (.agg (adr 0 zb ⟨#[]⟩)) ∧ Below w.heap.size w w' := by
  have HG := Lib.hid hg
  have HB := Lib.hid hb
  have hL4 := be4f_lt hb 0
  have hH := be8f_lt hb 0
  have hL := be8f_lt hb 8
  have HV := Lib.hid hv
  have HL4 := Lib.hid hL4
  have HH := Lib.hid hH
  have HL := Lib.hid hL
  clear hg hb hL4 hH hL hv
  go_enter Tryd.func41, Tryd.ntmps41
  go_wp2_with (first
    | (go_at_call 78; (with_reducible refine (in_16 (b4 := b4) (o4 := o4) (b6 := b6) (o6 := o6) _ HB.out _ ?_).mono ?_); (exact HG.out.below (by repeat' (first | (with_reducible exact Below.refl _ _) | (with_reducible assumption) | (with_reducible refine Below.alloc ?_ ?_ _) | (with_reducible refine Below.drew ?_) | (with_reducible refine below_drewN ?_ _) | (with_reducible refine Below.setCell ?_ ?_ _) | (with_reducible refine below_setRow' ?_ ?_ _) | go_size)) (Nat.le_refl _)); rintro e w1 ⟨rfl, hb1⟩; have hk1 := blk?_below hb1; (try simp only [size_drew', size_drewN'] at hk1); have hB1 := below_via (w := w) (by repeat' (first | (with_reducible exact Below.refl _ _) | (with_reducible assumption) | (with_reducible refine Below.alloc ?_ ?_ _) | (with_reducible refine Below.drew ?_) | (with_reducible refine below_drewN ?_ _) | (with_reducible refine Below.setCell ?_ ?_ _) | (with_reducible refine below_setRow' ?_ ?_ _) | go_size)) hb1; have hL0 : w.heap.size < w1.heap.size := (by have hS0 := hb1.size; (try simp at hS0); omega); have hL1 : w.heap.size + 1 < w1.heap.size := (by have hS0 := hb1.size; (try simp at hS0); omega); have hLe : w.heap.size ≤ w1.heap.size := hB1.size; clear hb1)
    | (go_at_call 84; (with_reducible refine (next_6z' (b4 := b4) (o4 := o4) (b6 := b6) (o6 := o6) _ _ (by have := HV.out; have := HL4.out; have := HH.out; have := HL.out; omega) (by have := HV.out; have := HL4.out; have := HH.out; have := HL.out; omega) _ ?_).mono ?_); (exact HG.out.below (by repeat' (first | (with_reducible exact Below.refl _ _) | (with_reducible assumption) | (with_reducible refine Below.alloc ?_ ?_ _) | (with_reducible refine Below.drew ?_) | (with_reducible refine below_drewN ?_ _) | (with_reducible refine Below.setCell ?_ ?_ _) | (with_reducible refine below_setRow' ?_ ?_ _) | go_size)) (Nat.le_refl _)); rintro e w1 ⟨rfl, hb1⟩; have hk1 := blk?_below hb1; (try simp only [size_drew', size_drewN'] at hk1); have hB1 := below_via (w := w) (by repeat' (first | (with_reducible exact Below.refl _ _) | (with_reducible assumption) | (with_reducible refine Below.alloc ?_ ?_ _) | (with_reducible refine Below.drew ?_) | (with_reducible refine below_drewN ?_ _) | (with_reducible refine Below.setCell ?_ ?_ _) | (with_reducible refine below_setRow' ?_ ?_ _) | go_size)) hb1; have hL0 : w.heap.size < w1.heap.size := (by have hS0 := hb1.size; (try simp at hS0); omega); have hL1 : w.heap.size + 1 < w1.heap.size := (by have hS0 := hb1.size; (try simp at hS0); omega); have hLe : w.heap.size ≤ w1.heap.size := hB1.size; clear hb1)
    | (go_at_call 69; (with_reducible refine (out_0 (b4 := b4) (o4 := o4) _ _ _ ?_).mono ?_); (exact HG.out.g4.below (by repeat' (first | (with_reducible exact Below.refl _ _) | (with_reducible assumption) | (with_reducible refine Below.alloc ?_ ?_ _) | (with_reducible refine Below.drew ?_) | (with_reducible refine below_drewN ?_ _) | (with_reducible refine Below.setCell ?_ ?_ _) | (with_reducible refine below_setRow' ?_ ?_ _) | go_size)) (Nat.le_refl _)); rintro e w1 ⟨rfl, hb1⟩; have hk1 := blk?_below hb1; (try simp only [size_drew', size_drewN'] at hk1); have hB1 := below_via (w := w) (by repeat' (first | (with_reducible exact Below.refl _ _) | (with_reducible assumption) | (with_reducible refine Below.alloc ?_ ?_ _) | (with_reducible refine Below.drew ?_) | (with_reducible refine below_drewN ?_ _) | (with_reducible refine Below.setCell ?_ ?_ _) | (with_reducible refine below_setRow' ?_ ?_ _) | go_size)) hb1; have hL0 : w.heap.size < w1.heap.size := (by have hS0 := hb1.size; (try simp at hS0); omega); have hL1 : w.heap.size + 1 < w1.heap.size := (by have hS0 := hb1.size; (try simp at hS0); omega); have hLe : w.heap.size ≤ w1.heap.size := hB1.size; clear hb1))
  refine bodyPost_ret (res29 Tryd.results41 _ _ (w.heap.size + 1) _ rfl ?_ rfl) rfl ⟨rfl, (by repeat' (first | (with_reducible exact Below.refl _ _) | (with_reducible assumption) | (with_reducible refine Below.alloc ?_ ?_ _) | (with_reducible refine Below.drew ?_) | (with_reducible refine below_drewN ?_ _) | (with_reducible refine Below.setCell ?_ ?_ _) | (with_reducible refine below_setRow' ?_ ?_ _) | go_size))⟩
  go_simp
set_option maxHeartbeats 4000000 in
set_option maxRecDepth 100000 in
theorem iPrev_6n (b : Nat → Int) (hb : Bt b) (hv : 1 ≤ be8f b 8) {b4 o4 b6 o6 : Nat} (w : World) (hg : Gl b4 o4 b6 o6 w) :
    Calls Tryd.prog 39 #[.agg (adr 16 b ⟨#[]⟩)] w fun e w' => e = .returned (.agg (adr 16 (b16of (be8f b 0) (be8f b 8 - 1)) ⟨#[]⟩)) ∧ Below w.heap.size w w' := by
  have HG := Lib.hid hg
  have HB := Lib.hid hb
  have hL4 := be4f_lt hb 0
  have hH := be8f_lt hb 0
  have hL := be8f_lt hb 8
  have HV := Lib.hid hv
  have HL4 := Lib.hid hL4
  have HH := Lib.hid hH
  have HL := Lib.hid hL
  clear hg hb hL4 hH hL hv
  go_enter Tryd.func39, Tryd.ntmps39
  go_wp2_with (first
    | (go_at_call 78; (with_reducible refine (in_16 (b4 := b4) (o4 := o4) (b6 := b6) (o6 := o6) _ HB.out _ ?_).mono ?_); (exact HG.out.below (by repeat' (first | (with_reducible exact Below.refl _ _) | (with_reducible assumption) | (with_reducible refine Below.alloc ?_ ?_ _) | (with_reducible refine Below.drew ?_) | (with_reducible refine below_drewN ?_ _) | (with_reducible refine Below.setCell ?_ ?_ _) | (with_reducible refine below_setRow' ?_ ?_ _) | go_size)) (Nat.le_refl _)); rintro e w1 ⟨rfl, hb1⟩; have hk1 := blk?_below hb1; (try simp only [size_drew', size_drewN'] at hk1); have hB1 := below_via (w := w) (by repeat' (first | (with_reducible exact Below.refl _ _) | (with_reducible assumption) | (with_reducible refine Below.alloc ?_ ?_ _) | (with_reducible refine Below.drew ?_) | (with_reducible refine below_drewN ?_ _) | (with_reducible refine Below.setCell ?_ ?_ _) | (with_reducible refine below_setRow' ?_ ?_ _) | go_size)) hb1; have hL0 : w.heap.size < w1.heap.size := (by have hS0 := hb1.size; (try simp at hS0); omega); have hL1 : w.heap.size + 1 < w1.heap.size := (by have hS0 := hb1.size; (try simp at hS0); omega); have hLe : w.heap.size ≤ w1.heap.size := hB1.size; clear hb1)
    | (go_at_call 82; (with_reducible refine (prev_6n (b4 := b4) (o4 := o4) (b6 := b6) (o6 := o6) _ _ (by have := HV.out; have := HL4.out; have := HH.out; have := HL.out; omega) (by have := HV.out; have := HL4.out; have := HH.out; have := HL.out; omega) (by have := HV.out; have := HL4.out; have := HH.out; have := HL.out; omega) (by have := HV.out; have := HL4.out; have := HH.out; have := HL.out; omega) _ ?_).mono ?_); (exact HG.out.below (by repeat' (first | (with_reducible exact Below.refl _ _) | (with_reducible assumption) | (with_reducible refine Below.alloc ?_ ?_ _) | (with_reducible refine Below.drew ?_) | (with_reducible refine below_drewN ?_ _) | (with_reducible refine Below.setCell ?_ ?_ _) | (with_reducible refine below_setRow' ?_ ?_ _) | go_size)) (Nat.le_refl _)); rintro e w1 ⟨rfl, hb1⟩; have hk1 := blk?_below hb1; (try simp only [size_drew', size_drewN'] at hk1); have hB1 := below_via (w := w) (by repeat' (first | (with_reducible exact Below.refl _ _) | (with_reducible assumption) | (with_reducible refine Below.alloc ?_ ?_ _) | (with_reducible refine Below.drew ?_) | (with_reducible refine below_drewN ?_ _) | (with_reducible refine Below.setCell ?_ ?_ _) | (with_reducible refine below_setRow' ?_ ?_ _) | go_size)) hb1; have hL0 : w.heap.size < w1.heap.size := (by have hS0 := hb1.size; (try simp at hS0); omega); have hL1 : w.heap.size + 1 < w1.heap.size := (by have hS0 := hb1.size; (try simp at hS0); omega); have hLe : w.heap.size ≤ w1.heap.size := hB1.size; clear hb1)
    | (go_at_call 69; (with_reducible refine (out_6 (b4 := b4) (o4 := o4) (b6 := b6) (o6 := o6) _ _ (by have := HV.out; have := HL4.out; have := HH.out; have := HL.out; omega) (by have := HV.out; have := HL4.out; have := HH.out; have := HL.out; omega) _ ?_).mono ?_); (exact HG.out.below (by repeat' (first | (with_reducible exact Below.refl _ _) | (with_reducible assumption) | (with_reducible refine Below.alloc ?_ ?_ _) | (with_reducible refine Below.drew ?_) | (with_reducible refine below_drewN ?_ _) | (with_reducible refine Below.setCell ?_ ?_ _) | (with_reducible refine below_setRow' ?_ ?_ _) | go_size)) (Nat.le_refl _)); rintro e w1 ⟨rfl, hb1⟩; have hk1 := blk?_below hb1; (try simp only [size_drew', size_drewN'] at hk1); have hB1 := below_via (w := w) (by repeat' (first | (with_reducible exact Below.refl _ _) | (with_reducible assumption) | (with_reducible refine Below.alloc ?_ ?_ _) | (with_reducible refine Below.drew ?_) | (with_reducible refine below_drewN ?_ _) | (with_reducible refine Below.setCell ?_ ?_ _) | (with_reducible refine below_setRow' ?_ ?_ _) | go_size)) hb1; have hL0 : w.heap.size < w1.heap.size := (by have hS0 := hb1.size; (try simp at hS0); omega); have hL1 : w.heap.size + 1 < w1.heap.size := (by have hS0 := hb1.size; (try simp at hS0); omega); have hLe : w.heap.size ≤ w1.heap.size := hB1.size; clear hb1))
  refine bodyPost_ret (res29 Tryd.results39 _ _ (w.heap.size + 1) _ rfl ?_ rfl) rfl ⟨rfl, (by repeat' (first | (with_reducible exact Below.refl _ _) | (with_reducible assumption) | (with_reducible refine Below.alloc ?_ ?_ _) | (with_reducible refine Below.drew ?_) | (with_reducible refine below_drewN ?_ _) | (with_reducible refine Below.setCell ?_ ?_ _) | (with_reducible refine below_setRow' ?_ ?_ _) | go_size))⟩
  go_simp
set_option maxHeartbeats 4000000 in
set_option maxRecDepth 100000 in
theorem iPrev_6b (b : Nat → Int) (hb : Bt b) (hv : be8f b 8 = 0 ∧ 1 ≤ be8f b 0) {b4 o4 b6 o6 : Nat} (w : World) (hg : Gl b4 o4 b6 o6 w) :
    Calls Tryd.prog 39 #[.agg (adr 16 b ⟨#[]⟩)] w fun e w' => e = .returned (.agg (adr 16 (b16of (be8f b 0 - 1) 18446744073709551615) ⟨#[]⟩)) ∧ Below w.heap.size w w' := by
  have HG := Lib.hid hg
  have HB := Lib.hid hb
  have hL4 := be4f_lt hb 0
  have hH := be8f_lt hb 0
  have hL := be8f_lt hb 8
  have HV := Lib.hid hv
  have HL4 := Lib.hid hL4
  have HH := Lib.hid hH
  have HL := Lib.hid hL
  clear hg hb hL4 hH hL hv
  go_enter Tryd.func39, Tryd.ntmps39
  go_wp2_with (first
    | (go_at_call 78; (with_reducible refine (in_16 (b4 := b4) (o4 := o4) (b6 := b6) (o6 := o6) _ HB.out _ ?_).mono ?_); (exact HG.out.below (by repeat' (first | (with_reducible exact Below.refl _ _) | (with_reducible assumption) | (with_reducible refine Below.alloc ?_ ?_ _) | (with_reducible refine Below.drew ?_) | (with_reducible refine below_drewN ?_ _) | (with_reducible refine Below.setCell ?_ ?_ _) | (with_reducible refine below_setRow' ?_ ?_ _) | go_size)) (Nat.le_refl _)); rintro e w1 ⟨rfl, hb1⟩; have hk1 := blk?_below hb1; (try simp only [size_drew', size_drewN'] at hk1); have hB1 := below_via (w := w) (by repeat' (first | (with_reducible exact Below.refl _ _) | (with_reducible assumption) | (with_reducible refine Below.alloc ?_ ?_ _) | (with_reducible refine Below.drew ?_) | (with_reducible refine below_drewN ?_ _) | (with_reducible refine Below.setCell ?_ ?_ _) | (with_reducible refine below_setRow' ?_ ?_ _) | go_size)) hb1; have hL0 : w.heap.size < w1.heap.size := (by have hS0 := hb1.size; (try simp at hS0); omega); have hL1 : w.heap.size + 1 < w1.heap.size := (by have hS0 := hb1.size; (try simp at hS0); omega); have hLe : w.heap.size ≤ w1.heap.size := hB1.size; clear hb1)
    | (go_at_call 82; (with_reducible refine (prev_6b' (b4 := b4) (o4 := o4) (b6 := b6) (o6 := o6) _ _ (by have := HV.out; have := HL4.out; have := HH.out; have := HL.out; omega) (by have := HV.out; have := HL4.out; have := HH.out; have := HL.out; omega) (by have := HV.out; have := HL4.out; have := HH.out; have := HL.out; omega) _ ?_).mono ?_); (exact HG.out.below (by repeat' (first | (with_reducible exact Below.refl _ _) | (with_reducible assumption) | (with_reducible refine Below.alloc ?_ ?_ _) | (with_reducible refine Below.drew ?_) | (with_reducible refine below_drewN ?_ _) | (with_reducible refine Below.setCell ?_ ?_ _) | (with_reducible refine below_setRow' ?_ ?_ _) | go_size)) (Nat.le_refl _)); rintro e w1 ⟨rfl, hb1⟩; have hk1 := blk?_below hb1; (try simp only [size_drew', size_drewN'] at hk1); have hB1 := below_via (w := w) (by repeat' (first | (with_reducible exact Below.refl _ _) | (with_reducible assumption) | (with_reducible refine Below.alloc ?_ ?_ _) | (with_reducible refine Below.drew ?_) | (with_reducible refine below_drewN ?_ _) | (with_reducible refine Below.setCell ?_ ?_ _) | (with_reducible refine below_setRow' ?_ ?_ _) | go_size)) hb1; have hL0 : w.heap.size < w1.heap.size := (by have hS0 := hb1.size; (try simp at hS0); omega); have hL1 : w.heap.size + 1 < w1.heap.size := (by have hS0 := hb1.size; (try simp at hS0); omega); have hLe : w.heap.size ≤ w1.heap.size := hB1.size; clear hb1)
    | (go_at_call 69; (with_reducible refine (out_6 (b4 := b4) (o4 := o4) (b6 := b6) (o6 := o6) _ _ (by have := HV.out; have := HL4.out; have := HH.out; have := HL.out; omega) (by have := HV.out; have := HL4.out; have := HH.out; have := HL.out; omega) _ ?_).mono ?_); (exact HG.out.below (by repeat' (first | (with_reducible exact Below.refl _ _) | (with_reducible assumption) | (with_reducible refine Below.alloc ?_ ?_ _) | (with_reducible refine Below.drew ?_) | (with_reducible refine below_drewN ?_ _) | (with_reducible refine Below.setCell ?_ ?_ _) | (with_reducible refine below_setRow' ?_ ?_ _) | go_size)) (Nat.le_refl _)); rintro e w1 ⟨rfl, hb1⟩; have hk1 := blk?_below hb1; (try simp only [size_drew', size_drewN'] at hk1); have hB1 := below_via (w := w) (by repeat' (first | (with_reducible exact Below.refl _ _) | (with_reducible assumption) | (with_reducible refine Below.alloc ?_ ?_ _) | (with_reducible refine Below.drew ?_) | (with_reducible refine below_drewN ?_ _) | (with_reducible refine Below.setCell ?_ ?_ _) | (with_reducible refine below_setRow' ?_ ?_ _) | go_size)) hb1; have hL0 : w.heap.size < w1.heap.size := (by have hS0 := hb1.size; (try simp at hS0); omega); have hL1 : w.heap.size + 1 < w1.heap.size := (by have hS0 := hb1.size; (try simp at hS0); omega); have hLe : w.heap.size ≤ w1.heap.size := hB1.size; clear hb1))
  refine bodyPost_ret (res29 Tryd.results39 _ _ (w.heap.size + 1) _ rfl ?_ rfl) rfl ⟨rfl, (by repeat' (first | (with_reducible exact Below.refl _ _) | (with_reducible assumption) | (with_reducible refine Below.alloc ?_ ?_ _) | (with_reducible refine Below.drew ?_) | (with_reducible refine below_drewN ?_ _) | (with_reducible refine Below.setCell ?_ ?_ _) | (with_reducible refine below_setRow' ?_ ?_ _) | go_size))⟩
  go_simp
set_option maxHeartbeats 4000000 in
set_option maxRecDepth 100000 in
theorem iPrev_6z (b : Nat → Int) (hb : Bt b) (hv : be8f b 8 = 0 ∧ be8f b 0 = 0) {b4 o4 b6 o6 : Nat} (w : World) (hg : Gl b4 o4 b6 o6 w) :
    Calls Tryd.prog 39 #[.agg (adr 16 b ⟨#[]⟩)] w fun e w' => e = .returned (.agg (adr 0 zb ⟨#[]⟩)) ∧ Below w.heap.size w w' := by
  have HG := Lib.hid hg
  have HB := Lib.hid hb
  have hL4 := be4f_lt hb 0
  have hH := be8f_lt hb 0
  have hL := be8f_lt hb 8
  have HV := Lib.hid hv
  have HL4 := Lib.hid hL4
  have HH := Lib.hid hH
  have HL := Lib.hid hL
  clear hg hb hL4 hH hL hv
  go_enter Tryd.func39, Tryd.ntmps39
  go_wp2_with (first
    | (go_at_call 78; (with_reducible refine (in_16 (b4 := b4) (o4 := o4) (b6 := b6) (o6 := o6) _ HB.out _ ?_).mono ?_); (exact HG.out.below (by repeat' (first | (with_reducible exact Below.refl _ _) | (with_reducible assumption) | (with_reducible refine Below.alloc ?_ ?_ _) | (with_reducible refine Below.drew ?_) | (with_reducible refine below_drewN ?_ _) | (with_reducible refine Below.setCell ?_ ?_ _) | (with_reducible refine below_setRow' ?_ ?_ _) | go_size)) (Nat.le_refl _)); rintro e w1 ⟨rfl, hb1⟩; have hk1 := blk?_below hb1; (try simp only [size_drew', size_drewN'] at hk1); have hB1 := below_via (w := w) (by repeat' (first | (with_reducible exact Below.refl _ _) | (with_reducible assumption) | (with_reducible refine Below.alloc ?_ ?_ _) | (with_reducible refine Below.drew ?_) | (with_reducible refine below_drewN ?_ _) | (with_reducible refine Below.setCell ?_ ?_ _) | (with_reducible refine below_setRow' ?_ ?_ _) | go_size)) hb1; have hL0 : w.heap.size < w1.heap.size := (by have hS0 := hb1.size; (try simp at hS0); omega); have hL1 : w.heap.size + 1 < w1.heap.size := (by have hS0 := hb1.size; (try simp at hS0); omega); have hLe : w.heap.size ≤ w1.heap.size := hB1.size; clear hb1)
    | (go_at_call 82; (with_reducible refine (prev_6z' (b4 := b4) (o4 := o4) (b6 := b6) (o6 := o6) _ _ (by have := HV.out; have := HL4.out; have := HH.out; have := HL.out; omega) (by have := HV.out; have := HL4.out; have := HH.out; have := HL.out; omega) _ ?_).mono ?_); (exact HG.out.below (by repeat' (first | (with_reducible exact Below.refl _ _) | (with_reducible assumption) | (with_reducible refine Below.alloc ?_ ?_ _) | (with_reducible refine Below.drew ?_) | (with_reducible refine below_drewN ?_ _) | (with_reducible refine Below.setCell ?_ ?_ _) | (with_reducible refine below_setRow' ?_ ?_ _) | go_size)) (Nat.le_refl _)); rintro e w1 ⟨rfl, hb1⟩; have hk1 := blk?_below hb1; (try simp only [size_drew', size_drewN'] at hk1); have hB1 := below_via (w := w) (by repeat' (first | (with_reducible exact Below.refl _ _) | (with_reducible assumption) | (with_reducible refine Below.alloc ?_ ?_ _) | (with_reducible refine Below.drew ?_) | (with_reducible refine below_drewN ?_ _) | (with_reducible refine Below.setCell ?_ ?_ _) | (with_reducible refine below_setRow' ?_ ?_ _) | go_size)) hb1; have hL0 : w.heap.size < w1.heap.size := (by have hS0 := hb1.size; (try simp at hS0); omega); have hL1 : w.heap.size + 1 < w1.heap.size := (by have hS0 := hb1.size; (try simp at hS0); omega); have hLe : w.heap.size ≤ w1.heap.size := hB1.size; clear hb1)
    | (go_at_call 69; (with_reducible refine (out_0 (b4 := b4) (o4 := o4) _ _ _ ?_).mono ?_); (exact HG.out.g4.below (by repeat' (first | (with_reducible exact Below.refl _ _) | (with_reducible assumption) | (with_reducible refine Below.alloc ?_ ?_ _) | (with_reducible refine Below.drew ?_) | (with_reducible refine below_drewN ?_ _) | (with_reducible refine Below.setCell ?_ ?_ _) | (with_reducible refine below_setRow' ?_ ?_ _) | go_size)) (Nat.le_refl _)); rintro e w1 ⟨rfl, hb1⟩; have hk1 := blk?_below hb1; (try simp only [size_drew', size_drewN'] at hk1); have hB1 := below_via (w := w) (by repeat' (first | (with_reducible exact Below.refl _ _) | (with_reducible assumption) | (with_reducible refine Below.alloc ?_ ?_ _) | (with_reducible refine Below.drew ?_) | (with_reducible refine below_drewN ?_ _) | (with_reducible refine Below.setCell ?_ ?_ _) | (with_reducible refine below_setRow' ?_ ?_ _) | go_size)) hb1; have hL0 : w.heap.size < w1.heap.size := (by have hS0 := hb1.size; (try simp at hS0); omega); have hL1 : w.heap.size + 1 < w1.heap.size := (by have hS0 := hb1.size; (try simp at hS0); omega); have hLe : w.heap.size ≤ w1.heap.size := hB1.size; clear hb1))
  refine bodyPost_ret (res29 Tryd.results39 _ _ (w.heap.size + 1) _ rfl ?_ rfl) rfl ⟨rfl, (by repeat' (first | (with_reducible exact Below.refl _ _) | (with_reducible assumption) | (with_reducible refine Below.alloc ?_ ?_ _) | (with_reducible refine Below.drew ?_) | (with_reducible refine below_drewN ?_ _) | (with_reducible refine Below.setCell ?_ ?_ _) | (with_reducible refine below_setRow' ?_ ?_ _) | go_size))⟩
  go_simp
theorem iNext_4 (b : Nat → Int) (hb : Bt b) (z : ByteArray) {b4 o4 : Nat} (w : World) (hg : G4 b4 o4 w) :
    Calls Tryd.prog 41 #[.agg (adr 4 b z)] w fun e w' => e = .returned (.agg (bres 4 32 (bt b) ⟨#[]⟩ true)) ∧ Below w.heap.size w w' := by
  cases h : lastIdx (bt b) true 32 with
  | some p =>
    obtain ⟨e, hv⟩ := next4_s hb h
    rw [bres_some h, ← e]
    exact iNext_4n b hb z hv w hg
  | none =>
    rw [bres_none h]
    exact iNext_4z b hb z (next4_n hb h) w hg
theorem iNext_16 (b : Nat → Int) (hb : Bt b) {b4 o4 b6 o6 : Nat} (w : World) (hg : Gl b4 o4 b6 o6 w) :
    Calls Tryd.prog 41 #[.agg (adr 16 b ⟨#[]⟩)] w fun e w' => e = .returned (.agg (bres 16 128 (bt b) ⟨#[]⟩ true)) ∧ Below w.heap.size w w' := by
  have h1 := be8f_lt hb 0
  have h2 := be8f_lt hb 8
  cases h : lastIdx (bt b) true 128 with
  | some p =>
    have e := next16_s hb h
    have h3 := be8f_lt (Bt_pb (fl (bt b) p) 128) 0
    have h4 := be8f_lt (Bt_pb (fl (bt b) p) 128) 8
    unfold v16 at e
    rw [bres_some h, ← adr16_pb]
    by_cases c : be8f b 8 + 1 < 18446744073709551616
    · have := iNext_6n b hb c w hg
      rw [show be8f (pb (fl (bt b) p) 128) 0 = be8f b 0 by omega, show be8f (pb (fl (bt b) p) 128) 8 = be8f b 8 + 1 by omega]
      exact this
    · have := iNext_6c b hb (by omega) w hg
      rw [show be8f (pb (fl (bt b) p) 128) 0 = be8f b 0 + 1 by omega, show be8f (pb (fl (bt b) p) 128) 8 = 0 by omega]
      exact this
  | none =>
    rw [bres_none h]
    have e := next16_n hb h
    unfold v16 at e
    exact iNext_6z b hb (by omega) w hg
theorem iPrev_4 (b : Nat → Int) (hb : Bt b) (z : ByteArray) {b4 o4 : Nat} (w : World) (hg : G4 b4 o4 w) :
    Calls Tryd.prog 39 #[.agg (adr 4 b z)] w fun e w' => e = .returned (.agg (bres 4 32 (bt b) ⟨#[]⟩ false)) ∧ Below w.heap.size w w' := by
  cases h : lastIdx (bt b) false 32 with
  | some p =>
    obtain ⟨e, hv⟩ := prev4_s hb h
    rw [bres_some h, ← e]
    exact iPrev_4n b hb z hv w hg
  | none =>
    rw [bres_none h]
    exact iPrev_4z b hb z (prev4_n hb h) w hg
theorem iPrev_16 (b : Nat → Int) (hb : Bt b) {b4 o4 b6 o6 : Nat} (w : World) (hg : Gl b4 o4 b6 o6 w) :
    Calls Tryd.prog 39 #[.agg (adr 16 b ⟨#[]⟩)] w fun e w' => e = .returned (.agg (bres 16 128 (bt b) ⟨#[]⟩ false)) ∧ Below w.heap.size w w' := by
  have h1 := be8f_lt hb 0
  have h2 := be8f_lt hb 8
  cases h : lastIdx (bt b) false 128 with
  | some p =>
    have e := prev16_s hb h
    have h3 := be8f_lt (Bt_pb (fl (bt b) p) 128) 0
    have h4 := be8f_lt (Bt_pb (fl (bt b) p) 128) 8
    unfold v16 at e
    rw [bres_some h, ← adr16_pb]
    by_cases c : 1 ≤ be8f b 8
    · have := iPrev_6n b hb c w hg
      rw [show be8f (pb (fl (bt b) p) 128) 0 = be8f b 0 by omega, show be8f (pb (fl (bt b) p) 128) 8 = be8f b 8 - 1 by omega]
      exact this
    · have := iPrev_6b b hb (by omega) w hg
      rw [show be8f (pb (fl (bt b) p) 128) 0 = be8f b 0 - 1 by omega, show be8f (pb (fl (bt b) p) 128) 8 = 18446744073709551615 by omega]
      exact this
  | none =>
    rw [bres_none h]
    have e := prev16_n hb h
    unfold v16 at e
    exact iPrev_6z b hb (by omega) w hg
end Go.Proofs.YtmlkcgacneealaaDoor
