/- AddrFromSlice, WithZone without a zone, and in: the library's value of a plain address, for each family. Conditions: the listed variables as laid. -/
import Derived.Test.YtmlkcgacneealaaDoorSpec1
import Derived.Test.YtmlkcgacneealaaDoorAd2
set_option linter.unusedVariables false
set_option linter.unusedSimpArgs false
namespace Go.Proofs.YtmlkcgacneealaaDoor
open Go.RowKit
theorem ldCells22 {w : World} {g o : Nat} {b : Nat → Int} (hc : ∀ i, i < 4 → w.cell? ⟨g, o + i, none⟩ = some (.int .u8 (b i))) : ldA Tryd.prog 22 w ⟨g, o, none⟩ = .ok (.agg (arr4 b)) w := by
  have hr : w.rangeAt g o (arr4 b).toList := fun j v hv => by
    have hj : j < 4 := by
      have := (List.getElem?_eq_some_iff.1 hv).1
      simpa [arr4] using this
    have e : (arr4 b)[j]? = some v := by simpa using hv
    rw [arr4_byte b j hj] at e
    rw [hc j hj]
    exact e
  have h := run_loadVar_mid (P := Tryd.prog) w g o 22 (arr4 b).toList _ hr Tryd.underlying22 rfl (by rw [infoSize22]; rfl)
  rw [Array.toArray_toList] at h
  exact h
theorem arrAt22 (a : Addr) (c : Nat) (w : World) : (Instr.arrayAt 22 (.slice (some a) 4 c)).run Tryd.prog w = .ok (.pointer (some a)) w := by
  simp [Instr.arrayAt, run_underlying Tryd.underlying22]
attribute [go_sem] arrAt22
theorem ldCells23 {w : World} {g o : Nat} {b : Nat → Int} (hc : ∀ i, i < 16 → w.cell? ⟨g, o + i, none⟩ = some (.int .u8 (b i))) : ldA Tryd.prog 23 w ⟨g, o, none⟩ = .ok (.agg (arr16 b)) w := by
  have hr : w.rangeAt g o (arr16 b).toList := fun j v hv => by
    have hj : j < 16 := by
      have := (List.getElem?_eq_some_iff.1 hv).1
      simpa [arr16] using this
    have e : (arr16 b)[j]? = some v := by simpa using hv
    rw [arr16_byte b j hj] at e
    rw [hc j hj]
    exact e
  have h := run_loadVar_mid (P := Tryd.prog) w g o 23 (arr16 b).toList _ hr Tryd.underlying23 rfl (by rw [infoSize23]; rfl)
  rw [Array.toArray_toList] at h
  exact h
theorem arrAt23 (a : Addr) (c : Nat) (w : World) : (Instr.arrayAt 23 (.slice (some a) 16 c)).run Tryd.prog w = .ok (.pointer (some a)) w := by
  simp [Instr.arrayAt, run_underlying Tryd.underlying23]
attribute [go_sem] arrAt23
set_option maxHeartbeats 4000000 in
set_option maxRecDepth 100000 in
theorem afs_4 (g o c : Nat) (b : Nat → Int) (hb : Bt b) {b4 o4 : Nat} (w : World) (hg : G4 b4 o4 w) (hc : ∀ i, i < 4 → w.cell? ⟨g, o + i, none⟩ = some (.int .u8 (b i))) (hgs : g < w.heap.size) :
    Calls Tryd.prog 72 #[.slice (some ⟨g, o, none⟩) 4 c] w fun e w' => e = .returned (.tuple #[.agg #[.int .u64 (0), .int .u64 (281470681743360 + be4f b 0), .pointer (some ⟨b4, o4, none⟩)], .bool true]) ∧ Below w.heap.size w w' := by
  have HG := Lib.hid hg
  have HB := Lib.hid hb
  have hld := fun o1 => ldCells22 (w := w.alloc o1) (g := g) (o := o) (b := b) (fun i hi => by rw [World.cell?_alloc_past (hn := hgs)]; exact hc i hi)
  clear hb hg hc
  go_enter Tryd.func72, Tryd.ntmps72
  go_wp2_with (first
    | (go_at_call 70; refine (addrFrom4 (b4 := b4) (o4 := o4) b HB.out _ ?_).mono ?_; (exact HG.out.below (by repeat' (first | (with_reducible exact Below.refl _ _) | (with_reducible assumption) | (with_reducible refine Below.alloc ?_ ?_ _) | (with_reducible refine Below.drew ?_) | (with_reducible refine below_drewN ?_ _) | (with_reducible refine Below.setCell ?_ ?_ _) | (with_reducible refine below_setRow' ?_ ?_ _) | go_size)) (Nat.le_refl _)); rintro e w1 ⟨rfl, hb1⟩; obtain ⟨hc1, hf1⟩ := bcell hb1; have hk1 := blk?_below hb1; (try simp only [size_drew'] at hk1); (try simp only [size_drew'] at hc1); (try simp only [size_drew'] at hf1); have hB1 := below_via (w := w) (by repeat' (first | (with_reducible exact Below.refl _ _) | (with_reducible assumption) | (with_reducible refine Below.alloc ?_ ?_ _) | (with_reducible refine Below.drew ?_) | (with_reducible refine below_drewN ?_ _) | (with_reducible refine Below.setCell ?_ ?_ _) | (with_reducible refine below_setRow' ?_ ?_ _) | go_size)) hb1; have hL0 : w.heap.size < w1.heap.size := (by have hS0 := hb1.size; (try simp at hS0); omega); have hLe : w.heap.size ≤ w1.heap.size := (by omega); clear hb1))
  refine bodyPost_ret (res78t Tryd.results72 _ _ w.heap.size _ rfl ?_ rfl) rfl ⟨rfl, (by repeat' (first | (with_reducible exact Below.refl _ _) | (with_reducible assumption) | (with_reducible refine Below.alloc ?_ ?_ _) | (with_reducible refine Below.drew ?_) | (with_reducible refine below_drewN ?_ _) | (with_reducible refine Below.setCell ?_ ?_ _) | (with_reducible refine below_setRow' ?_ ?_ _) | go_size))⟩
  go_simp
set_option maxHeartbeats 4000000 in
set_option maxRecDepth 100000 in
theorem afs_16 (g o c : Nat) (b : Nat → Int) (hb : Bt b) {b4 o4 b6 o6 : Nat} (w : World) (hg : Gl b4 o4 b6 o6 w) (hc : ∀ i, i < 16 → w.cell? ⟨g, o + i, none⟩ = some (.int .u8 (b i))) (hgs : g < w.heap.size) :
    Calls Tryd.prog 72 #[.slice (some ⟨g, o, none⟩) 16 c] w fun e w' => e = .returned (.tuple #[.agg #[.int .u64 (be8f b 0), .int .u64 (be8f b 8), .pointer (some ⟨b6, o6, none⟩)], .bool true]) ∧ Below w.heap.size w w' := by
  have HG := Lib.hid hg
  have HB := Lib.hid hb
  have hld := fun o1 => ldCells23 (w := w.alloc o1) (g := g) (o := o) (b := b) (fun i hi => by rw [World.cell?_alloc_past (hn := hgs)]; exact hc i hi)
  clear hb hg hc
  go_enter Tryd.func72, Tryd.ntmps72
  go_wp2_with (first
    | (go_at_call 71; refine (addrFrom16 (b4 := b4) (o4 := o4) (b6 := b6) (o6 := o6) b HB.out _ ?_).mono ?_; (exact HG.out.below (by repeat' (first | (with_reducible exact Below.refl _ _) | (with_reducible assumption) | (with_reducible refine Below.alloc ?_ ?_ _) | (with_reducible refine Below.drew ?_) | (with_reducible refine below_drewN ?_ _) | (with_reducible refine Below.setCell ?_ ?_ _) | (with_reducible refine below_setRow' ?_ ?_ _) | go_size)) (Nat.le_refl _)); rintro e w1 ⟨rfl, hb1⟩; obtain ⟨hc1, hf1⟩ := bcell hb1; have hk1 := blk?_below hb1; (try simp only [size_drew'] at hk1); (try simp only [size_drew'] at hc1); (try simp only [size_drew'] at hf1); have hB1 := below_via (w := w) (by repeat' (first | (with_reducible exact Below.refl _ _) | (with_reducible assumption) | (with_reducible refine Below.alloc ?_ ?_ _) | (with_reducible refine Below.drew ?_) | (with_reducible refine below_drewN ?_ _) | (with_reducible refine Below.setCell ?_ ?_ _) | (with_reducible refine below_setRow' ?_ ?_ _) | go_size)) hb1; have hL0 : w.heap.size < w1.heap.size := (by have hS0 := hb1.size; (try simp at hS0); omega); have hLe : w.heap.size ≤ w1.heap.size := (by omega); clear hb1))
  refine bodyPost_ret (res78t Tryd.results72 _ _ w.heap.size _ rfl ?_ rfl) rfl ⟨rfl, (by repeat' (first | (with_reducible exact Below.refl _ _) | (with_reducible assumption) | (with_reducible refine Below.alloc ?_ ?_ _) | (with_reducible refine Below.drew ?_) | (with_reducible refine below_drewN ?_ _) | (with_reducible refine Below.setCell ?_ ?_ _) | (with_reducible refine below_setRow' ?_ ?_ _) | go_size))⟩
  go_simp
set_option maxHeartbeats 4000000 in
set_option maxRecDepth 100000 in
theorem afs_no (a : Option Addr) (n c : Nat) (h4 : n ≠ 4) (h16 : n ≠ 16) (w : World) :
    Calls Tryd.prog 72 #[.slice a n c] w fun e w' => e = .returned (.tuple #[.agg #[.int .u64 0, .int .u64 0, .pointer none], .bool false]) ∧ Below w.heap.size w w' := by
  have e4 : ((n : Int) == 4) = false := beq_eq_false_iff_ne.2 (by omega)
  have e16 : ((n : Int) == 16) = false := beq_eq_false_iff_ne.2 (by omega)
  go_enter Tryd.func72, Tryd.ntmps72
  go_wp2
  refine bodyPost_ret (res78t Tryd.results72 _ _ w.heap.size _ rfl ?_ rfl) rfl ⟨rfl, (by repeat' (first | (with_reducible exact Below.refl _ _) | (with_reducible assumption) | (with_reducible refine Below.alloc ?_ ?_ _) | (with_reducible refine Below.drew ?_) | (with_reducible refine below_drewN ?_ _) | (with_reducible refine Below.setCell ?_ ?_ _) | (with_reducible refine below_setRow' ?_ ?_ _) | go_size))⟩
  go_simp
set_option maxHeartbeats 4000000 in
set_option maxRecDepth 100000 in
theorem withZone_6 (hi lo : Int) {b4 o4 b6 o6 : Nat} (w : World) (hg : Gl b4 o4 b6 o6 w) :
    Calls Tryd.prog 131 #[.agg #[.int .u64 hi, .int .u64 lo, .pointer (some ⟨b6, o6, none⟩)], .string ⟨#[]⟩] w fun e w' => e = .returned (.agg #[.int .u64 hi, .int .u64 lo, .pointer (some ⟨b6, o6, none⟩)]) ∧ Below w.heap.size w w' := by
  have HG := Lib.hid hg
  obtain ⟨⟨z4, z0, s0, s1, s2, l4, c40, c41⟩, z6, zh, zh', l6, c60, c61⟩ := hg
  go_enter Tryd.func131, Tryd.ntmps131
  go_wp2_with (first
    | (go_at_call 139; refine (is6_6 (b4 := b4) (o4 := o4) (b6 := b6) (o6 := o6) hi lo _ ?_).mono ?_; (exact HG.out.below (by repeat' (first | (with_reducible exact Below.refl _ _) | (with_reducible assumption) | (with_reducible refine Below.alloc ?_ ?_ _) | (with_reducible refine Below.drew ?_) | (with_reducible refine below_drewN ?_ _) | (with_reducible refine Below.setCell ?_ ?_ _) | (with_reducible refine below_setRow' ?_ ?_ _) | go_size)) (Nat.le_refl _)); rintro e w1 ⟨rfl, hb1⟩; obtain ⟨hc1, hf1⟩ := bcell hb1; have hk1 := blk?_below hb1; (try simp only [size_drew'] at hk1); (try simp only [size_drew'] at hc1); (try simp only [size_drew'] at hf1); have hB1 := below_via (w := w) (by repeat' (first | (with_reducible exact Below.refl _ _) | (with_reducible assumption) | (with_reducible refine Below.alloc ?_ ?_ _) | (with_reducible refine Below.drew ?_) | (with_reducible refine below_drewN ?_ _) | (with_reducible refine Below.setCell ?_ ?_ _) | (with_reducible refine below_setRow' ?_ ?_ _) | go_size)) hb1; have hL0 : w.heap.size < w1.heap.size := (by have hS0 := hb1.size; (try simp at hS0); omega); have hL1 : w.heap.size + 1 < w1.heap.size := (by have hS0 := hb1.size; (try simp at hS0); omega); have hLe : w.heap.size ≤ w1.heap.size := (by omega); clear hb1))
  refine bodyPost_ret (res78 Tryd.results131 _ _ (w.heap.size + 1) _ rfl ?_ rfl) rfl ⟨rfl, (by repeat' (first | (with_reducible exact Below.refl _ _) | (with_reducible assumption) | (with_reducible refine Below.alloc ?_ ?_ _) | (with_reducible refine Below.drew ?_) | (with_reducible refine below_drewN ?_ _) | (with_reducible refine Below.setCell ?_ ?_ _) | (with_reducible refine below_setRow' ?_ ?_ _) | go_size))⟩
  go_simp
set_option maxHeartbeats 4000000 in
set_option maxRecDepth 100000 in
theorem in_0 (n : Int) (h4 : n ≠ 4) (h16 : n ≠ 16) (b : Nat → Int) (hb : Bt b) (z : ByteArray) {b4 o4 : Nat} (w : World) (hg : G4 b4 o4 w) :
    Calls Tryd.prog 78 #[.agg (adr n b z)] w fun e w' => e = .returned (.agg #[.int .u64 (0), .int .u64 (0), .pointer none]) ∧ Below w.heap.size w w' := by
  have HG := Lib.hid hg
  have HB := Lib.hid hb
  have e4 : (n == 4) = false := beq_eq_false_iff_ne.2 h4
  have e16 : (n == 16) = false := beq_eq_false_iff_ne.2 h16
  clear h4 h16
  obtain ⟨z4, z0, s0, s1, s2, l4, c40, c41⟩ := hg
  clear hb
  go_enter Tryd.func78, Tryd.ntmps78
  go_wp2_with (first
    | (go_at_call 72; refine (afs_no _ 0 _ (by omega) (by omega) _).mono ?_; rintro e w1 ⟨rfl, hb1⟩; obtain ⟨hc1, hf1⟩ := bcell hb1; have hk1 := blk?_below hb1; (try simp only [size_drew'] at hk1); (try simp only [size_drew'] at hc1); (try simp only [size_drew'] at hf1); have hB1 := below_via (w := w) (by repeat' (first | (with_reducible exact Below.refl _ _) | (with_reducible assumption) | (with_reducible refine Below.alloc ?_ ?_ _) | (with_reducible refine Below.drew ?_) | (with_reducible refine below_drewN ?_ _) | (with_reducible refine Below.setCell ?_ ?_ _) | (with_reducible refine below_setRow' ?_ ?_ _) | go_size)) hb1; have hL0 : w.heap.size < w1.heap.size := (by have hS0 := hb1.size; (try simp at hS0); omega); have hL1 : w.heap.size + 1 < w1.heap.size := (by have hS0 := hb1.size; (try simp at hS0); omega); have hLe : w.heap.size ≤ w1.heap.size := (by omega); clear hb1))
  refine bodyPost_ret (res78 Tryd.results78 _ _ (w.heap.size + 1) _ rfl ?_ rfl) rfl ⟨rfl, (by repeat' (first | (with_reducible exact Below.refl _ _) | (with_reducible assumption) | (with_reducible refine Below.alloc ?_ ?_ _) | (with_reducible refine Below.drew ?_) | (with_reducible refine below_drewN ?_ _) | (with_reducible refine Below.setCell ?_ ?_ _) | (with_reducible refine below_setRow' ?_ ?_ _) | go_size))⟩
  go_simp
set_option maxHeartbeats 4000000 in
set_option maxRecDepth 100000 in
theorem in_4 (b : Nat → Int) (hb : Bt b) (z : ByteArray) {b4 o4 : Nat} (w : World) (hg : G4 b4 o4 w) :
    Calls Tryd.prog 78 #[.agg (adr 4 b z)] w fun e w' => e = .returned (.agg #[.int .u64 (0), .int .u64 (281470681743360 + be4f b 0), .pointer (some ⟨b4, o4, none⟩)]) ∧ Below w.heap.size w w' := by
  have HG := Lib.hid hg
  have HB := Lib.hid hb
  obtain ⟨z4, z0, s0, s1, s2, l4, c40, c41⟩ := hg
  clear hb
  go_enter Tryd.func78, Tryd.ntmps78
  go_wp2_with (first
    | (go_at_call 72; refine (afs_4 (b4 := b4) (o4 := o4) _ _ _ b HB.out _ ?_ ?_ ?_).mono ?_; (exact HG.out.below (by repeat' (first | (with_reducible exact Below.refl _ _) | (with_reducible assumption) | (with_reducible refine Below.alloc ?_ ?_ _) | (with_reducible refine Below.drew ?_) | (with_reducible refine below_drewN ?_ _) | (with_reducible refine Below.setCell ?_ ?_ _) | (with_reducible refine below_setRow' ?_ ?_ _) | go_size)) (Nat.le_refl _)); (intro i hi; have hi16 : i < 16 := (by omega); go_simp); (go_simp); rintro e w1 ⟨rfl, hb1⟩; obtain ⟨hc1, hf1⟩ := bcell hb1; have hk1 := blk?_below hb1; (try simp only [size_drew'] at hk1); (try simp only [size_drew'] at hc1); (try simp only [size_drew'] at hf1); have hB1 := below_via (w := w) (by repeat' (first | (with_reducible exact Below.refl _ _) | (with_reducible assumption) | (with_reducible refine Below.alloc ?_ ?_ _) | (with_reducible refine Below.drew ?_) | (with_reducible refine below_drewN ?_ _) | (with_reducible refine Below.setCell ?_ ?_ _) | (with_reducible refine below_setRow' ?_ ?_ _) | go_size)) hb1; have hL0 : w.heap.size < w1.heap.size := (by have hS0 := hb1.size; (try simp at hS0); omega); have hL1 : w.heap.size + 1 < w1.heap.size := (by have hS0 := hb1.size; (try simp at hS0); omega); have hLe : w.heap.size ≤ w1.heap.size := (by omega); clear hb1))
  refine bodyPost_ret (res78 Tryd.results78 _ _ (w.heap.size + 1) _ rfl ?_ rfl) rfl ⟨rfl, (by repeat' (first | (with_reducible exact Below.refl _ _) | (with_reducible assumption) | (with_reducible refine Below.alloc ?_ ?_ _) | (with_reducible refine Below.drew ?_) | (with_reducible refine below_drewN ?_ _) | (with_reducible refine Below.setCell ?_ ?_ _) | (with_reducible refine below_setRow' ?_ ?_ _) | go_size))⟩
  go_simp
set_option maxHeartbeats 4000000 in
set_option maxRecDepth 100000 in
theorem in_16 (b : Nat → Int) (hb : Bt b) {b4 o4 b6 o6 : Nat} (w : World) (hg : Gl b4 o4 b6 o6 w) :
    Calls Tryd.prog 78 #[.agg (adr 16 b ⟨#[]⟩)] w fun e w' => e = .returned (.agg #[.int .u64 (be8f b 0), .int .u64 (be8f b 8), .pointer (some ⟨b6, o6, none⟩)]) ∧ Below w.heap.size w w' := by
  have HG := Lib.hid hg
  have HB := Lib.hid hb
  obtain ⟨⟨z4, z0, s0, s1, s2, l4, c40, c41⟩, z6, zh, zh', l6, c60, c61⟩ := hg
  clear hb
  go_enter Tryd.func78, Tryd.ntmps78
  go_wp2_with (first
    | (go_at_call 72; refine (afs_16 (b4 := b4) (o4 := o4) (b6 := b6) (o6 := o6) _ _ _ b HB.out _ ?_ ?_ ?_).mono ?_; (exact HG.out.below (by repeat' (first | (with_reducible exact Below.refl _ _) | (with_reducible assumption) | (with_reducible refine Below.alloc ?_ ?_ _) | (with_reducible refine Below.drew ?_) | (with_reducible refine below_drewN ?_ _) | (with_reducible refine Below.setCell ?_ ?_ _) | (with_reducible refine below_setRow' ?_ ?_ _) | go_size)) (Nat.le_refl _)); (intro i hi; have hi16 : i < 16 := (by omega); go_simp); (go_simp); rintro e w1 ⟨rfl, hb1⟩; obtain ⟨hc1, hf1⟩ := bcell hb1; have hk1 := blk?_below hb1; (try simp only [size_drew'] at hk1); (try simp only [size_drew'] at hc1); (try simp only [size_drew'] at hf1); have hB1 := below_via (w := w) (by repeat' (first | (with_reducible exact Below.refl _ _) | (with_reducible assumption) | (with_reducible refine Below.alloc ?_ ?_ _) | (with_reducible refine Below.drew ?_) | (with_reducible refine below_drewN ?_ _) | (with_reducible refine Below.setCell ?_ ?_ _) | (with_reducible refine below_setRow' ?_ ?_ _) | go_size)) hb1; have hL0 : w.heap.size < w1.heap.size := (by have hS0 := hb1.size; (try simp at hS0); omega); have hL1 : w.heap.size + 1 < w1.heap.size := (by have hS0 := hb1.size; (try simp at hS0); omega); have hLe : w.heap.size ≤ w1.heap.size := (by omega); clear hb1)
    | (go_at_call 131; refine (withZone_6 (b4 := b4) (o4 := o4) (b6 := b6) (o6 := o6) _ _ _ ?_).mono ?_; (exact HG.out.below (by repeat' (first | (with_reducible exact Below.refl _ _) | (with_reducible assumption) | (with_reducible refine Below.alloc ?_ ?_ _) | (with_reducible refine Below.drew ?_) | (with_reducible refine below_drewN ?_ _) | (with_reducible refine Below.setCell ?_ ?_ _) | (with_reducible refine below_setRow' ?_ ?_ _) | go_size)) (Nat.le_refl _)); rintro e w1 ⟨rfl, hb1⟩; obtain ⟨hc1, hf1⟩ := bcell hb1; have hk1 := blk?_below hb1; (try simp only [size_drew'] at hk1); (try simp only [size_drew'] at hc1); (try simp only [size_drew'] at hf1); have hB1 := below_via (w := w) (by repeat' (first | (with_reducible exact Below.refl _ _) | (with_reducible assumption) | (with_reducible refine Below.alloc ?_ ?_ _) | (with_reducible refine Below.drew ?_) | (with_reducible refine below_drewN ?_ _) | (with_reducible refine Below.setCell ?_ ?_ _) | (with_reducible refine below_setRow' ?_ ?_ _) | go_size)) hb1; have hL0 : w.heap.size < w1.heap.size := (by have hS0 := hb1.size; (try simp at hS0); omega); have hL1 : w.heap.size + 1 < w1.heap.size := (by have hS0 := hb1.size; (try simp at hS0); omega); have hLe : w.heap.size ≤ w1.heap.size := (by omega); clear hb1))
  refine bodyPost_ret (res78 Tryd.results78 _ _ (w.heap.size + 1) _ rfl ?_ rfl) rfl ⟨rfl, (by repeat' (first | (with_reducible exact Below.refl _ _) | (with_reducible assumption) | (with_reducible refine Below.alloc ?_ ?_ _) | (with_reducible refine Below.drew ?_) | (with_reducible refine below_drewN ?_ _) | (with_reducible refine Below.setCell ?_ ?_ _) | (with_reducible refine below_setRow' ?_ ?_ _) | go_size))⟩
  go_simp
end Go.Proofs.YtmlkcgacneealaaDoor
