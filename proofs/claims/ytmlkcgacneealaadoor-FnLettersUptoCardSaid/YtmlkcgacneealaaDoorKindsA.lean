/- What the library says of the kinds of an address, for each family. Conditions: the listed variables as laid. -/
import Derived.Test.YtmlkcgacneealaaDoorMeth1
import Derived.Test.YtmlkcgacneealaaDoorEq78
import Derived.Test.YtmlkcgacneealaaDoorLawC
set_option linter.unusedVariables false
set_option linter.unusedSimpArgs false
namespace Go.Proofs.YtmlkcgacneealaaDoor
open Go.RowKit
set_option maxHeartbeats 4000000 in
set_option maxRecDepth 100000 in
theorem v4_0 (hi lo : Int) (p : Option Addr) (hlo : 0 ≤ lo ∧ lo < 18446744073709551616) (w : World) :
    Calls Tryd.prog 154 #[.agg #[.int .u64 hi, .int .u64 lo, .pointer p], .int .u8 0] w fun e w' => e = .returned (.int .u8 (lo / 16777216 % 256)) ∧ Below w.heap.size w w' := by
  obtain ⟨hl0, hl1⟩ := hlo
  go_enter Tryd.func154, Tryd.ntmps154
  go_wp2
  go_ret
  exact ⟨rfl, (by repeat' (first | (with_reducible exact Below.refl _ _) | (with_reducible assumption) | (with_reducible refine Below.alloc ?_ ?_ _) | (with_reducible refine Below.drew ?_) | (with_reducible refine below_drewN ?_ _) | (with_reducible refine Below.setCell ?_ ?_ _) | (with_reducible refine below_setRow' ?_ ?_ _) | go_size))⟩
set_option maxHeartbeats 4000000 in
set_option maxRecDepth 100000 in
theorem v4_1 (hi lo : Int) (p : Option Addr) (hlo : 0 ≤ lo ∧ lo < 18446744073709551616) (w : World) :
    Calls Tryd.prog 154 #[.agg #[.int .u64 hi, .int .u64 lo, .pointer p], .int .u8 1] w fun e w' => e = .returned (.int .u8 (lo / 65536 % 256)) ∧ Below w.heap.size w w' := by
  obtain ⟨hl0, hl1⟩ := hlo
  go_enter Tryd.func154, Tryd.ntmps154
  go_wp2
  go_ret
  exact ⟨rfl, (by repeat' (first | (with_reducible exact Below.refl _ _) | (with_reducible assumption) | (with_reducible refine Below.alloc ?_ ?_ _) | (with_reducible refine Below.drew ?_) | (with_reducible refine below_drewN ?_ _) | (with_reducible refine Below.setCell ?_ ?_ _) | (with_reducible refine below_setRow' ?_ ?_ _) | go_size))⟩
set_option maxHeartbeats 4000000 in
set_option maxRecDepth 100000 in
theorem v4_2 (hi lo : Int) (p : Option Addr) (hlo : 0 ≤ lo ∧ lo < 18446744073709551616) (w : World) :
    Calls Tryd.prog 154 #[.agg #[.int .u64 hi, .int .u64 lo, .pointer p], .int .u8 2] w fun e w' => e = .returned (.int .u8 (lo / 256 % 256)) ∧ Below w.heap.size w w' := by
  obtain ⟨hl0, hl1⟩ := hlo
  go_enter Tryd.func154, Tryd.ntmps154
  go_wp2
  go_ret
  exact ⟨rfl, (by repeat' (first | (with_reducible exact Below.refl _ _) | (with_reducible assumption) | (with_reducible refine Below.alloc ?_ ?_ _) | (with_reducible refine Below.drew ?_) | (with_reducible refine below_drewN ?_ _) | (with_reducible refine Below.setCell ?_ ?_ _) | (with_reducible refine below_setRow' ?_ ?_ _) | go_size))⟩
set_option maxHeartbeats 4000000 in
set_option maxRecDepth 100000 in
theorem halves_any (g : Nat) (w : World) :
    Calls Tryd.prog 171 #[.pointer (some ⟨g, 0, none⟩)] w fun e w' => e = .returned (.agg #[.pointer (some ⟨g, 0, none⟩), .pointer (some ⟨g, 1, none⟩)]) ∧ Below w.heap.size w w' := by
  go_enter Tryd.func171, Tryd.ntmps171
  go_wp2
  go_region
  all_goals go_wp2
  all_goals (go_returns; exact ⟨rfl, (by repeat' (first | (with_reducible exact Below.refl _ _) | (with_reducible assumption) | (with_reducible refine Below.alloc ?_ ?_ _) | (with_reducible refine Below.drew ?_) | (with_reducible refine below_drewN ?_ _) | (with_reducible refine Below.setCell ?_ ?_ _) | (with_reducible refine below_setRow' ?_ ?_ _) | go_size))⟩)
theorem idx138 (p q : Option Addr) (w : World) : (Instr.index 138 (.agg #[.pointer p, .pointer q]) (.int .u8 0)).run Tryd.prog w = .ok (.pointer p) w := by kernel_rfl
attribute [go_sem] idx138
set_option maxHeartbeats 4000000 in
set_option maxRecDepth 100000 in
theorem v6u16_0 (hi lo : Int) (p : Option Addr) (hhi : 0 ≤ hi ∧ hi < 18446744073709551616) (w : World) :
    Calls Tryd.prog 153 #[.agg #[.int .u64 hi, .int .u64 lo, .pointer p], .int .u8 0] w fun e w' => e = .returned (.int .u16 (hi / 281474976710656)) ∧ Below w.heap.size w w' := by
  obtain ⟨hh0, hh1⟩ := hhi
  go_enter Tryd.func153, Tryd.ntmps153
  go_wp2_with (first
    | (go_at_call 171; (with_reducible refine (halves_any _ _).mono ?_); rintro e w1 ⟨rfl, hb1⟩; have hk1 := blk?_below hb1; (try simp only [size_drew', size_drewN'] at hk1); have hB1 := below_via (w := w) (by repeat' (first | (with_reducible exact Below.refl _ _) | (with_reducible assumption) | (with_reducible refine Below.alloc ?_ ?_ _) | (with_reducible refine Below.drew ?_) | (with_reducible refine below_drewN ?_ _) | (with_reducible refine Below.setCell ?_ ?_ _) | (with_reducible refine below_setRow' ?_ ?_ _) | go_size)) hb1; have hL0 : w.heap.size < w1.heap.size := (by have hS0 := hb1.size; (try simp at hS0); omega); have hLe : w.heap.size ≤ w1.heap.size := hB1.size; obtain ⟨hc1, hf1⟩ := bcell hb1; (try simp only [size_drew', size_drewN'] at hc1); (try simp only [size_drew', size_drewN'] at hf1); clear hb1))
  go_ret
  exact ⟨rfl, (by repeat' (first | (with_reducible exact Below.refl _ _) | (with_reducible assumption) | (with_reducible refine Below.alloc ?_ ?_ _) | (with_reducible refine Below.drew ?_) | (with_reducible refine below_drewN ?_ _) | (with_reducible refine Below.setCell ?_ ?_ _) | (with_reducible refine below_setRow' ?_ ?_ _) | go_size))⟩
set_option maxHeartbeats 4000000 in
set_option maxRecDepth 100000 in
theorem v6_0 (hi lo : Int) (p : Option Addr) (hhi : 0 ≤ hi ∧ hi < 18446744073709551616) (w : World) :
    Calls Tryd.prog 168 #[.agg #[.int .u64 hi, .int .u64 lo, .pointer p], .int .u8 0] w fun e w' => e = .returned (.int .u8 (hi / 72057594037927936)) ∧ Below w.heap.size w w' := by
  obtain ⟨hh0, hh1⟩ := hhi
  go_enter Tryd.func168, Tryd.ntmps168
  go_wp2_with (first
    | (go_at_call 171; (with_reducible refine (halves_any _ _).mono ?_); rintro e w1 ⟨rfl, hb1⟩; have hk1 := blk?_below hb1; (try simp only [size_drew', size_drewN'] at hk1); have hB1 := below_via (w := w) (by repeat' (first | (with_reducible exact Below.refl _ _) | (with_reducible assumption) | (with_reducible refine Below.alloc ?_ ?_ _) | (with_reducible refine Below.drew ?_) | (with_reducible refine below_drewN ?_ _) | (with_reducible refine Below.setCell ?_ ?_ _) | (with_reducible refine below_setRow' ?_ ?_ _) | go_size)) hb1; have hL0 : w.heap.size < w1.heap.size := (by have hS0 := hb1.size; (try simp at hS0); omega); have hLe : w.heap.size ≤ w1.heap.size := hB1.size; obtain ⟨hc1, hf1⟩ := bcell hb1; (try simp only [size_drew', size_drewN'] at hc1); (try simp only [size_drew', size_drewN'] at hf1); clear hb1))
  go_ret
  exact ⟨rfl, (by repeat' (first | (with_reducible exact Below.refl _ _) | (with_reducible assumption) | (with_reducible refine Below.alloc ?_ ?_ _) | (with_reducible refine Below.drew ?_) | (with_reducible refine below_drewN ?_ _) | (with_reducible refine Below.setCell ?_ ?_ _) | (with_reducible refine below_setRow' ?_ ?_ _) | go_size))⟩
end Go.Proofs.YtmlkcgacneealaaDoor
