/- AsSlice of each family leaves a new row of bytes. Conditions: the listed variables as laid. -/
import Derived.Test.YtmlkcgacneealaaDoorConv
import Derived.Test.YtmlkcgacneealaaDoorFam
import Derived.Laws.CopyOwn
import Derived.Deep.RegionLaw
set_option linter.unusedVariables false
set_option linter.unusedSimpArgs false
namespace Go.Proofs.YtmlkcgacneealaaDoor
open Go.RowKit

/-- What AsSlice leaves: a new row of n bytes. -/
def SlB (w : World) (n : Nat) (c : Array Value) (e : Ending) (w' : World) : Prop :=
  ∃ g, w.heap.size ≤ g ∧ e = .returned (.slice (some ⟨g, 0, none⟩) n n) ∧ blk? w' g = some c ∧ Below w.heap.size w w'
theorem put88 (hi lo : Int) : arr16 (put8 (put8 zb 0 hi) 8 lo) = arr16 (b16of hi lo) := by
  apply arr16_congr
  intro k hk
  unfold put8 b16of
  by_cases h : k < 8
  · rw [if_neg (by omega), if_pos (by omega), if_pos h, Nat.sub_zero]
  · rw [if_pos (by omega), if_neg h, if_pos hk]
set_option maxHeartbeats 4000000 in
set_option maxRecDepth 100000 in
theorem asSlice_0 (hi lo : Int) {b4 o4 : Nat} (w : World) (hg : G4 b4 o4 w) :
    Calls Tryd.prog 79 #[.agg #[.int .u64 hi, .int .u64 lo, .pointer none]] w fun e w' => e = .returned (.slice none 0 0) ∧ Below w.heap.size w w' := by
  obtain ⟨z4, z0, s0, s1, s2, l4, c40, c41⟩ := hg
  go_enter Tryd.func79, Tryd.ntmps79
  go_wp2
  go_returns
  exact ⟨rfl, (by repeat' (first | (with_reducible exact Below.refl _ _) | (with_reducible assumption) | (with_reducible refine Below.alloc ?_ ?_ _) | (with_reducible refine Below.drew ?_) | (with_reducible refine below_drewN ?_ _) | (with_reducible refine Below.setCell ?_ ?_ _) | (with_reducible refine below_setRow' ?_ ?_ _) | go_size))⟩
set_option maxHeartbeats 4000000 in
set_option maxRecDepth 100000 in
theorem asSlice_4 (hi lo : Int) (hl : 0 ≤ lo ∧ lo < 18446744073709551616) {b4 o4 : Nat} (w : World) (hg : G4 b4 o4 w) :
    Calls Tryd.prog 79 #[.agg #[.int .u64 hi, .int .u64 lo, .pointer (some ⟨b4, o4, none⟩)]] w (SlB w 4 (arr4 (b4of lo))) := by
  obtain ⟨z4, z0, s0, s1, s2, l4, c40, c41⟩ := hg
  go_enter Tryd.func79, Tryd.ntmps79
  go_wp2
  go_region_with (first | (go_at_call 132; refine (putU32 _ _ _ lo hl _ (by rw [IntKind.wrap_u32]) _ (by omega) zb (by go_simp)).mono ?_; rintro e w' ⟨rfl, rfl⟩))
  go_wp2
  go_returns
  exact ⟨w.heap.size + 1, by omega, rfl, by go_simp, (by repeat' (first | (with_reducible exact Below.refl _ _) | (with_reducible assumption) | (with_reducible refine Below.alloc ?_ ?_ _) | (with_reducible refine Below.drew ?_) | (with_reducible refine below_drewN ?_ _) | (with_reducible refine Below.setCell ?_ ?_ _) | (with_reducible refine below_setRow' ?_ ?_ _) | go_size))⟩
set_option maxHeartbeats 4000000 in
set_option maxRecDepth 100000 in
theorem asSlice_6 (hi lo : Int) (hh : 0 ≤ hi ∧ hi < 18446744073709551616) (hl : 0 ≤ lo ∧ lo < 18446744073709551616) {b4 o4 b6 o6 : Nat} (w : World) (hg : Gl b4 o4 b6 o6 w) :
    Calls Tryd.prog 79 #[.agg #[.int .u64 hi, .int .u64 lo, .pointer (some ⟨b6, o6, none⟩)]] w (SlB w 16 (arr16 (b16of hi lo))) := by
  obtain ⟨⟨z4, z0, s0, s1, s2, l4, c40, c41⟩, z6, zh, zh', l6, c60, c61⟩ := hg
  go_enter Tryd.func79, Tryd.ntmps79
  go_wp2
  go_region_with (first | (go_at_call 133; refine (putU64 _ _ _ _ hi hh _ (by omega) zb (by go_simp) (by omega)).mono ?_; rintro e w' ⟨rfl, rfl⟩))
  go_wp2
  go_region_with (first | (go_at_call 133; refine (putU64 _ _ _ _ lo hl _ (by omega) (put8 zb 0 hi) (by go_simp) (by omega)).mono ?_; rintro e w' ⟨rfl, rfl⟩))
  go_wp2
  go_returns
  exact ⟨w.heap.size + 1, by omega, rfl, by go_simp; exact put88 hi lo, (by repeat' (first | (with_reducible exact Below.refl _ _) | (with_reducible assumption) | (with_reducible refine Below.alloc ?_ ?_ _) | (with_reducible refine Below.drew ?_) | (with_reducible refine below_drewN ?_ _) | (with_reducible refine Below.setCell ?_ ?_ _) | (with_reducible refine below_setRow' ?_ ?_ _) | go_size))⟩
end Go.Proofs.YtmlkcgacneealaaDoor
