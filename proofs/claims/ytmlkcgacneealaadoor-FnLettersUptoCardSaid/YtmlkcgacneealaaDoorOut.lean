/- out: the plain address of a library address, for each family. Conditions: the listed variables as laid. -/
import Derived.Test.YtmlkcgacneealaaDoorSlc
set_option linter.unusedVariables false
set_option linter.unusedSimpArgs false
namespace Go.Proofs.YtmlkcgacneealaaDoor
open Go.RowKit
theorem info5 : (Tryd.prog.info? 5).map (·.size) = some 1 := by kernel_rfl
theorem copy0 (W : World) (g ty : Nat) : (Builtin.copy_ #[28, 28] ty #[.slice (some ⟨g, 1, none⟩) 16 16, .slice none 0 0]).run Tryd.prog W = .ok (goInt 0) W :=
  run_copy_nil Tryd.prog W 28 28 ty 5 ⟨g, 1, none⟩ 16 16 Tryd.underlying28 (by kernel_rfl)
theorem copy4 (W : World) (g g' ty : Nat) (n : Int) (z : ByteArray) (c : Nat → Int) (hc0 : ∀ i, 4 ≤ i → c i = 0) (h1 : blk? W g = some (adr n zb z)) (h2 : blk? W g' = some (arr4 c)) :
    (Builtin.copy_ #[28, 28] ty #[.slice (some ⟨g, 1, none⟩) 16 16, .slice (some ⟨g', 0, none⟩) 4 4]).run Tryd.prog W = .ok (goInt 4) (W.setRow g (adr n c z)) := by
  obtain ⟨t, ht⟩ := of_blk? h1
  have h := run_copy_row (P := Tryd.prog) W 28 28 ty 5 g 1 16 16 ⟨g', 0, none⟩ 4 4 (adr n zb z) t (arr4 c).toList Tryd.underlying28 info5 ht rfl (fun j v hv => by
    have hadd : (⟨g', 0, none⟩ : Addr).add j = ⟨g', j, none⟩ := by unfold Addr.add; split <;> simp_all
    rw [hadd, blk?_cell h2]
    simpa using hv) (by simp [adr, arr4]) (fun v hv => (Array.all_eq_true_iff_forall_mem.1 (arr4_one c)) v (by simpa using hv))
  have e : ((adr n zb z).toList.take 1 ++ (arr4 c).toList ++ (adr n zb z).toList.drop (1 + (arr4 c).toList.length)).toArray = adr n c z := by
    unfold adr arr4 zb
    simp [hc0 4 (by omega), hc0 5 (by omega), hc0 6 (by omega), hc0 7 (by omega), hc0 8 (by omega), hc0 9 (by omega), hc0 10 (by omega), hc0 11 (by omega), hc0 12 (by omega), hc0 13 (by omega), hc0 14 (by omega), hc0 15 (by omega)]
  rw [e] at h
  exact h
theorem copy16 (W : World) (g g' ty : Nat) (n : Int) (z : ByteArray) (c : Nat → Int) (hc0 : ∀ i, 16 ≤ i → c i = 0) (h1 : blk? W g = some (adr n zb z)) (h2 : blk? W g' = some (arr16 c)) :
    (Builtin.copy_ #[28, 28] ty #[.slice (some ⟨g, 1, none⟩) 16 16, .slice (some ⟨g', 0, none⟩) 16 16]).run Tryd.prog W = .ok (goInt 16) (W.setRow g (adr n c z)) := by
  obtain ⟨t, ht⟩ := of_blk? h1
  have h := run_copy_row (P := Tryd.prog) W 28 28 ty 5 g 1 16 16 ⟨g', 0, none⟩ 16 16 (adr n zb z) t (arr16 c).toList Tryd.underlying28 info5 ht rfl (fun j v hv => by
    have hadd : (⟨g', 0, none⟩ : Addr).add j = ⟨g', j, none⟩ := by unfold Addr.add; split <;> simp_all
    rw [hadd, blk?_cell h2]
    simpa using hv) (by simp [adr, arr16]) (fun v hv => (Array.all_eq_true_iff_forall_mem.1 (arr16_one c)) v (by simpa using hv))
  have e : ((adr n zb z).toList.take 1 ++ (arr16 c).toList ++ (adr n zb z).toList.drop (1 + (arr16 c).toList.length)).toArray = adr n c z := by
    unfold adr arr16 zb
    simp []
  rw [e] at h
  exact h
theorem b4of_hi (lo : Int) (i : Nat) (h : 4 ≤ i) : b4of lo i = 0 := by unfold b4of; rw [if_neg (by omega)]
theorem b16of_hi (hi lo : Int) (i : Nat) (h : 16 ≤ i) : b16of hi lo i = 0 := by unfold b16of; rw [if_neg (by omega), if_neg (by omega)]
set_option maxHeartbeats 4000000 in
set_option maxRecDepth 100000 in
theorem out_0 (hi lo : Int) {b4 o4 : Nat} (w : World) (hg : G4 b4 o4 w) :
    Calls Tryd.prog 69 #[.agg #[.int .u64 hi, .int .u64 lo, .pointer none]] w fun e w' => e = .returned (.agg (adr 0 (zb) ⟨#[]⟩)) ∧ Below w.heap.size w w' := by
  have HG := Lib.hid hg
  obtain ⟨z4, z0, s0, s1, s2, l4, c40, c41⟩ := hg
  go_enter Tryd.func69, Tryd.ntmps69
  go_upto_region 1 with fail
  go_cut [3] (fun s3 wx => ∃ g : Nat, w.heap.size + 1 < g ∧ s3 = .pointer (some ⟨g, 0, none⟩) ∧ blk? wx w.heap.size = some #[.int .u64 hi, .int .u64 lo, .pointer none] ∧ blk? wx (w.heap.size + 1) = some (adr 0 zb ⟨#[]⟩) ∧ blk? wx g = some (adr 0 zb ⟨#[]⟩) ∧ Below w.heap.size w wx)
  case first =>
    go_region_held3 (fun w' => w'.cell? ⟨w.heap.size, 0, none⟩ = some (.int .u64 hi) ∧ w'.cell? ⟨w.heap.size, 1, none⟩ = some (.int .u64 lo) ∧ w'.cell? ⟨w.heap.size, 2, none⟩ = some (.pointer none)) (first | (refine ⟨?_, ?_, ?_⟩ <;> go_simp)) (first
      | (go_at_call 128; refine (bitLen_0 (b4 := b4) (o4 := o4) hi lo _ ?_).mono ?_; (exact HG.out.below (by repeat' (first | (with_reducible exact Below.refl _ _) | (with_reducible assumption) | (with_reducible refine Below.alloc ?_ ?_ _) | (with_reducible refine Below.drew ?_) | (with_reducible refine below_drewN ?_ _) | (with_reducible refine Below.setCell ?_ ?_ _) | (with_reducible refine below_setRow' ?_ ?_ _) | go_size)) (Nat.le_refl _)); rintro e w1 ⟨rfl, hb1⟩; obtain ⟨hc1, hf1⟩ := bcell hb1; have hk1 := blk?_below hb1; (try simp only [size_drew', size_drewN'] at hk1); (try simp only [size_drew', size_drewN'] at hc1); (try simp only [size_drew', size_drewN'] at hf1); have hB1 := below_via (w := w) (by repeat' (first | (with_reducible exact Below.refl _ _) | (with_reducible assumption) | (with_reducible refine Below.alloc ?_ ?_ _) | (with_reducible refine Below.drew ?_) | (with_reducible refine below_drewN ?_ _) | (with_reducible refine Below.setCell ?_ ?_ _) | (with_reducible refine below_setRow' ?_ ?_ _) | go_size)) hb1; have hL1 : w.heap.size + 1 < w1.heap.size := (by have hS0 := hb1.size; (try simp at hS0); omega); have hL0 : w.heap.size < w1.heap.size := (by omega); have hL3 : w.heap.size ≤ w1.heap.size := (by omega); (try (have hL2 : w.heap.size + 1 + 1 < w1.heap.size := (by have hS0 := hb1.size; (try simp at hS0); omega))); clear hb1)
      | (go_at_call 129; refine (zone_0 (b4 := b4) (o4 := o4) hi lo _ ?_).mono ?_; (exact HG.out.below (by repeat' (first | (with_reducible exact Below.refl _ _) | (with_reducible assumption) | (with_reducible refine Below.alloc ?_ ?_ _) | (with_reducible refine Below.drew ?_) | (with_reducible refine below_drewN ?_ _) | (with_reducible refine Below.setCell ?_ ?_ _) | (with_reducible refine below_setRow' ?_ ?_ _) | go_size)) (Nat.le_refl _)); rintro e w1 ⟨rfl, hb1⟩; obtain ⟨hc1, hf1⟩ := bcell hb1; have hk1 := blk?_below hb1; (try simp only [size_drew', size_drewN'] at hk1); (try simp only [size_drew', size_drewN'] at hc1); (try simp only [size_drew', size_drewN'] at hf1); have hB1 := below_via (w := w) (by repeat' (first | (with_reducible exact Below.refl _ _) | (with_reducible assumption) | (with_reducible refine Below.alloc ?_ ?_ _) | (with_reducible refine Below.drew ?_) | (with_reducible refine below_drewN ?_ _) | (with_reducible refine Below.setCell ?_ ?_ _) | (with_reducible refine below_setRow' ?_ ?_ _) | go_size)) hb1; have hL1 : w.heap.size + 1 < w1.heap.size := (by have hS0 := hb1.size; (try simp at hS0); omega); have hL0 : w.heap.size < w1.heap.size := (by omega); have hL3 : w.heap.size ≤ w1.heap.size := (by omega); (try (have hL2 : w.heap.size + 1 + 1 < w1.heap.size := (by have hS0 := hb1.size; (try simp at hS0); omega))); clear hb1))
    all_goals (go_wp2_with fail; go_meet; refine ⟨_, ?_, rfl, ?_, ?_, ?_, (by repeat' (first | (with_reducible exact Below.refl _ _) | (with_reducible assumption) | (with_reducible refine Below.alloc ?_ ?_ _) | (with_reducible refine Below.drew ?_) | (with_reducible refine below_drewN ?_ _) | (with_reducible refine Below.setCell ?_ ?_ _) | (with_reducible refine below_setRow' ?_ ?_ _) | go_size))⟩)
    all_goals first | omega | go_simp
  case rest =>
    obtain ⟨g, hgl, rfl, h1, h2, h3, hB⟩ := hcut
    have HGc := Lib.hid (HG.out.below hB (Nat.le_refl _))
    have hL := hB.size
    have hgL := blk?_lt h3
    have hgL1 := blk?_lt h1
    have hgL2 := blk?_lt h2
    have hgn : w.heap.size < g := by omega
    have hc1 := blk?_cell h1
    have hf2 := blk?_frozen h2
    have hf3 := blk?_frozen h3
    have hcp := fun (W : World) (ty : Nat) => copy0 W g ty
    go_wp2_with fail
    go_region_with (first
      | (go_at_call 79; refine (asSlice_0 (b4 := b4) (o4 := o4) hi lo _ ?_).mono ?_; (exact HGc.out.drew); rintro e w1 ⟨rfl, hb1⟩; have hk1 := blk?_below hb1; (try simp only [size_drew', size_drewN'] at hk1); have hB1 := below_via (w := w) (by repeat' (first | (with_reducible exact Below.refl _ _) | (with_reducible assumption) | (with_reducible refine Below.alloc ?_ ?_ _) | (with_reducible refine Below.drew ?_) | (with_reducible refine below_drewN ?_ _) | (with_reducible refine Below.setCell ?_ ?_ _) | (with_reducible refine below_setRow' ?_ ?_ _) | go_size)) hb1; have hL3 : w.heap.size ≤ w1.heap.size := hB1.size; have hL4 := hb1.size; (try simp at hL4); clear hb1))
    go_wp2
    refine bodyPost_ret (res29 Tryd.results69 _ _ (w.heap.size + 1) _ rfl ?_ rfl) rfl ⟨rfl, (by repeat' (first | (with_reducible exact Below.refl _ _) | (with_reducible assumption) | (with_reducible refine Below.alloc ?_ ?_ _) | (with_reducible refine Below.drew ?_) | (with_reducible refine below_drewN ?_ _) | (with_reducible refine Below.setCell ?_ ?_ _) | (with_reducible refine below_setRow' ?_ ?_ _) | go_size))⟩
    go_simp
set_option maxHeartbeats 4000000 in
set_option maxRecDepth 100000 in
theorem out_4 (hi lo : Int) (hl : 0 ≤ lo ∧ lo < 18446744073709551616) {b4 o4 : Nat} (w : World) (hg : G4 b4 o4 w) :
    Calls Tryd.prog 69 #[.agg #[.int .u64 hi, .int .u64 lo, .pointer (some ⟨b4, o4, none⟩)]] w fun e w' => e = .returned (.agg (adr 4 (b4of lo) ⟨#[]⟩)) ∧ Below w.heap.size w w' := by
  have HG := Lib.hid hg
  obtain ⟨z4, z0, s0, s1, s2, l4, c40, c41⟩ := hg
  go_enter Tryd.func69, Tryd.ntmps69
  go_upto_region 1 with fail
  go_cut [3] (fun s3 wx => ∃ g : Nat, w.heap.size + 1 < g ∧ s3 = .pointer (some ⟨g, 0, none⟩) ∧ blk? wx w.heap.size = some #[.int .u64 hi, .int .u64 lo, .pointer (some ⟨b4, o4, none⟩)] ∧ blk? wx (w.heap.size + 1) = some (adr 0 zb ⟨#[]⟩) ∧ blk? wx g = some (adr 4 zb ⟨#[]⟩) ∧ Below w.heap.size w wx)
  case first =>
    go_region_held3 (fun w' => w'.cell? ⟨w.heap.size, 0, none⟩ = some (.int .u64 hi) ∧ w'.cell? ⟨w.heap.size, 1, none⟩ = some (.int .u64 lo) ∧ w'.cell? ⟨w.heap.size, 2, none⟩ = some (.pointer (some ⟨b4, o4, none⟩))) (first | (refine ⟨?_, ?_, ?_⟩ <;> go_simp)) (first
      | (go_at_call 128; refine (bitLen_4 (b4 := b4) (o4 := o4) hi lo _ ?_).mono ?_; (exact HG.out.below (by repeat' (first | (with_reducible exact Below.refl _ _) | (with_reducible assumption) | (with_reducible refine Below.alloc ?_ ?_ _) | (with_reducible refine Below.drew ?_) | (with_reducible refine below_drewN ?_ _) | (with_reducible refine Below.setCell ?_ ?_ _) | (with_reducible refine below_setRow' ?_ ?_ _) | go_size)) (Nat.le_refl _)); rintro e w1 ⟨rfl, hb1⟩; obtain ⟨hc1, hf1⟩ := bcell hb1; have hk1 := blk?_below hb1; (try simp only [size_drew', size_drewN'] at hk1); (try simp only [size_drew', size_drewN'] at hc1); (try simp only [size_drew', size_drewN'] at hf1); have hB1 := below_via (w := w) (by repeat' (first | (with_reducible exact Below.refl _ _) | (with_reducible assumption) | (with_reducible refine Below.alloc ?_ ?_ _) | (with_reducible refine Below.drew ?_) | (with_reducible refine below_drewN ?_ _) | (with_reducible refine Below.setCell ?_ ?_ _) | (with_reducible refine below_setRow' ?_ ?_ _) | go_size)) hb1; have hL1 : w.heap.size + 1 < w1.heap.size := (by have hS0 := hb1.size; (try simp at hS0); omega); have hL0 : w.heap.size < w1.heap.size := (by omega); have hL3 : w.heap.size ≤ w1.heap.size := (by omega); (try (have hL2 : w.heap.size + 1 + 1 < w1.heap.size := (by have hS0 := hb1.size; (try simp at hS0); omega))); clear hb1)
      | (go_at_call 129; refine (zone_4 (b4 := b4) (o4 := o4) hi lo _ ?_).mono ?_; (exact HG.out.below (by repeat' (first | (with_reducible exact Below.refl _ _) | (with_reducible assumption) | (with_reducible refine Below.alloc ?_ ?_ _) | (with_reducible refine Below.drew ?_) | (with_reducible refine below_drewN ?_ _) | (with_reducible refine Below.setCell ?_ ?_ _) | (with_reducible refine below_setRow' ?_ ?_ _) | go_size)) (Nat.le_refl _)); rintro e w1 ⟨rfl, hb1⟩; obtain ⟨hc1, hf1⟩ := bcell hb1; have hk1 := blk?_below hb1; (try simp only [size_drew', size_drewN'] at hk1); (try simp only [size_drew', size_drewN'] at hc1); (try simp only [size_drew', size_drewN'] at hf1); have hB1 := below_via (w := w) (by repeat' (first | (with_reducible exact Below.refl _ _) | (with_reducible assumption) | (with_reducible refine Below.alloc ?_ ?_ _) | (with_reducible refine Below.drew ?_) | (with_reducible refine below_drewN ?_ _) | (with_reducible refine Below.setCell ?_ ?_ _) | (with_reducible refine below_setRow' ?_ ?_ _) | go_size)) hb1; have hL1 : w.heap.size + 1 < w1.heap.size := (by have hS0 := hb1.size; (try simp at hS0); omega); have hL0 : w.heap.size < w1.heap.size := (by omega); have hL3 : w.heap.size ≤ w1.heap.size := (by omega); (try (have hL2 : w.heap.size + 1 + 1 < w1.heap.size := (by have hS0 := hb1.size; (try simp at hS0); omega))); clear hb1))
    all_goals (go_wp2_with fail; go_meet; refine ⟨_, ?_, rfl, ?_, ?_, ?_, (by repeat' (first | (with_reducible exact Below.refl _ _) | (with_reducible assumption) | (with_reducible refine Below.alloc ?_ ?_ _) | (with_reducible refine Below.drew ?_) | (with_reducible refine below_drewN ?_ _) | (with_reducible refine Below.setCell ?_ ?_ _) | (with_reducible refine below_setRow' ?_ ?_ _) | go_size))⟩)
    all_goals first | omega | go_simp
  case rest =>
    obtain ⟨g, hgl, rfl, h1, h2, h3, hB⟩ := hcut
    have HGc := Lib.hid (HG.out.below hB (Nat.le_refl _))
    have hL := hB.size
    have hgL := blk?_lt h3
    have hgL1 := blk?_lt h1
    have hgL2 := blk?_lt h2
    have hgn : w.heap.size < g := by omega
    have hc1 := blk?_cell h1
    have hf2 := blk?_frozen h2
    have hf3 := blk?_frozen h3
    have hcp := fun (W : World) (g' ty : Nat) => copy4 W g g' ty 4 ⟨#[]⟩ (b4of lo) (b4of_hi lo)
    go_wp2_with fail
    go_region_with (first
      | (go_at_call 79; refine (asSlice_4 (b4 := b4) (o4 := o4) hi lo hl _ ?_).mono ?_; (exact HGc.out.drew); rintro e w1 ⟨g', hg', rfl, hk', hb1⟩; have hk1 := blk?_below hb1; (try simp only [size_drew', size_drewN'] at hk1); have hB1 := below_via (w := w) (by repeat' (first | (with_reducible exact Below.refl _ _) | (with_reducible assumption) | (with_reducible refine Below.alloc ?_ ?_ _) | (with_reducible refine Below.drew ?_) | (with_reducible refine below_drewN ?_ _) | (with_reducible refine Below.setCell ?_ ?_ _) | (with_reducible refine below_setRow' ?_ ?_ _) | go_size)) hb1; have hL3 : w.heap.size ≤ w1.heap.size := hB1.size; have hL4 := hb1.size; (try simp at hL4); clear hb1))
    go_wp2
    refine bodyPost_ret (res29 Tryd.results69 _ _ (w.heap.size + 1) _ rfl ?_ rfl) rfl ⟨rfl, (by repeat' (first | (with_reducible exact Below.refl _ _) | (with_reducible assumption) | (with_reducible refine Below.alloc ?_ ?_ _) | (with_reducible refine Below.drew ?_) | (with_reducible refine below_drewN ?_ _) | (with_reducible refine Below.setCell ?_ ?_ _) | (with_reducible refine below_setRow' ?_ ?_ _) | go_size))⟩
    go_simp
set_option maxHeartbeats 4000000 in
set_option maxRecDepth 100000 in
theorem out_6 (hi lo : Int) (hh : 0 ≤ hi ∧ hi < 18446744073709551616) (hl : 0 ≤ lo ∧ lo < 18446744073709551616) {b4 o4 b6 o6 : Nat} (w : World) (hg : Gl b4 o4 b6 o6 w) :
    Calls Tryd.prog 69 #[.agg #[.int .u64 hi, .int .u64 lo, .pointer (some ⟨b6, o6, none⟩)]] w fun e w' => e = .returned (.agg (adr 16 (b16of hi lo) ⟨#[]⟩)) ∧ Below w.heap.size w w' := by
  have HG := Lib.hid hg
  obtain ⟨⟨z4, z0, s0, s1, s2, l4, c40, c41⟩, z6, zh, zh', l6, c60, c61⟩ := hg
  go_enter Tryd.func69, Tryd.ntmps69
  go_upto_region 1 with fail
  go_cut [3] (fun s3 wx => ∃ g : Nat, w.heap.size + 1 < g ∧ s3 = .pointer (some ⟨g, 0, none⟩) ∧ blk? wx w.heap.size = some #[.int .u64 hi, .int .u64 lo, .pointer (some ⟨b6, o6, none⟩)] ∧ blk? wx (w.heap.size + 1) = some (adr 0 zb ⟨#[]⟩) ∧ blk? wx g = some (adr 16 zb ⟨#[]⟩) ∧ Below w.heap.size w wx)
  case first =>
    go_region_held3 (fun w' => w'.cell? ⟨w.heap.size, 0, none⟩ = some (.int .u64 hi) ∧ w'.cell? ⟨w.heap.size, 1, none⟩ = some (.int .u64 lo) ∧ w'.cell? ⟨w.heap.size, 2, none⟩ = some (.pointer (some ⟨b6, o6, none⟩))) (first | (refine ⟨?_, ?_, ?_⟩ <;> go_simp)) (first
      | (go_at_call 128; refine (bitLen_6 (b4 := b4) (o4 := o4) (b6 := b6) (o6 := o6) hi lo _ ?_).mono ?_; (exact HG.out.below (by repeat' (first | (with_reducible exact Below.refl _ _) | (with_reducible assumption) | (with_reducible refine Below.alloc ?_ ?_ _) | (with_reducible refine Below.drew ?_) | (with_reducible refine below_drewN ?_ _) | (with_reducible refine Below.setCell ?_ ?_ _) | (with_reducible refine below_setRow' ?_ ?_ _) | go_size)) (Nat.le_refl _)); rintro e w1 ⟨rfl, hb1⟩; obtain ⟨hc1, hf1⟩ := bcell hb1; have hk1 := blk?_below hb1; (try simp only [size_drew', size_drewN'] at hk1); (try simp only [size_drew', size_drewN'] at hc1); (try simp only [size_drew', size_drewN'] at hf1); have hB1 := below_via (w := w) (by repeat' (first | (with_reducible exact Below.refl _ _) | (with_reducible assumption) | (with_reducible refine Below.alloc ?_ ?_ _) | (with_reducible refine Below.drew ?_) | (with_reducible refine below_drewN ?_ _) | (with_reducible refine Below.setCell ?_ ?_ _) | (with_reducible refine below_setRow' ?_ ?_ _) | go_size)) hb1; have hL1 : w.heap.size + 1 < w1.heap.size := (by have hS0 := hb1.size; (try simp at hS0); omega); have hL0 : w.heap.size < w1.heap.size := (by omega); have hL3 : w.heap.size ≤ w1.heap.size := (by omega); (try (have hL2 : w.heap.size + 1 + 1 < w1.heap.size := (by have hS0 := hb1.size; (try simp at hS0); omega))); clear hb1)
      | (go_at_call 129; refine (zone_6 (b4 := b4) (o4 := o4) (b6 := b6) (o6 := o6) hi lo _ ?_).mono ?_; (exact HG.out.below (by repeat' (first | (with_reducible exact Below.refl _ _) | (with_reducible assumption) | (with_reducible refine Below.alloc ?_ ?_ _) | (with_reducible refine Below.drew ?_) | (with_reducible refine below_drewN ?_ _) | (with_reducible refine Below.setCell ?_ ?_ _) | (with_reducible refine below_setRow' ?_ ?_ _) | go_size)) (Nat.le_refl _)); rintro e w1 ⟨rfl, hb1⟩; obtain ⟨hc1, hf1⟩ := bcell hb1; have hk1 := blk?_below hb1; (try simp only [size_drew', size_drewN'] at hk1); (try simp only [size_drew', size_drewN'] at hc1); (try simp only [size_drew', size_drewN'] at hf1); have hB1 := below_via (w := w) (by repeat' (first | (with_reducible exact Below.refl _ _) | (with_reducible assumption) | (with_reducible refine Below.alloc ?_ ?_ _) | (with_reducible refine Below.drew ?_) | (with_reducible refine below_drewN ?_ _) | (with_reducible refine Below.setCell ?_ ?_ _) | (with_reducible refine below_setRow' ?_ ?_ _) | go_size)) hb1; have hL1 : w.heap.size + 1 < w1.heap.size := (by have hS0 := hb1.size; (try simp at hS0); omega); have hL0 : w.heap.size < w1.heap.size := (by omega); have hL3 : w.heap.size ≤ w1.heap.size := (by omega); (try (have hL2 : w.heap.size + 1 + 1 < w1.heap.size := (by have hS0 := hb1.size; (try simp at hS0); omega))); clear hb1))
    all_goals (go_wp2_with fail; go_meet; refine ⟨_, ?_, rfl, ?_, ?_, ?_, (by repeat' (first | (with_reducible exact Below.refl _ _) | (with_reducible assumption) | (with_reducible refine Below.alloc ?_ ?_ _) | (with_reducible refine Below.drew ?_) | (with_reducible refine below_drewN ?_ _) | (with_reducible refine Below.setCell ?_ ?_ _) | (with_reducible refine below_setRow' ?_ ?_ _) | go_size))⟩)
    all_goals first | omega | go_simp
  case rest =>
    obtain ⟨g, hgl, rfl, h1, h2, h3, hB⟩ := hcut
    have HGc := Lib.hid (HG.out.below hB (Nat.le_refl _))
    have hL := hB.size
    have hgL := blk?_lt h3
    have hgL1 := blk?_lt h1
    have hgL2 := blk?_lt h2
    have hgn : w.heap.size < g := by omega
    have hc1 := blk?_cell h1
    have hf2 := blk?_frozen h2
    have hf3 := blk?_frozen h3
    have hcp := fun (W : World) (g' ty : Nat) => copy16 W g g' ty 16 ⟨#[]⟩ (b16of hi lo) (b16of_hi hi lo)
    go_wp2_with fail
    go_region_with (first
      | (go_at_call 79; refine (asSlice_6 (b4 := b4) (o4 := o4) (b6 := b6) (o6 := o6) hi lo hh hl _ ?_).mono ?_; (exact HGc.out.drew); rintro e w1 ⟨g', hg', rfl, hk', hb1⟩; have hk1 := blk?_below hb1; (try simp only [size_drew', size_drewN'] at hk1); have hB1 := below_via (w := w) (by repeat' (first | (with_reducible exact Below.refl _ _) | (with_reducible assumption) | (with_reducible refine Below.alloc ?_ ?_ _) | (with_reducible refine Below.drew ?_) | (with_reducible refine below_drewN ?_ _) | (with_reducible refine Below.setCell ?_ ?_ _) | (with_reducible refine below_setRow' ?_ ?_ _) | go_size)) hb1; have hL3 : w.heap.size ≤ w1.heap.size := hB1.size; have hL4 := hb1.size; (try simp at hL4); clear hb1))
    go_wp2
    refine bodyPost_ret (res29 Tryd.results69 _ _ (w.heap.size + 1) _ rfl ?_ rfl) rfl ⟨rfl, (by repeat' (first | (with_reducible exact Below.refl _ _) | (with_reducible assumption) | (with_reducible refine Below.alloc ?_ ?_ _) | (with_reducible refine Below.drew ?_) | (with_reducible refine below_drewN ?_ _) | (with_reducible refine Below.setCell ?_ ?_ _) | (with_reducible refine below_setRow' ?_ ?_ _) | go_size))⟩
    go_simp
end Go.Proofs.YtmlkcgacneealaaDoor
