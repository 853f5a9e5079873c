/- IsGlobalUnicast of IPv4 and IPv4-mapped addresses; FnKindsOfUnmapped returns true. Conditions: the listed variables as laid. -/
import Derived.Test.YtmlkcgacneealaaDoorKindsD
import Derived.Test.YtmlkcgacneealaaDoorLawE
set_option linter.unusedVariables false
set_option linter.unusedSimpArgs false
namespace Go.Proofs.YtmlkcgacneealaaDoor
open Go.RowKit

/-- The bytes of 255.255.255.255. -/
def ffb : Nat → Int := upd (upd (upd (upd zb 0 255) 1 255) 2 255) 3 255
theorem Bt_ffb : Bt ffb := fun i => by unfold ffb upd zb; (repeat' split) <;> omega
theorem be4f_ffb : be4f ffb 0 = 4294967295 := by unfold be4f be4 ffb upd zb; simp
theorem build22_ff (w : World) : (Instr.build 22 #[(0, .int .u8 255), (1, .int .u8 255), (2, .int .u8 255), (3, .int .u8 255)]).run Tryd.prog w = .ok (.agg (arr4 ffb)) w := by kernel_rfl
attribute [go_sem ↓] build22_ff
attribute [go_sem 3000] build22_ff
theorem afr4_ff {b4 o4 : Nat} (w : World) (hg : G4 b4 o4 w) : Calls Tryd.prog 70 #[.agg (arr4 (upd (upd (upd (upd zb 0 255) 1 255) 2 255) 3 255))] w fun e w' => e = .returned (.agg #[.int .u64 0, .int .u64 281474976710655, .pointer (some ⟨b4, o4, none⟩)]) ∧ Below w.heap.size w w' := by
  have h := addrFrom4 ffb Bt_ffb w hg
  rw [be4f_ffb] at h; exact h
/-- What IsGlobalUnicast says of an IPv4 address. -/
def gu4 (lo : Int) : Bool := !(lo == 281470681743360) && !(lo == 281474976710655) && !kLo4 lo && !kMu4 lo && !kLU4 lo
theorem kLoop_4v (hi lo : Int) (v : Bool) (hv : kLo4 lo = v) (hhi : 0 ≤ hi ∧ hi < 18446744073709551616) (hlo : 0 ≤ lo ∧ lo < 18446744073709551616) {b4 o4 : Nat} (w : World) (hg : G4 b4 o4 w) :
    Calls Tryd.prog 113 #[.agg #[.int .u64 (hi), .int .u64 (lo), .pointer (some ⟨b4, o4, none⟩)]] w fun e w' => e = .returned (.bool v) ∧ Below w.heap.size w w' := by
  rw [← hv]; exact kLoop_4 hi lo hhi hlo w hg
theorem kMult_4v (hi lo : Int) (v : Bool) (hv : kMu4 lo = v) (hhi : 0 ≤ hi ∧ hi < 18446744073709551616) (hlo : 0 ≤ lo ∧ lo < 18446744073709551616) {b4 o4 : Nat} (w : World) (hg : G4 b4 o4 w) :
    Calls Tryd.prog 140 #[.agg #[.int .u64 (hi), .int .u64 (lo), .pointer (some ⟨b4, o4, none⟩)]] w fun e w' => e = .returned (.bool v) ∧ Below w.heap.size w w' := by
  rw [← hv]; exact kMult_4 hi lo hhi hlo w hg
theorem kLLU_4v (hi lo : Int) (v : Bool) (hv : kLU4 lo = v) (hhi : 0 ≤ hi ∧ hi < 18446744073709551616) (hlo : 0 ≤ lo ∧ lo < 18446744073709551616) {b4 o4 : Nat} (w : World) (hg : G4 b4 o4 w) :
    Calls Tryd.prog 142 #[.agg #[.int .u64 (hi), .int .u64 (lo), .pointer (some ⟨b4, o4, none⟩)]] w fun e w' => e = .returned (.bool v) ∧ Below w.heap.size w w' := by
  rw [← hv]; exact kLLU_4 hi lo hhi hlo w hg
set_option maxHeartbeats 4000000 in
set_option maxRecDepth 100000 in
theorem gu_4U (lo : Int) (hlo : 0 ≤ lo ∧ lo < 18446744073709551616) (h : lo = 281470681743360) {b4 o4 b6 o6 : Nat} (w : World) (hg : Gl b4 o4 b6 o6 w) :
    Calls Tryd.prog 127 #[.agg #[.int .u64 (0), .int .u64 (lo), .pointer (some ⟨b4, o4, none⟩)]] w fun e w' => e = .returned (.bool false) ∧ Below w.heap.size w w' := by
  have HG := Lib.hid hg
  have hhi : (0 : Int) ≤ 0 ∧ (0 : Int) < 18446744073709551616 := by omega
  subst h
  obtain ⟨⟨z4, z0, s0, s1, s2, l4, c40, c41⟩, z6, zh, zh', l6, c60, c61⟩ := hg
  go_enter Tryd.func127, Tryd.ntmps127
  go_wp2_with (first
    | (go_at_call 90; (with_reducible refine (is4In6_4 (b4 := b4) (o4 := o4) _ _ _ ?_).mono ?_); (exact HG.out.g4.below (by repeat' (first | (with_reducible exact Below.refl _ _) | (with_reducible assumption) | (with_reducible refine Below.alloc ?_ ?_ _) | (with_reducible refine Below.drew ?_) | (with_reducible refine below_drewN ?_ _) | (with_reducible refine Below.setCell ?_ ?_ _) | (with_reducible refine below_setRow' ?_ ?_ _) | go_size)) (Nat.le_refl _)); rintro e w1 ⟨rfl, hb1⟩; have hk1 := blk?_below hb1; (try simp only [size_drew', size_drewN'] at hk1); have hB1 := below_via (w := w) (by repeat' (first | (with_reducible exact Below.refl _ _) | (with_reducible assumption) | (with_reducible refine Below.alloc ?_ ?_ _) | (with_reducible refine Below.drew ?_) | (with_reducible refine below_drewN ?_ _) | (with_reducible refine Below.setCell ?_ ?_ _) | (with_reducible refine below_setRow' ?_ ?_ _) | go_size)) hb1; have hL0 : w.heap.size < w1.heap.size := (by have hS0 := hb1.size; (try simp at hS0); omega); have hLe : w.heap.size ≤ w1.heap.size := hB1.size; obtain ⟨hc1, hf1⟩ := bcell hb1; (try simp only [size_drew', size_drewN'] at hc1); (try simp only [size_drew', size_drewN'] at hf1); have hzA := Gl.zh (HG.out.below hB1 (Nat.le_refl _)); have hzB := Gl.zh' (HG.out.below hB1 (Nat.le_refl _)); clear hb1))
  refine wp_region_held_drew (S := fun w' => blk? w' (w.heap.size) = some (#[.int .u64 (0), .int .u64 (281470681743360), .pointer (some ⟨b4, o4, none⟩)]) ∧ Zh ⟨b4, o4, none⟩ ⟨b6, o6, none⟩ w' ∧ Zh ⟨b6, o6, none⟩ ⟨b4, o4, none⟩ w') (by kernel_rfl) ?_ (fun hHeld0 => ?_)
  · ((try dsimp only); (refine ⟨?_, ?_, ?_⟩ <;> (first | (exact Gl.zh (HG.out.below (by repeat' (first | (with_reducible exact Below.refl _ _) | (with_reducible assumption) | (with_reducible refine Below.alloc ?_ ?_ _) | (with_reducible refine Below.drew ?_) | (with_reducible refine below_drewN ?_ _) | (with_reducible refine Below.setCell ?_ ?_ _) | (with_reducible refine below_setRow' ?_ ?_ _) | go_size)) (Nat.le_refl _))) | (exact Gl.zh' (HG.out.below (by repeat' (first | (with_reducible exact Below.refl _ _) | (with_reducible assumption) | (with_reducible refine Below.alloc ?_ ?_ _) | (with_reducible refine Below.drew ?_) | (with_reducible refine below_drewN ?_ _) | (with_reducible refine Below.setCell ?_ ?_ _) | (with_reducible refine below_setRow' ?_ ?_ _) | go_size)) (Nat.le_refl _))) | go_simp)))
  refine wpAnyH_take (i := 0) (oi := _) (v := ?_) rfl (by kernel_rfl) (by kernel_rfl) (by kernel_rfl) (fun _ _ _ h => h) (Or.inl ⟨by rfl, ?_⟩) (by assumption) ?_
  rotate_left 1
  · (intro w hSw; (try dsimp only at hSw); (try simp only [List.getElem_toArray, List.getElem_cons_succ, List.getElem_cons_zero]); first | (go_simp; done) | (go_simp; with_reducible rfl))
  (try simp only [Act.put, List.setIfInBounds_toArray, List.set_cons_zero, List.set_cons_succ, List.getElem_toArray, List.getElem_cons_succ, List.getElem_cons_zero])
  refine wpAnyH_ready (rs := [1]) (by kernel_rfl) (by simp) (AllReadyH.cons rfl (fun K hK => ?_) AllReadyH.nil)
  go_simp
  go_wp2_with (first
    | (go_at_call 134; (with_reducible refine (is4_4 (b4 := b4) (o4 := o4) _ _ _ ?_).mono ?_); (exact HG.out.g4.below (by repeat' (first | (with_reducible exact Below.refl _ _) | (with_reducible assumption) | (with_reducible refine Below.alloc ?_ ?_ _) | (with_reducible refine Below.drew ?_) | (with_reducible refine below_drewN ?_ _) | (with_reducible refine Below.setCell ?_ ?_ _) | (with_reducible refine below_setRow' ?_ ?_ _) | go_size)) (Nat.le_refl _)); rintro e w1 ⟨rfl, hb1⟩; have hk1 := blk?_below hb1; (try simp only [size_drew', size_drewN'] at hk1); have hB1 := below_via (w := w) (by repeat' (first | (with_reducible exact Below.refl _ _) | (with_reducible assumption) | (with_reducible refine Below.alloc ?_ ?_ _) | (with_reducible refine Below.drew ?_) | (with_reducible refine below_drewN ?_ _) | (with_reducible refine Below.setCell ?_ ?_ _) | (with_reducible refine below_setRow' ?_ ?_ _) | go_size)) hb1; have hL0 : w.heap.size < w1.heap.size := (by have hS0 := hb1.size; (try simp at hS0); omega); have hLe : w.heap.size ≤ w1.heap.size := hB1.size; obtain ⟨hc1, hf1⟩ := bcell hb1; (try simp only [size_drew', size_drewN'] at hc1); (try simp only [size_drew', size_drewN'] at hf1); have hzA := Gl.zh (HG.out.below hB1 (Nat.le_refl _)); have hzB := Gl.zh' (HG.out.below hB1 (Nat.le_refl _)); clear hb1))
  refine hK.out _ _ ?_ (fun hHeld1 => ?_)
  · ((try dsimp only); (refine ⟨?_, ?_, ?_⟩ <;> (first | (exact Gl.zh (HG.out.below (by repeat' (first | (with_reducible exact Below.refl _ _) | (with_reducible assumption) | (with_reducible refine Below.alloc ?_ ?_ _) | (with_reducible refine Below.drew ?_) | (with_reducible refine below_drewN ?_ _) | (with_reducible refine Below.setCell ?_ ?_ _) | (with_reducible refine below_setRow' ?_ ?_ _) | go_size)) (Nat.le_refl _))) | (exact Gl.zh' (HG.out.below (by repeat' (first | (with_reducible exact Below.refl _ _) | (with_reducible assumption) | (with_reducible refine Below.alloc ?_ ?_ _) | (with_reducible refine Below.drew ?_) | (with_reducible refine below_drewN ?_ _) | (with_reducible refine Below.setCell ?_ ?_ _) | (with_reducible refine below_setRow' ?_ ?_ _) | go_size)) (Nat.le_refl _))) | go_simp)))
  clear hK K hHeld0
  (try simp only [Act.put, List.setIfInBounds_toArray, List.set_cons_zero, List.set_cons_succ, List.getElem_toArray, List.getElem_cons_succ, List.getElem_cons_zero])
  refine wpAnyH_take (i := 2) (oi := _) (v := ?_) rfl (by kernel_rfl) (by kernel_rfl) (by kernel_rfl) (fun _ _ _ h => h) (Or.inl ⟨by rfl, ?_⟩) (by assumption) ?_
  rotate_left 1
  · (intro w hSw; (try dsimp only at hSw); (try simp only [List.getElem_toArray, List.getElem_cons_succ, List.getElem_cons_zero]); first | (go_simp; done) | (go_simp; with_reducible rfl))
  (try simp only [Act.put, List.setIfInBounds_toArray, List.set_cons_zero, List.set_cons_succ, List.getElem_toArray, List.getElem_cons_succ, List.getElem_cons_zero])
  refine wpAnyH_take (i := 3) (oi := _) (v := ?_) rfl (by kernel_rfl) (by kernel_rfl) (by kernel_rfl) (fun _ _ _ h => h) (Or.inl ⟨by rfl, ?_⟩) (by assumption) ?_
  rotate_left 1
  · (intro w hSw; (try dsimp only at hSw); (try simp only [List.getElem_toArray, List.getElem_cons_succ, List.getElem_cons_zero]); first | (go_simp; done) | (go_simp; with_reducible rfl))
  (try simp only [Act.put, List.setIfInBounds_toArray, List.set_cons_zero, List.set_cons_succ, List.getElem_toArray, List.getElem_cons_succ, List.getElem_cons_zero])
  refine wpAnyH_ready (rs := [4]) (by kernel_rfl) (by simp) (AllReadyH.cons rfl (fun K hK => ?_) AllReadyH.nil)
  go_simp
  go_wp2_with (first
    | (go_at_call 73; (with_reducible refine (unsp4 (b4 := b4) (o4 := o4) _ ?_).mono ?_); (exact HG.out.g4.below (by repeat' (first | (with_reducible exact Below.refl _ _) | (with_reducible assumption) | (with_reducible refine Below.alloc ?_ ?_ _) | (with_reducible refine Below.drew ?_) | (with_reducible refine below_drewN ?_ _) | (with_reducible refine Below.setCell ?_ ?_ _) | (with_reducible refine below_setRow' ?_ ?_ _) | go_size)) (Nat.le_refl _)); rintro e w1 ⟨rfl, hb1⟩; have hk1 := blk?_below hb1; (try simp only [size_drew', size_drewN'] at hk1); have hB1 := below_via (w := w) (by repeat' (first | (with_reducible exact Below.refl _ _) | (with_reducible assumption) | (with_reducible refine Below.alloc ?_ ?_ _) | (with_reducible refine Below.drew ?_) | (with_reducible refine below_drewN ?_ _) | (with_reducible refine Below.setCell ?_ ?_ _) | (with_reducible refine below_setRow' ?_ ?_ _) | go_size)) hb1; have hL0 : w.heap.size < w1.heap.size := (by have hS0 := hb1.size; (try simp at hS0); omega); have hLe : w.heap.size ≤ w1.heap.size := hB1.size; obtain ⟨hc1, hf1⟩ := bcell hb1; (try simp only [size_drew', size_drewN'] at hc1); (try simp only [size_drew', size_drewN'] at hf1); have hzA := Gl.zh (HG.out.below hB1 (Nat.le_refl _)); have hzB := Gl.zh' (HG.out.below hB1 (Nat.le_refl _)); clear hb1))
  refine hK.out _ _ ?_ (fun hHeld2 => ?_)
  · ((try dsimp only); (refine ⟨?_, ?_, ?_⟩ <;> (first | (exact Gl.zh (HG.out.below (by repeat' (first | (with_reducible exact Below.refl _ _) | (with_reducible assumption) | (with_reducible refine Below.alloc ?_ ?_ _) | (with_reducible refine Below.drew ?_) | (with_reducible refine below_drewN ?_ _) | (with_reducible refine Below.setCell ?_ ?_ _) | (with_reducible refine below_setRow' ?_ ?_ _) | go_size)) (Nat.le_refl _))) | (exact Gl.zh' (HG.out.below (by repeat' (first | (with_reducible exact Below.refl _ _) | (with_reducible assumption) | (with_reducible refine Below.alloc ?_ ?_ _) | (with_reducible refine Below.drew ?_) | (with_reducible refine below_drewN ?_ _) | (with_reducible refine Below.setCell ?_ ?_ _) | (with_reducible refine below_setRow' ?_ ?_ _) | go_size)) (Nat.le_refl _))) | go_simp)))
  clear hK K hHeld1
  (try simp only [Act.put, List.setIfInBounds_toArray, List.set_cons_zero, List.set_cons_succ, List.getElem_toArray, List.getElem_cons_succ, List.getElem_cons_zero])
  refine wpAnyH_take (i := 5) (oi := _) (v := ?_) rfl (by kernel_rfl) (by kernel_rfl) (by kernel_rfl) (fun _ _ _ h => h) (Or.inl ⟨by rfl, ?_⟩) (by assumption) ?_
  rotate_left 1
  · (intro w hSw; (try dsimp only at hSw); (try simp only [List.getElem_toArray, List.getElem_cons_succ, List.getElem_cons_zero]); first | (go_simp; done) | (go_simp; with_reducible rfl))
  (try simp only [Act.put, List.setIfInBounds_toArray, List.set_cons_zero, List.set_cons_succ, List.getElem_toArray, List.getElem_cons_succ, List.getElem_cons_zero])
  refine wpAnyH_take (i := 6) (oi := _) (v := ?_) rfl (by kernel_rfl) (by kernel_rfl) (by kernel_rfl) (fun _ _ _ h => h) (Or.inl ⟨by rfl, ?_⟩) (by assumption) ?_
  rotate_left 1
  · (intro w hSw; (try dsimp only at hSw); (try simp only [List.getElem_toArray, List.getElem_cons_succ, List.getElem_cons_zero]); first | (go_simp; done) | (go_simp; with_reducible rfl))
  (try simp only [Act.put, List.setIfInBounds_toArray, List.set_cons_zero, List.set_cons_succ, List.getElem_toArray, List.getElem_cons_succ, List.getElem_cons_zero])
  refine wpAnyH_take (i := 7) (oi := _) (v := undef) rfl (by kernel_rfl) (by kernel_rfl) (by kernel_rfl) (fun _ _ _ h => h) (Or.inr ⟨by rfl, rfl⟩) (by assumption) ?_
  (try simp only [Act.put, List.setIfInBounds_toArray, List.set_cons_zero, List.set_cons_succ, List.getElem_toArray, List.getElem_cons_succ, List.getElem_cons_zero])
  refine wpAnyH_take (i := 8) (oi := _) (v := undef) rfl (by kernel_rfl) (by kernel_rfl) (by kernel_rfl) (fun _ _ _ h => h) (Or.inr ⟨by rfl, rfl⟩) (by assumption) ?_
  (try simp only [Act.put, List.setIfInBounds_toArray, List.set_cons_zero, List.set_cons_succ, List.getElem_toArray, List.getElem_cons_succ, List.getElem_cons_zero])
  refine wpAnyH_ready (rs := [9]) (by kernel_rfl) (by simp) (AllReadyH.cons rfl (fun K hK => ?_) AllReadyH.nil)
  go_simp
  refine hK.out _ _ ?_ (fun hHeld3 => ?_)
  · ((try dsimp only); (refine ⟨?_, ?_, ?_⟩ <;> (first | (exact Gl.zh (HG.out.below (by repeat' (first | (with_reducible exact Below.refl _ _) | (with_reducible assumption) | (with_reducible refine Below.alloc ?_ ?_ _) | (with_reducible refine Below.drew ?_) | (with_reducible refine below_drewN ?_ _) | (with_reducible refine Below.setCell ?_ ?_ _) | (with_reducible refine below_setRow' ?_ ?_ _) | go_size)) (Nat.le_refl _))) | (exact Gl.zh' (HG.out.below (by repeat' (first | (with_reducible exact Below.refl _ _) | (with_reducible assumption) | (with_reducible refine Below.alloc ?_ ?_ _) | (with_reducible refine Below.drew ?_) | (with_reducible refine below_drewN ?_ _) | (with_reducible refine Below.setCell ?_ ?_ _) | (with_reducible refine below_setRow' ?_ ?_ _) | go_size)) (Nat.le_refl _))) | go_simp)))
  clear hK K hHeld2
  (try simp only [Act.put, List.setIfInBounds_toArray, List.set_cons_zero, List.set_cons_succ, List.getElem_toArray, List.getElem_cons_succ, List.getElem_cons_zero])
  refine wpAnyH_take (i := 10) (oi := _) (v := undef) rfl (by kernel_rfl) (by kernel_rfl) (by kernel_rfl) (fun _ _ _ h => h) (Or.inr ⟨by rfl, rfl⟩) (by assumption) ?_
  (try simp only [Act.put, List.setIfInBounds_toArray, List.set_cons_zero, List.set_cons_succ, List.getElem_toArray, List.getElem_cons_succ, List.getElem_cons_zero])
  refine wpAnyH_take (i := 11) (oi := _) (v := ?_) rfl (by kernel_rfl) (by kernel_rfl) (by kernel_rfl) (fun _ _ _ h => h) (Or.inl ⟨by rfl, ?_⟩) (by assumption) ?_
  rotate_left 1
  · (intro w hSw; (try dsimp only at hSw); (try simp only [List.getElem_toArray, List.getElem_cons_succ, List.getElem_cons_zero]); first | (go_simp; done) | (go_simp; with_reducible rfl))
  (try simp only [Act.put, List.setIfInBounds_toArray, List.set_cons_zero, List.set_cons_succ, List.getElem_toArray, List.getElem_cons_succ, List.getElem_cons_zero])
  refine wpAnyH_take (i := 12) (oi := _) (v := ?_) rfl (by kernel_rfl) (by kernel_rfl) (by kernel_rfl) (fun _ _ _ h => h) (Or.inl ⟨by rfl, ?_⟩) (by assumption) ?_
  rotate_left 1
  · (intro w hSw; (try dsimp only at hSw); (try simp only [List.getElem_toArray, List.getElem_cons_succ, List.getElem_cons_zero]); first | (go_simp; done) | (go_simp; with_reducible rfl))
  (try simp only [Act.put, List.setIfInBounds_toArray, List.set_cons_zero, List.set_cons_succ, List.getElem_toArray, List.getElem_cons_succ, List.getElem_cons_zero])
  refine wpAnyH_done (by kernel_rfl) ?_ _
  go_wp2_with fail
  go_ret
  exact ⟨rfl, (by repeat' (first | (with_reducible exact Below.refl _ _) | (with_reducible assumption) | (with_reducible refine Below.alloc ?_ ?_ _) | (with_reducible refine Below.drew ?_) | (with_reducible refine below_drewN ?_ _) | (with_reducible refine Below.setCell ?_ ?_ _) | (with_reducible refine below_setRow' ?_ ?_ _) | go_size))⟩
set_option maxHeartbeats 4000000 in
set_option maxRecDepth 100000 in
theorem gu_4F (lo : Int) (hlo : 0 ≤ lo ∧ lo < 18446744073709551616) (h : lo = 281474976710655) {b4 o4 b6 o6 : Nat} (w : World) (hg : Gl b4 o4 b6 o6 w) :
    Calls Tryd.prog 127 #[.agg #[.int .u64 (0), .int .u64 (lo), .pointer (some ⟨b4, o4, none⟩)]] w fun e w' => e = .returned (.bool false) ∧ Below w.heap.size w w' := by
  have HG := Lib.hid hg
  have hhi : (0 : Int) ≤ 0 ∧ (0 : Int) < 18446744073709551616 := by omega
  subst h
  obtain ⟨⟨z4, z0, s0, s1, s2, l4, c40, c41⟩, z6, zh, zh', l6, c60, c61⟩ := hg
  go_enter Tryd.func127, Tryd.ntmps127
  go_wp2_with (first
    | (go_at_call 90; (with_reducible refine (is4In6_4 (b4 := b4) (o4 := o4) _ _ _ ?_).mono ?_); (exact HG.out.g4.below (by repeat' (first | (with_reducible exact Below.refl _ _) | (with_reducible assumption) | (with_reducible refine Below.alloc ?_ ?_ _) | (with_reducible refine Below.drew ?_) | (with_reducible refine below_drewN ?_ _) | (with_reducible refine Below.setCell ?_ ?_ _) | (with_reducible refine below_setRow' ?_ ?_ _) | go_size)) (Nat.le_refl _)); rintro e w1 ⟨rfl, hb1⟩; have hk1 := blk?_below hb1; (try simp only [size_drew', size_drewN'] at hk1); have hB1 := below_via (w := w) (by repeat' (first | (with_reducible exact Below.refl _ _) | (with_reducible assumption) | (with_reducible refine Below.alloc ?_ ?_ _) | (with_reducible refine Below.drew ?_) | (with_reducible refine below_drewN ?_ _) | (with_reducible refine Below.setCell ?_ ?_ _) | (with_reducible refine below_setRow' ?_ ?_ _) | go_size)) hb1; have hL0 : w.heap.size < w1.heap.size := (by have hS0 := hb1.size; (try simp at hS0); omega); have hLe : w.heap.size ≤ w1.heap.size := hB1.size; obtain ⟨hc1, hf1⟩ := bcell hb1; (try simp only [size_drew', size_drewN'] at hc1); (try simp only [size_drew', size_drewN'] at hf1); have hzA := Gl.zh (HG.out.below hB1 (Nat.le_refl _)); have hzB := Gl.zh' (HG.out.below hB1 (Nat.le_refl _)); clear hb1))
  refine wp_region_held_drew (S := fun w' => blk? w' (w.heap.size) = some (#[.int .u64 (0), .int .u64 (281474976710655), .pointer (some ⟨b4, o4, none⟩)]) ∧ Zh ⟨b4, o4, none⟩ ⟨b6, o6, none⟩ w' ∧ Zh ⟨b6, o6, none⟩ ⟨b4, o4, none⟩ w') (by kernel_rfl) ?_ (fun hHeld0 => ?_)
  · ((try dsimp only); (refine ⟨?_, ?_, ?_⟩ <;> (first | (exact Gl.zh (HG.out.below (by repeat' (first | (with_reducible exact Below.refl _ _) | (with_reducible assumption) | (with_reducible refine Below.alloc ?_ ?_ _) | (with_reducible refine Below.drew ?_) | (with_reducible refine below_drewN ?_ _) | (with_reducible refine Below.setCell ?_ ?_ _) | (with_reducible refine below_setRow' ?_ ?_ _) | go_size)) (Nat.le_refl _))) | (exact Gl.zh' (HG.out.below (by repeat' (first | (with_reducible exact Below.refl _ _) | (with_reducible assumption) | (with_reducible refine Below.alloc ?_ ?_ _) | (with_reducible refine Below.drew ?_) | (with_reducible refine below_drewN ?_ _) | (with_reducible refine Below.setCell ?_ ?_ _) | (with_reducible refine below_setRow' ?_ ?_ _) | go_size)) (Nat.le_refl _))) | go_simp)))
  refine wpAnyH_take (i := 0) (oi := _) (v := ?_) rfl (by kernel_rfl) (by kernel_rfl) (by kernel_rfl) (fun _ _ _ h => h) (Or.inl ⟨by rfl, ?_⟩) (by assumption) ?_
  rotate_left 1
  · (intro w hSw; (try dsimp only at hSw); (try simp only [List.getElem_toArray, List.getElem_cons_succ, List.getElem_cons_zero]); first | (go_simp; done) | (go_simp; with_reducible rfl))
  (try simp only [Act.put, List.setIfInBounds_toArray, List.set_cons_zero, List.set_cons_succ, List.getElem_toArray, List.getElem_cons_succ, List.getElem_cons_zero])
  refine wpAnyH_ready (rs := [1]) (by kernel_rfl) (by simp) (AllReadyH.cons rfl (fun K hK => ?_) AllReadyH.nil)
  go_simp
  go_wp2_with (first
    | (go_at_call 134; (with_reducible refine (is4_4 (b4 := b4) (o4 := o4) _ _ _ ?_).mono ?_); (exact HG.out.g4.below (by repeat' (first | (with_reducible exact Below.refl _ _) | (with_reducible assumption) | (with_reducible refine Below.alloc ?_ ?_ _) | (with_reducible refine Below.drew ?_) | (with_reducible refine below_drewN ?_ _) | (with_reducible refine Below.setCell ?_ ?_ _) | (with_reducible refine below_setRow' ?_ ?_ _) | go_size)) (Nat.le_refl _)); rintro e w1 ⟨rfl, hb1⟩; have hk1 := blk?_below hb1; (try simp only [size_drew', size_drewN'] at hk1); have hB1 := below_via (w := w) (by repeat' (first | (with_reducible exact Below.refl _ _) | (with_reducible assumption) | (with_reducible refine Below.alloc ?_ ?_ _) | (with_reducible refine Below.drew ?_) | (with_reducible refine below_drewN ?_ _) | (with_reducible refine Below.setCell ?_ ?_ _) | (with_reducible refine below_setRow' ?_ ?_ _) | go_size)) hb1; have hL0 : w.heap.size < w1.heap.size := (by have hS0 := hb1.size; (try simp at hS0); omega); have hLe : w.heap.size ≤ w1.heap.size := hB1.size; obtain ⟨hc1, hf1⟩ := bcell hb1; (try simp only [size_drew', size_drewN'] at hc1); (try simp only [size_drew', size_drewN'] at hf1); have hzA := Gl.zh (HG.out.below hB1 (Nat.le_refl _)); have hzB := Gl.zh' (HG.out.below hB1 (Nat.le_refl _)); clear hb1))
  refine hK.out _ _ ?_ (fun hHeld1 => ?_)
  · ((try dsimp only); (refine ⟨?_, ?_, ?_⟩ <;> (first | (exact Gl.zh (HG.out.below (by repeat' (first | (with_reducible exact Below.refl _ _) | (with_reducible assumption) | (with_reducible refine Below.alloc ?_ ?_ _) | (with_reducible refine Below.drew ?_) | (with_reducible refine below_drewN ?_ _) | (with_reducible refine Below.setCell ?_ ?_ _) | (with_reducible refine below_setRow' ?_ ?_ _) | go_size)) (Nat.le_refl _))) | (exact Gl.zh' (HG.out.below (by repeat' (first | (with_reducible exact Below.refl _ _) | (with_reducible assumption) | (with_reducible refine Below.alloc ?_ ?_ _) | (with_reducible refine Below.drew ?_) | (with_reducible refine below_drewN ?_ _) | (with_reducible refine Below.setCell ?_ ?_ _) | (with_reducible refine below_setRow' ?_ ?_ _) | go_size)) (Nat.le_refl _))) | go_simp)))
  clear hK K hHeld0
  (try simp only [Act.put, List.setIfInBounds_toArray, List.set_cons_zero, List.set_cons_succ, List.getElem_toArray, List.getElem_cons_succ, List.getElem_cons_zero])
  refine wpAnyH_take (i := 2) (oi := _) (v := ?_) rfl (by kernel_rfl) (by kernel_rfl) (by kernel_rfl) (fun _ _ _ h => h) (Or.inl ⟨by rfl, ?_⟩) (by assumption) ?_
  rotate_left 1
  · (intro w hSw; (try dsimp only at hSw); (try simp only [List.getElem_toArray, List.getElem_cons_succ, List.getElem_cons_zero]); first | (go_simp; done) | (go_simp; with_reducible rfl))
  (try simp only [Act.put, List.setIfInBounds_toArray, List.set_cons_zero, List.set_cons_succ, List.getElem_toArray, List.getElem_cons_succ, List.getElem_cons_zero])
  refine wpAnyH_take (i := 3) (oi := _) (v := ?_) rfl (by kernel_rfl) (by kernel_rfl) (by kernel_rfl) (fun _ _ _ h => h) (Or.inl ⟨by rfl, ?_⟩) (by assumption) ?_
  rotate_left 1
  · (intro w hSw; (try dsimp only at hSw); (try simp only [List.getElem_toArray, List.getElem_cons_succ, List.getElem_cons_zero]); first | (go_simp; done) | (go_simp; with_reducible rfl))
  (try simp only [Act.put, List.setIfInBounds_toArray, List.set_cons_zero, List.set_cons_succ, List.getElem_toArray, List.getElem_cons_succ, List.getElem_cons_zero])
  refine wpAnyH_ready (rs := [4]) (by kernel_rfl) (by simp) (AllReadyH.cons rfl (fun K hK => ?_) AllReadyH.nil)
  go_simp
  go_wp2_with (first
    | (go_at_call 73; (with_reducible refine (unsp4 (b4 := b4) (o4 := o4) _ ?_).mono ?_); (exact HG.out.g4.below (by repeat' (first | (with_reducible exact Below.refl _ _) | (with_reducible assumption) | (with_reducible refine Below.alloc ?_ ?_ _) | (with_reducible refine Below.drew ?_) | (with_reducible refine below_drewN ?_ _) | (with_reducible refine Below.setCell ?_ ?_ _) | (with_reducible refine below_setRow' ?_ ?_ _) | go_size)) (Nat.le_refl _)); rintro e w1 ⟨rfl, hb1⟩; have hk1 := blk?_below hb1; (try simp only [size_drew', size_drewN'] at hk1); have hB1 := below_via (w := w) (by repeat' (first | (with_reducible exact Below.refl _ _) | (with_reducible assumption) | (with_reducible refine Below.alloc ?_ ?_ _) | (with_reducible refine Below.drew ?_) | (with_reducible refine below_drewN ?_ _) | (with_reducible refine Below.setCell ?_ ?_ _) | (with_reducible refine below_setRow' ?_ ?_ _) | go_size)) hb1; have hL0 : w.heap.size < w1.heap.size := (by have hS0 := hb1.size; (try simp at hS0); omega); have hLe : w.heap.size ≤ w1.heap.size := hB1.size; obtain ⟨hc1, hf1⟩ := bcell hb1; (try simp only [size_drew', size_drewN'] at hc1); (try simp only [size_drew', size_drewN'] at hf1); have hzA := Gl.zh (HG.out.below hB1 (Nat.le_refl _)); have hzB := Gl.zh' (HG.out.below hB1 (Nat.le_refl _)); clear hb1))
  refine hK.out _ _ ?_ (fun hHeld2 => ?_)
  · ((try dsimp only); (refine ⟨?_, ?_, ?_⟩ <;> (first | (exact Gl.zh (HG.out.below (by repeat' (first | (with_reducible exact Below.refl _ _) | (with_reducible assumption) | (with_reducible refine Below.alloc ?_ ?_ _) | (with_reducible refine Below.drew ?_) | (with_reducible refine below_drewN ?_ _) | (with_reducible refine Below.setCell ?_ ?_ _) | (with_reducible refine below_setRow' ?_ ?_ _) | go_size)) (Nat.le_refl _))) | (exact Gl.zh' (HG.out.below (by repeat' (first | (with_reducible exact Below.refl _ _) | (with_reducible assumption) | (with_reducible refine Below.alloc ?_ ?_ _) | (with_reducible refine Below.drew ?_) | (with_reducible refine below_drewN ?_ _) | (with_reducible refine Below.setCell ?_ ?_ _) | (with_reducible refine below_setRow' ?_ ?_ _) | go_size)) (Nat.le_refl _))) | go_simp)))
  clear hK K hHeld1
  (try simp only [Act.put, List.setIfInBounds_toArray, List.set_cons_zero, List.set_cons_succ, List.getElem_toArray, List.getElem_cons_succ, List.getElem_cons_zero])
  refine wpAnyH_take (i := 5) (oi := _) (v := ?_) rfl (by kernel_rfl) (by kernel_rfl) (by kernel_rfl) (fun _ _ _ h => h) (Or.inl ⟨by rfl, ?_⟩) (by assumption) ?_
  rotate_left 1
  · (intro w hSw; (try dsimp only at hSw); (try simp only [List.getElem_toArray, List.getElem_cons_succ, List.getElem_cons_zero]); first | (go_simp; done) | (go_simp; with_reducible rfl))
  (try simp only [Act.put, List.setIfInBounds_toArray, List.set_cons_zero, List.set_cons_succ, List.getElem_toArray, List.getElem_cons_succ, List.getElem_cons_zero])
  refine wpAnyH_take (i := 6) (oi := _) (v := ?_) rfl (by kernel_rfl) (by kernel_rfl) (by kernel_rfl) (fun _ _ _ h => h) (Or.inl ⟨by rfl, ?_⟩) (by assumption) ?_
  rotate_left 1
  · (intro w hSw; (try dsimp only at hSw); (try simp only [List.getElem_toArray, List.getElem_cons_succ, List.getElem_cons_zero]); first | (go_simp; done) | (go_simp; with_reducible rfl))
  (try simp only [Act.put, List.setIfInBounds_toArray, List.set_cons_zero, List.set_cons_succ, List.getElem_toArray, List.getElem_cons_succ, List.getElem_cons_zero])
  refine wpAnyH_take (i := 7) (oi := _) (v := ?_) rfl (by kernel_rfl) (by kernel_rfl) (by kernel_rfl) (fun _ _ _ h => h) (Or.inl ⟨by rfl, ?_⟩) (by assumption) ?_
  rotate_left 1
  · (intro w hSw; (try dsimp only at hSw); (try simp only [List.getElem_toArray, List.getElem_cons_succ, List.getElem_cons_zero]); first | (go_simp; done) | (go_simp; with_reducible rfl))
  (try simp only [Act.put, List.setIfInBounds_toArray, List.set_cons_zero, List.set_cons_succ, List.getElem_toArray, List.getElem_cons_succ, List.getElem_cons_zero])
  refine wpAnyH_take (i := 8) (oi := _) (v := ?_) rfl (by kernel_rfl) (by kernel_rfl) (by kernel_rfl) (fun _ _ _ h => h) (Or.inl ⟨by rfl, ?_⟩) (by assumption) ?_
  rotate_left 1
  · (intro w hSw; (try dsimp only at hSw); (try simp only [List.getElem_toArray, List.getElem_cons_succ, List.getElem_cons_zero]); first | (go_simp; done) | (go_simp; with_reducible rfl))
  (try simp only [Act.put, List.setIfInBounds_toArray, List.set_cons_zero, List.set_cons_succ, List.getElem_toArray, List.getElem_cons_succ, List.getElem_cons_zero])
  refine wpAnyH_ready (rs := [9]) (by kernel_rfl) (by simp) (AllReadyH.cons rfl (fun K hK => ?_) AllReadyH.nil)
  go_simp
  go_wp2_with (first
    | (go_at_call 70; (with_reducible refine (afr4_ff (b4 := b4) (o4 := o4) _ ?_).mono ?_); (exact HG.out.g4.below (by repeat' (first | (with_reducible exact Below.refl _ _) | (with_reducible assumption) | (with_reducible refine Below.alloc ?_ ?_ _) | (with_reducible refine Below.drew ?_) | (with_reducible refine below_drewN ?_ _) | (with_reducible refine Below.setCell ?_ ?_ _) | (with_reducible refine below_setRow' ?_ ?_ _) | go_size)) (Nat.le_refl _)); rintro e w1 ⟨rfl, hb1⟩; have hk1 := blk?_below hb1; (try simp only [size_drew', size_drewN'] at hk1); have hB1 := below_via (w := w) (by repeat' (first | (with_reducible exact Below.refl _ _) | (with_reducible assumption) | (with_reducible refine Below.alloc ?_ ?_ _) | (with_reducible refine Below.drew ?_) | (with_reducible refine below_drewN ?_ _) | (with_reducible refine Below.setCell ?_ ?_ _) | (with_reducible refine below_setRow' ?_ ?_ _) | go_size)) hb1; have hL0 : w.heap.size < w1.heap.size := (by have hS0 := hb1.size; (try simp at hS0); omega); have hLe : w.heap.size ≤ w1.heap.size := hB1.size; obtain ⟨hc1, hf1⟩ := bcell hb1; (try simp only [size_drew', size_drewN'] at hc1); (try simp only [size_drew', size_drewN'] at hf1); have hzA := Gl.zh (HG.out.below hB1 (Nat.le_refl _)); have hzB := Gl.zh' (HG.out.below hB1 (Nat.le_refl _)); clear hb1))
  refine hK.out _ _ ?_ (fun hHeld3 => ?_)
  · ((try dsimp only); (refine ⟨?_, ?_, ?_⟩ <;> (first | (exact Gl.zh (HG.out.below (by repeat' (first | (with_reducible exact Below.refl _ _) | (with_reducible assumption) | (with_reducible refine Below.alloc ?_ ?_ _) | (with_reducible refine Below.drew ?_) | (with_reducible refine below_drewN ?_ _) | (with_reducible refine Below.setCell ?_ ?_ _) | (with_reducible refine below_setRow' ?_ ?_ _) | go_size)) (Nat.le_refl _))) | (exact Gl.zh' (HG.out.below (by repeat' (first | (with_reducible exact Below.refl _ _) | (with_reducible assumption) | (with_reducible refine Below.alloc ?_ ?_ _) | (with_reducible refine Below.drew ?_) | (with_reducible refine below_drewN ?_ _) | (with_reducible refine Below.setCell ?_ ?_ _) | (with_reducible refine below_setRow' ?_ ?_ _) | go_size)) (Nat.le_refl _))) | go_simp)))
  clear hK K hHeld2
  (try simp only [Act.put, List.setIfInBounds_toArray, List.set_cons_zero, List.set_cons_succ, List.getElem_toArray, List.getElem_cons_succ, List.getElem_cons_zero])
  refine wpAnyH_take (i := 10) (oi := _) (v := ?_) rfl (by kernel_rfl) (by kernel_rfl) (by kernel_rfl) (fun _ _ _ h => h) (Or.inl ⟨by rfl, ?_⟩) (by assumption) ?_
  rotate_left 1
  · (intro w hSw; (try dsimp only at hSw); (try simp only [List.getElem_toArray, List.getElem_cons_succ, List.getElem_cons_zero]); first | (go_simp; done) | (go_simp; with_reducible rfl))
  (try simp only [Act.put, List.setIfInBounds_toArray, List.set_cons_zero, List.set_cons_succ, List.getElem_toArray, List.getElem_cons_succ, List.getElem_cons_zero])
  refine wpAnyH_take (i := 11) (oi := _) (v := ?_) rfl (by kernel_rfl) (by kernel_rfl) (by kernel_rfl) (fun _ _ _ h => h) (Or.inl ⟨by rfl, ?_⟩) (by assumption) ?_
  rotate_left 1
  · (intro w hSw; (try dsimp only at hSw); (try simp only [List.getElem_toArray, List.getElem_cons_succ, List.getElem_cons_zero]); first | (go_simp; done) | (go_simp; with_reducible rfl))
  (try simp only [Act.put, List.setIfInBounds_toArray, List.set_cons_zero, List.set_cons_succ, List.getElem_toArray, List.getElem_cons_succ, List.getElem_cons_zero])
  refine wpAnyH_take (i := 12) (oi := _) (v := ?_) rfl (by kernel_rfl) (by kernel_rfl) (by kernel_rfl) (fun _ _ _ h => h) (Or.inl ⟨by rfl, ?_⟩) (by assumption) ?_
  rotate_left 1
  · (intro w hSw; (try dsimp only at hSw); (try simp only [List.getElem_toArray, List.getElem_cons_succ, List.getElem_cons_zero]); first | (go_simp; done) | (go_simp; with_reducible rfl))
  (try simp only [Act.put, List.setIfInBounds_toArray, List.set_cons_zero, List.set_cons_succ, List.getElem_toArray, List.getElem_cons_succ, List.getElem_cons_zero])
  refine wpAnyH_done (by kernel_rfl) ?_ _
  go_wp2_with fail
  go_ret
  exact ⟨rfl, (by repeat' (first | (with_reducible exact Below.refl _ _) | (with_reducible assumption) | (with_reducible refine Below.alloc ?_ ?_ _) | (with_reducible refine Below.drew ?_) | (with_reducible refine below_drewN ?_ _) | (with_reducible refine Below.setCell ?_ ?_ _) | (with_reducible refine below_setRow' ?_ ?_ _) | go_size))⟩
set_option maxHeartbeats 4000000 in
set_option maxRecDepth 100000 in
theorem gu_4T (lo : Int) (hlo : 0 ≤ lo ∧ lo < 18446744073709551616) (h : lo ≠ 281470681743360) (h' : lo ≠ 281474976710655) (hv0 : kLo4 lo = true) {b4 o4 b6 o6 : Nat} (w : World) (hg : Gl b4 o4 b6 o6 w) :
    Calls Tryd.prog 127 #[.agg #[.int .u64 (0), .int .u64 (lo), .pointer (some ⟨b4, o4, none⟩)]] w fun e w' => e = .returned (.bool false) ∧ Below w.heap.size w w' := by
  have HG := Lib.hid hg
  have hhi : (0 : Int) ≤ 0 ∧ (0 : Int) < 18446744073709551616 := by omega
  have hE : (lo == 281470681743360) = false := beq_eq_false_iff_ne.2 h
  have hE' : (lo == 281474976710655) = false := beq_eq_false_iff_ne.2 h'
  have HV0 := Lib.hid hv0
  clear h h' hv0
  obtain ⟨⟨z4, z0, s0, s1, s2, l4, c40, c41⟩, z6, zh, zh', l6, c60, c61⟩ := hg
  go_enter Tryd.func127, Tryd.ntmps127
  go_wp2_with (first
    | (go_at_call 90; (with_reducible refine (is4In6_4 (b4 := b4) (o4 := o4) _ _ _ ?_).mono ?_); (exact HG.out.g4.below (by repeat' (first | (with_reducible exact Below.refl _ _) | (with_reducible assumption) | (with_reducible refine Below.alloc ?_ ?_ _) | (with_reducible refine Below.drew ?_) | (with_reducible refine below_drewN ?_ _) | (with_reducible refine Below.setCell ?_ ?_ _) | (with_reducible refine below_setRow' ?_ ?_ _) | go_size)) (Nat.le_refl _)); rintro e w1 ⟨rfl, hb1⟩; have hk1 := blk?_below hb1; (try simp only [size_drew', size_drewN'] at hk1); have hB1 := below_via (w := w) (by repeat' (first | (with_reducible exact Below.refl _ _) | (with_reducible assumption) | (with_reducible refine Below.alloc ?_ ?_ _) | (with_reducible refine Below.drew ?_) | (with_reducible refine below_drewN ?_ _) | (with_reducible refine Below.setCell ?_ ?_ _) | (with_reducible refine below_setRow' ?_ ?_ _) | go_size)) hb1; have hL0 : w.heap.size < w1.heap.size := (by have hS0 := hb1.size; (try simp at hS0); omega); have hLe : w.heap.size ≤ w1.heap.size := hB1.size; obtain ⟨hc1, hf1⟩ := bcell hb1; (try simp only [size_drew', size_drewN'] at hc1); (try simp only [size_drew', size_drewN'] at hf1); have hzA := Gl.zh (HG.out.below hB1 (Nat.le_refl _)); have hzB := Gl.zh' (HG.out.below hB1 (Nat.le_refl _)); clear hb1))
  refine wp_region_held_drew (S := fun w' => blk? w' (w.heap.size) = some (#[.int .u64 (0), .int .u64 (lo), .pointer (some ⟨b4, o4, none⟩)]) ∧ Zh ⟨b4, o4, none⟩ ⟨b6, o6, none⟩ w' ∧ Zh ⟨b6, o6, none⟩ ⟨b4, o4, none⟩ w') (by kernel_rfl) ?_ (fun hHeld0 => ?_)
  · ((try dsimp only); (refine ⟨?_, ?_, ?_⟩ <;> (first | (exact Gl.zh (HG.out.below (by repeat' (first | (with_reducible exact Below.refl _ _) | (with_reducible assumption) | (with_reducible refine Below.alloc ?_ ?_ _) | (with_reducible refine Below.drew ?_) | (with_reducible refine below_drewN ?_ _) | (with_reducible refine Below.setCell ?_ ?_ _) | (with_reducible refine below_setRow' ?_ ?_ _) | go_size)) (Nat.le_refl _))) | (exact Gl.zh' (HG.out.below (by repeat' (first | (with_reducible exact Below.refl _ _) | (with_reducible assumption) | (with_reducible refine Below.alloc ?_ ?_ _) | (with_reducible refine Below.drew ?_) | (with_reducible refine below_drewN ?_ _) | (with_reducible refine Below.setCell ?_ ?_ _) | (with_reducible refine below_setRow' ?_ ?_ _) | go_size)) (Nat.le_refl _))) | go_simp)))
  refine wpAnyH_take (i := 0) (oi := _) (v := ?_) rfl (by kernel_rfl) (by kernel_rfl) (by kernel_rfl) (fun _ _ _ h => h) (Or.inl ⟨by rfl, ?_⟩) (by assumption) ?_
  rotate_left 1
  · (intro w hSw; (try dsimp only at hSw); (try simp only [List.getElem_toArray, List.getElem_cons_succ, List.getElem_cons_zero]); first | (go_simp; done) | (go_simp; with_reducible rfl))
  (try simp only [Act.put, List.setIfInBounds_toArray, List.set_cons_zero, List.set_cons_succ, List.getElem_toArray, List.getElem_cons_succ, List.getElem_cons_zero])
  refine wpAnyH_ready (rs := [1]) (by kernel_rfl) (by simp) (AllReadyH.cons rfl (fun K hK => ?_) AllReadyH.nil)
  go_simp
  go_wp2_with (first
    | (go_at_call 134; (with_reducible refine (is4_4 (b4 := b4) (o4 := o4) _ _ _ ?_).mono ?_); (exact HG.out.g4.below (by repeat' (first | (with_reducible exact Below.refl _ _) | (with_reducible assumption) | (with_reducible refine Below.alloc ?_ ?_ _) | (with_reducible refine Below.drew ?_) | (with_reducible refine below_drewN ?_ _) | (with_reducible refine Below.setCell ?_ ?_ _) | (with_reducible refine below_setRow' ?_ ?_ _) | go_size)) (Nat.le_refl _)); rintro e w1 ⟨rfl, hb1⟩; have hk1 := blk?_below hb1; (try simp only [size_drew', size_drewN'] at hk1); have hB1 := below_via (w := w) (by repeat' (first | (with_reducible exact Below.refl _ _) | (with_reducible assumption) | (with_reducible refine Below.alloc ?_ ?_ _) | (with_reducible refine Below.drew ?_) | (with_reducible refine below_drewN ?_ _) | (with_reducible refine Below.setCell ?_ ?_ _) | (with_reducible refine below_setRow' ?_ ?_ _) | go_size)) hb1; have hL0 : w.heap.size < w1.heap.size := (by have hS0 := hb1.size; (try simp at hS0); omega); have hLe : w.heap.size ≤ w1.heap.size := hB1.size; obtain ⟨hc1, hf1⟩ := bcell hb1; (try simp only [size_drew', size_drewN'] at hc1); (try simp only [size_drew', size_drewN'] at hf1); have hzA := Gl.zh (HG.out.below hB1 (Nat.le_refl _)); have hzB := Gl.zh' (HG.out.below hB1 (Nat.le_refl _)); clear hb1))
  refine hK.out _ _ ?_ (fun hHeld1 => ?_)
  · ((try dsimp only); (refine ⟨?_, ?_, ?_⟩ <;> (first | (exact Gl.zh (HG.out.below (by repeat' (first | (with_reducible exact Below.refl _ _) | (with_reducible assumption) | (with_reducible refine Below.alloc ?_ ?_ _) | (with_reducible refine Below.drew ?_) | (with_reducible refine below_drewN ?_ _) | (with_reducible refine Below.setCell ?_ ?_ _) | (with_reducible refine below_setRow' ?_ ?_ _) | go_size)) (Nat.le_refl _))) | (exact Gl.zh' (HG.out.below (by repeat' (first | (with_reducible exact Below.refl _ _) | (with_reducible assumption) | (with_reducible refine Below.alloc ?_ ?_ _) | (with_reducible refine Below.drew ?_) | (with_reducible refine below_drewN ?_ _) | (with_reducible refine Below.setCell ?_ ?_ _) | (with_reducible refine below_setRow' ?_ ?_ _) | go_size)) (Nat.le_refl _))) | go_simp)))
  clear hK K hHeld0
  (try simp only [Act.put, List.setIfInBounds_toArray, List.set_cons_zero, List.set_cons_succ, List.getElem_toArray, List.getElem_cons_succ, List.getElem_cons_zero])
  refine wpAnyH_take (i := 2) (oi := _) (v := ?_) rfl (by kernel_rfl) (by kernel_rfl) (by kernel_rfl) (fun _ _ _ h => h) (Or.inl ⟨by rfl, ?_⟩) (by assumption) ?_
  rotate_left 1
  · (intro w hSw; (try dsimp only at hSw); (try simp only [List.getElem_toArray, List.getElem_cons_succ, List.getElem_cons_zero]); first | (go_simp; done) | (go_simp; with_reducible rfl))
  (try simp only [Act.put, List.setIfInBounds_toArray, List.set_cons_zero, List.set_cons_succ, List.getElem_toArray, List.getElem_cons_succ, List.getElem_cons_zero])
  refine wpAnyH_take (i := 3) (oi := _) (v := ?_) rfl (by kernel_rfl) (by kernel_rfl) (by kernel_rfl) (fun _ _ _ h => h) (Or.inl ⟨by rfl, ?_⟩) (by assumption) ?_
  rotate_left 1
  · (intro w hSw; (try dsimp only at hSw); (try simp only [List.getElem_toArray, List.getElem_cons_succ, List.getElem_cons_zero]); first | (go_simp; done) | (go_simp; with_reducible rfl))
  (try simp only [Act.put, List.setIfInBounds_toArray, List.set_cons_zero, List.set_cons_succ, List.getElem_toArray, List.getElem_cons_succ, List.getElem_cons_zero])
  refine wpAnyH_ready (rs := [4]) (by kernel_rfl) (by simp) (AllReadyH.cons rfl (fun K hK => ?_) AllReadyH.nil)
  go_simp
  go_wp2_with (first
    | (go_at_call 73; (with_reducible refine (unsp4 (b4 := b4) (o4 := o4) _ ?_).mono ?_); (exact HG.out.g4.below (by repeat' (first | (with_reducible exact Below.refl _ _) | (with_reducible assumption) | (with_reducible refine Below.alloc ?_ ?_ _) | (with_reducible refine Below.drew ?_) | (with_reducible refine below_drewN ?_ _) | (with_reducible refine Below.setCell ?_ ?_ _) | (with_reducible refine below_setRow' ?_ ?_ _) | go_size)) (Nat.le_refl _)); rintro e w1 ⟨rfl, hb1⟩; have hk1 := blk?_below hb1; (try simp only [size_drew', size_drewN'] at hk1); have hB1 := below_via (w := w) (by repeat' (first | (with_reducible exact Below.refl _ _) | (with_reducible assumption) | (with_reducible refine Below.alloc ?_ ?_ _) | (with_reducible refine Below.drew ?_) | (with_reducible refine below_drewN ?_ _) | (with_reducible refine Below.setCell ?_ ?_ _) | (with_reducible refine below_setRow' ?_ ?_ _) | go_size)) hb1; have hL0 : w.heap.size < w1.heap.size := (by have hS0 := hb1.size; (try simp at hS0); omega); have hLe : w.heap.size ≤ w1.heap.size := hB1.size; obtain ⟨hc1, hf1⟩ := bcell hb1; (try simp only [size_drew', size_drewN'] at hc1); (try simp only [size_drew', size_drewN'] at hf1); have hzA := Gl.zh (HG.out.below hB1 (Nat.le_refl _)); have hzB := Gl.zh' (HG.out.below hB1 (Nat.le_refl _)); clear hb1))
  refine hK.out _ _ ?_ (fun hHeld2 => ?_)
  · ((try dsimp only); (refine ⟨?_, ?_, ?_⟩ <;> (first | (exact Gl.zh (HG.out.below (by repeat' (first | (with_reducible exact Below.refl _ _) | (with_reducible assumption) | (with_reducible refine Below.alloc ?_ ?_ _) | (with_reducible refine Below.drew ?_) | (with_reducible refine below_drewN ?_ _) | (with_reducible refine Below.setCell ?_ ?_ _) | (with_reducible refine below_setRow' ?_ ?_ _) | go_size)) (Nat.le_refl _))) | (exact Gl.zh' (HG.out.below (by repeat' (first | (with_reducible exact Below.refl _ _) | (with_reducible assumption) | (with_reducible refine Below.alloc ?_ ?_ _) | (with_reducible refine Below.drew ?_) | (with_reducible refine below_drewN ?_ _) | (with_reducible refine Below.setCell ?_ ?_ _) | (with_reducible refine below_setRow' ?_ ?_ _) | go_size)) (Nat.le_refl _))) | go_simp)))
  clear hK K hHeld1
  (try simp only [Act.put, List.setIfInBounds_toArray, List.set_cons_zero, List.set_cons_succ, List.getElem_toArray, List.getElem_cons_succ, List.getElem_cons_zero])
  refine wpAnyH_take (i := 5) (oi := _) (v := ?_) rfl (by kernel_rfl) (by kernel_rfl) (by kernel_rfl) (fun _ _ _ h => h) (Or.inl ⟨by rfl, ?_⟩) (by assumption) ?_
  rotate_left 1
  · (intro w hSw; (try dsimp only at hSw); (try simp only [List.getElem_toArray, List.getElem_cons_succ, List.getElem_cons_zero]); first | (go_simp; done) | (go_simp; with_reducible rfl))
  (try simp only [Act.put, List.setIfInBounds_toArray, List.set_cons_zero, List.set_cons_succ, List.getElem_toArray, List.getElem_cons_succ, List.getElem_cons_zero])
  refine wpAnyH_take (i := 6) (oi := _) (v := ?_) rfl (by kernel_rfl) (by kernel_rfl) (by kernel_rfl) (fun _ _ _ h => h) (Or.inl ⟨by rfl, ?_⟩) (by assumption) ?_
  rotate_left 1
  · (intro w hSw; (try dsimp only at hSw); (try simp only [List.getElem_toArray, List.getElem_cons_succ, List.getElem_cons_zero]); first | (go_simp; done) | (go_simp; with_reducible rfl))
  (try simp only [Act.put, List.setIfInBounds_toArray, List.set_cons_zero, List.set_cons_succ, List.getElem_toArray, List.getElem_cons_succ, List.getElem_cons_zero])
  refine wpAnyH_take (i := 7) (oi := _) (v := ?_) rfl (by kernel_rfl) (by kernel_rfl) (by kernel_rfl) (fun _ _ _ h => h) (Or.inl ⟨by rfl, ?_⟩) (by assumption) ?_
  rotate_left 1
  · (intro w hSw; (try dsimp only at hSw); (try simp only [List.getElem_toArray, List.getElem_cons_succ, List.getElem_cons_zero]); first | (go_simp; done) | (go_simp; with_reducible rfl))
  (try simp only [Act.put, List.setIfInBounds_toArray, List.set_cons_zero, List.set_cons_succ, List.getElem_toArray, List.getElem_cons_succ, List.getElem_cons_zero])
  refine wpAnyH_take (i := 8) (oi := _) (v := ?_) rfl (by kernel_rfl) (by kernel_rfl) (by kernel_rfl) (fun _ _ _ h => h) (Or.inl ⟨by rfl, ?_⟩) (by assumption) ?_
  rotate_left 1
  · (intro w hSw; (try dsimp only at hSw); (try simp only [List.getElem_toArray, List.getElem_cons_succ, List.getElem_cons_zero]); first | (go_simp; done) | (go_simp; with_reducible rfl))
  (try simp only [Act.put, List.setIfInBounds_toArray, List.set_cons_zero, List.set_cons_succ, List.getElem_toArray, List.getElem_cons_succ, List.getElem_cons_zero])
  refine wpAnyH_ready (rs := [9]) (by kernel_rfl) (by simp) (AllReadyH.cons rfl (fun K hK => ?_) AllReadyH.nil)
  go_simp
  go_wp2_with (first
    | (go_at_call 70; (with_reducible refine (afr4_ff (b4 := b4) (o4 := o4) _ ?_).mono ?_); (exact HG.out.g4.below (by repeat' (first | (with_reducible exact Below.refl _ _) | (with_reducible assumption) | (with_reducible refine Below.alloc ?_ ?_ _) | (with_reducible refine Below.drew ?_) | (with_reducible refine below_drewN ?_ _) | (with_reducible refine Below.setCell ?_ ?_ _) | (with_reducible refine below_setRow' ?_ ?_ _) | go_size)) (Nat.le_refl _)); rintro e w1 ⟨rfl, hb1⟩; have hk1 := blk?_below hb1; (try simp only [size_drew', size_drewN'] at hk1); have hB1 := below_via (w := w) (by repeat' (first | (with_reducible exact Below.refl _ _) | (with_reducible assumption) | (with_reducible refine Below.alloc ?_ ?_ _) | (with_reducible refine Below.drew ?_) | (with_reducible refine below_drewN ?_ _) | (with_reducible refine Below.setCell ?_ ?_ _) | (with_reducible refine below_setRow' ?_ ?_ _) | go_size)) hb1; have hL0 : w.heap.size < w1.heap.size := (by have hS0 := hb1.size; (try simp at hS0); omega); have hLe : w.heap.size ≤ w1.heap.size := hB1.size; obtain ⟨hc1, hf1⟩ := bcell hb1; (try simp only [size_drew', size_drewN'] at hc1); (try simp only [size_drew', size_drewN'] at hf1); have hzA := Gl.zh (HG.out.below hB1 (Nat.le_refl _)); have hzB := Gl.zh' (HG.out.below hB1 (Nat.le_refl _)); clear hb1))
  refine hK.out _ _ ?_ (fun hHeld3 => ?_)
  · ((try dsimp only); (refine ⟨?_, ?_, ?_⟩ <;> (first | (exact Gl.zh (HG.out.below (by repeat' (first | (with_reducible exact Below.refl _ _) | (with_reducible assumption) | (with_reducible refine Below.alloc ?_ ?_ _) | (with_reducible refine Below.drew ?_) | (with_reducible refine below_drewN ?_ _) | (with_reducible refine Below.setCell ?_ ?_ _) | (with_reducible refine below_setRow' ?_ ?_ _) | go_size)) (Nat.le_refl _))) | (exact Gl.zh' (HG.out.below (by repeat' (first | (with_reducible exact Below.refl _ _) | (with_reducible assumption) | (with_reducible refine Below.alloc ?_ ?_ _) | (with_reducible refine Below.drew ?_) | (with_reducible refine below_drewN ?_ _) | (with_reducible refine Below.setCell ?_ ?_ _) | (with_reducible refine below_setRow' ?_ ?_ _) | go_size)) (Nat.le_refl _))) | go_simp)))
  clear hK K hHeld2
  (try simp only [Act.put, List.setIfInBounds_toArray, List.set_cons_zero, List.set_cons_succ, List.getElem_toArray, List.getElem_cons_succ, List.getElem_cons_zero])
  refine wpAnyH_take (i := 10) (oi := _) (v := ?_) rfl (by kernel_rfl) (by kernel_rfl) (by kernel_rfl) (fun _ _ _ h => h) (Or.inl ⟨by rfl, ?_⟩) (by assumption) ?_
  rotate_left 1
  · (intro w hSw; (try dsimp only at hSw); (try simp only [List.getElem_toArray, List.getElem_cons_succ, List.getElem_cons_zero]); first | (go_simp; done) | (go_simp; with_reducible rfl))
  (try simp only [Act.put, List.setIfInBounds_toArray, List.set_cons_zero, List.set_cons_succ, List.getElem_toArray, List.getElem_cons_succ, List.getElem_cons_zero])
  refine wpAnyH_take (i := 11) (oi := _) (v := ?_) rfl (by kernel_rfl) (by kernel_rfl) (by kernel_rfl) (fun _ _ _ h => h) (Or.inl ⟨by rfl, ?_⟩) (by assumption) ?_
  rotate_left 1
  · (intro w hSw; (try dsimp only at hSw); (try simp only [List.getElem_toArray, List.getElem_cons_succ, List.getElem_cons_zero]); first | (go_simp; done) | (go_simp; with_reducible rfl))
  (try simp only [Act.put, List.setIfInBounds_toArray, List.set_cons_zero, List.set_cons_succ, List.getElem_toArray, List.getElem_cons_succ, List.getElem_cons_zero])
  refine wpAnyH_take (i := 12) (oi := _) (v := ?_) rfl (by kernel_rfl) (by kernel_rfl) (by kernel_rfl) (fun _ _ _ h => h) (Or.inl ⟨by rfl, ?_⟩) (by assumption) ?_
  rotate_left 1
  · (intro w hSw; (try dsimp only at hSw); (try simp only [List.getElem_toArray, List.getElem_cons_succ, List.getElem_cons_zero]); first | (go_simp; done) | (go_simp; with_reducible rfl))
  (try simp only [Act.put, List.setIfInBounds_toArray, List.set_cons_zero, List.set_cons_succ, List.getElem_toArray, List.getElem_cons_succ, List.getElem_cons_zero])
  refine wpAnyH_done (by kernel_rfl) ?_ _
  go_wp2_with fail
  refine wp_region_held_drew (S := fun w' => blk? w' (w.heap.size) = some (#[.int .u64 (0), .int .u64 (lo), .pointer (some ⟨b4, o4, none⟩)]) ∧ Zh ⟨b4, o4, none⟩ ⟨b6, o6, none⟩ w' ∧ Zh ⟨b6, o6, none⟩ ⟨b4, o4, none⟩ w') (by kernel_rfl) ?_ (fun hHeld0 => ?_)
  · ((try dsimp only); (refine ⟨?_, ?_, ?_⟩ <;> (first | (exact Gl.zh (HG.out.below (by repeat' (first | (with_reducible exact Below.refl _ _) | (with_reducible assumption) | (with_reducible refine Below.alloc ?_ ?_ _) | (with_reducible refine Below.drew ?_) | (with_reducible refine below_drewN ?_ _) | (with_reducible refine Below.setCell ?_ ?_ _) | (with_reducible refine below_setRow' ?_ ?_ _) | go_size)) (Nat.le_refl _))) | (exact Gl.zh' (HG.out.below (by repeat' (first | (with_reducible exact Below.refl _ _) | (with_reducible assumption) | (with_reducible refine Below.alloc ?_ ?_ _) | (with_reducible refine Below.drew ?_) | (with_reducible refine below_drewN ?_ _) | (with_reducible refine Below.setCell ?_ ?_ _) | (with_reducible refine below_setRow' ?_ ?_ _) | go_size)) (Nat.le_refl _))) | go_simp)))
  refine wpAnyH_take (i := 0) (oi := _) (v := ?_) rfl (by kernel_rfl) (by kernel_rfl) (by kernel_rfl) (fun _ _ _ h => h) (Or.inl ⟨by rfl, ?_⟩) (by assumption) ?_
  rotate_left 1
  · (intro w hSw; (try dsimp only at hSw); (try simp only [List.getElem_toArray, List.getElem_cons_succ, List.getElem_cons_zero]); first | (go_simp; done) | (go_simp; with_reducible rfl))
  (try simp only [Act.put, List.setIfInBounds_toArray, List.set_cons_zero, List.set_cons_succ, List.getElem_toArray, List.getElem_cons_succ, List.getElem_cons_zero])
  refine wpAnyH_ready (rs := [1]) (by kernel_rfl) (by simp) (AllReadyH.cons rfl (fun K hK => ?_) AllReadyH.nil)
  go_simp
  go_wp2_with (first
    | (go_at_call 74; (with_reducible refine (unsp6 (b4 := b4) (o4 := o4) (b6 := b6) (o6 := o6) _ ?_).mono ?_); (exact HG.out.below (by repeat' (first | (with_reducible exact Below.refl _ _) | (with_reducible assumption) | (with_reducible refine Below.alloc ?_ ?_ _) | (with_reducible refine Below.drew ?_) | (with_reducible refine below_drewN ?_ _) | (with_reducible refine Below.setCell ?_ ?_ _) | (with_reducible refine below_setRow' ?_ ?_ _) | go_size)) (Nat.le_refl _)); rintro e w1 ⟨rfl, hb1⟩; have hk1 := blk?_below hb1; (try simp only [size_drew', size_drewN'] at hk1); have hB1 := below_via (w := w) (by repeat' (first | (with_reducible exact Below.refl _ _) | (with_reducible assumption) | (with_reducible refine Below.alloc ?_ ?_ _) | (with_reducible refine Below.drew ?_) | (with_reducible refine below_drewN ?_ _) | (with_reducible refine Below.setCell ?_ ?_ _) | (with_reducible refine below_setRow' ?_ ?_ _) | go_size)) hb1; have hL0 : w.heap.size < w1.heap.size := (by have hS0 := hb1.size; (try simp at hS0); omega); have hLe : w.heap.size ≤ w1.heap.size := hB1.size; obtain ⟨hc1, hf1⟩ := bcell hb1; (try simp only [size_drew', size_drewN'] at hc1); (try simp only [size_drew', size_drewN'] at hf1); have hzA := Gl.zh (HG.out.below hB1 (Nat.le_refl _)); have hzB := Gl.zh' (HG.out.below hB1 (Nat.le_refl _)); clear hb1))
  refine hK.out _ _ ?_ (fun hHeld1 => ?_)
  · ((try dsimp only); (refine ⟨?_, ?_, ?_⟩ <;> (first | (exact Gl.zh (HG.out.below (by repeat' (first | (with_reducible exact Below.refl _ _) | (with_reducible assumption) | (with_reducible refine Below.alloc ?_ ?_ _) | (with_reducible refine Below.drew ?_) | (with_reducible refine below_drewN ?_ _) | (with_reducible refine Below.setCell ?_ ?_ _) | (with_reducible refine below_setRow' ?_ ?_ _) | go_size)) (Nat.le_refl _))) | (exact Gl.zh' (HG.out.below (by repeat' (first | (with_reducible exact Below.refl _ _) | (with_reducible assumption) | (with_reducible refine Below.alloc ?_ ?_ _) | (with_reducible refine Below.drew ?_) | (with_reducible refine below_drewN ?_ _) | (with_reducible refine Below.setCell ?_ ?_ _) | (with_reducible refine below_setRow' ?_ ?_ _) | go_size)) (Nat.le_refl _))) | go_simp)))
  clear hK K hHeld0
  (try simp only [Act.put, List.setIfInBounds_toArray, List.set_cons_zero, List.set_cons_succ, List.getElem_toArray, List.getElem_cons_succ, List.getElem_cons_zero])
  refine wpAnyH_take (i := 2) (oi := _) (v := ?_) rfl (by kernel_rfl) (by kernel_rfl) (by kernel_rfl) (fun _ _ _ h => h) (Or.inl ⟨by rfl, ?_⟩) (by assumption) ?_
  rotate_left 1
  · (intro w hSw; (try dsimp only at hSw); (try simp only [List.getElem_toArray, List.getElem_cons_succ, List.getElem_cons_zero]); first | (go_simp; done) | (go_simp; with_reducible rfl))
  (try simp only [Act.put, List.setIfInBounds_toArray, List.set_cons_zero, List.set_cons_succ, List.getElem_toArray, List.getElem_cons_succ, List.getElem_cons_zero])
  refine wpAnyH_take (i := 3) (oi := _) (v := ?_) rfl (by kernel_rfl) (by kernel_rfl) (by kernel_rfl) (fun _ _ _ h => h) (Or.inl ⟨by rfl, ?_⟩) (by assumption) ?_
  rotate_left 1
  · (intro w hSw; (try dsimp only at hSw); (try simp only [List.getElem_toArray, List.getElem_cons_succ, List.getElem_cons_zero]); first | (go_simp; done) | (go_simp; with_reducible rfl))
  (try simp only [Act.put, List.setIfInBounds_toArray, List.set_cons_zero, List.set_cons_succ, List.getElem_toArray, List.getElem_cons_succ, List.getElem_cons_zero])
  refine wpAnyH_take (i := 4) (oi := _) (v := ?_) rfl (by kernel_rfl) (by kernel_rfl) (by kernel_rfl) (fun _ _ _ h => h) (Or.inl ⟨by rfl, ?_⟩) (by assumption) ?_
  rotate_left 1
  · (intro w hSw; (try dsimp only at hSw); (try simp only [List.getElem_toArray, List.getElem_cons_succ, List.getElem_cons_zero]); first | (go_simp; done) | (go_simp; with_reducible rfl))
  (try simp only [Act.put, List.setIfInBounds_toArray, List.set_cons_zero, List.set_cons_succ, List.getElem_toArray, List.getElem_cons_succ, List.getElem_cons_zero])
  refine wpAnyH_ready (rs := [5]) (by kernel_rfl) (by simp) (AllReadyH.cons rfl (fun K hK => ?_) AllReadyH.nil)
  go_simp
  go_wp2_with (first
    | (go_at_call 113; (with_reducible refine (kLoop_4v (b4 := b4) (o4 := o4) _ _ true HV0.out hhi hlo _ ?_).mono ?_); (exact HG.out.g4.below (by repeat' (first | (with_reducible exact Below.refl _ _) | (with_reducible assumption) | (with_reducible refine Below.alloc ?_ ?_ _) | (with_reducible refine Below.drew ?_) | (with_reducible refine below_drewN ?_ _) | (with_reducible refine Below.setCell ?_ ?_ _) | (with_reducible refine below_setRow' ?_ ?_ _) | go_size)) (Nat.le_refl _)); rintro e w1 ⟨rfl, hb1⟩; have hk1 := blk?_below hb1; (try simp only [size_drew', size_drewN'] at hk1); have hB1 := below_via (w := w) (by repeat' (first | (with_reducible exact Below.refl _ _) | (with_reducible assumption) | (with_reducible refine Below.alloc ?_ ?_ _) | (with_reducible refine Below.drew ?_) | (with_reducible refine below_drewN ?_ _) | (with_reducible refine Below.setCell ?_ ?_ _) | (with_reducible refine below_setRow' ?_ ?_ _) | go_size)) hb1; have hL0 : w.heap.size < w1.heap.size := (by have hS0 := hb1.size; (try simp at hS0); omega); have hLe : w.heap.size ≤ w1.heap.size := hB1.size; obtain ⟨hc1, hf1⟩ := bcell hb1; (try simp only [size_drew', size_drewN'] at hc1); (try simp only [size_drew', size_drewN'] at hf1); have hzA := Gl.zh (HG.out.below hB1 (Nat.le_refl _)); have hzB := Gl.zh' (HG.out.below hB1 (Nat.le_refl _)); clear hb1))
  refine hK.out _ _ ?_ (fun hHeld2 => ?_)
  · ((try dsimp only); (refine ⟨?_, ?_, ?_⟩ <;> (first | (exact Gl.zh (HG.out.below (by repeat' (first | (with_reducible exact Below.refl _ _) | (with_reducible assumption) | (with_reducible refine Below.alloc ?_ ?_ _) | (with_reducible refine Below.drew ?_) | (with_reducible refine below_drewN ?_ _) | (with_reducible refine Below.setCell ?_ ?_ _) | (with_reducible refine below_setRow' ?_ ?_ _) | go_size)) (Nat.le_refl _))) | (exact Gl.zh' (HG.out.below (by repeat' (first | (with_reducible exact Below.refl _ _) | (with_reducible assumption) | (with_reducible refine Below.alloc ?_ ?_ _) | (with_reducible refine Below.drew ?_) | (with_reducible refine below_drewN ?_ _) | (with_reducible refine Below.setCell ?_ ?_ _) | (with_reducible refine below_setRow' ?_ ?_ _) | go_size)) (Nat.le_refl _))) | go_simp)))
  clear hK K hHeld1
  (try simp only [Act.put, List.setIfInBounds_toArray, List.set_cons_zero, List.set_cons_succ, List.getElem_toArray, List.getElem_cons_succ, List.getElem_cons_zero])
  refine wpAnyH_take (i := 6) (oi := _) (v := ?_) rfl (by kernel_rfl) (by kernel_rfl) (by kernel_rfl) (fun _ _ _ h => h) (Or.inl ⟨by rfl, ?_⟩) (by assumption) ?_
  rotate_left 1
  · (intro w hSw; (try dsimp only at hSw); (try simp only [List.getElem_toArray, List.getElem_cons_succ, List.getElem_cons_zero]); first | (go_simp; done) | (go_simp; with_reducible rfl))
  (try simp only [Act.put, List.setIfInBounds_toArray, List.set_cons_zero, List.set_cons_succ, List.getElem_toArray, List.getElem_cons_succ, List.getElem_cons_zero])
  refine wpAnyH_take (i := 7) (oi := _) (v := ?_) rfl (by kernel_rfl) (by kernel_rfl) (by kernel_rfl) (fun _ _ _ h => h) (Or.inl ⟨by rfl, ?_⟩) (by assumption) ?_
  rotate_left 1
  · (intro w hSw; (try dsimp only at hSw); (try simp only [List.getElem_toArray, List.getElem_cons_succ, List.getElem_cons_zero]); first | (go_simp; done) | (go_simp; with_reducible rfl))
  (try simp only [Act.put, List.setIfInBounds_toArray, List.set_cons_zero, List.set_cons_succ, List.getElem_toArray, List.getElem_cons_succ, List.getElem_cons_zero])
  refine wpAnyH_take (i := 8) (oi := _) (v := ?_) rfl (by kernel_rfl) (by kernel_rfl) (by kernel_rfl) (fun _ _ _ h => h) (Or.inl ⟨by rfl, ?_⟩) (by assumption) ?_
  rotate_left 1
  · (intro w hSw; (try dsimp only at hSw); (try simp only [List.getElem_toArray, List.getElem_cons_succ, List.getElem_cons_zero]); first | (go_simp; done) | (go_simp; with_reducible rfl))
  (try simp only [Act.put, List.setIfInBounds_toArray, List.set_cons_zero, List.set_cons_succ, List.getElem_toArray, List.getElem_cons_succ, List.getElem_cons_zero])
  refine wpAnyH_take (i := 9) (oi := _) (v := undef) rfl (by kernel_rfl) (by kernel_rfl) (by kernel_rfl) (fun _ _ _ h => h) (Or.inr ⟨by rfl, rfl⟩) (by assumption) ?_
  (try simp only [Act.put, List.setIfInBounds_toArray, List.set_cons_zero, List.set_cons_succ, List.getElem_toArray, List.getElem_cons_succ, List.getElem_cons_zero])
  refine wpAnyH_ready (rs := [10]) (by kernel_rfl) (by simp) (AllReadyH.cons rfl (fun K hK => ?_) AllReadyH.nil)
  go_simp
  refine hK.out _ _ ?_ (fun hHeld3 => ?_)
  · ((try dsimp only); (refine ⟨?_, ?_, ?_⟩ <;> (first | (exact Gl.zh (HG.out.below (by repeat' (first | (with_reducible exact Below.refl _ _) | (with_reducible assumption) | (with_reducible refine Below.alloc ?_ ?_ _) | (with_reducible refine Below.drew ?_) | (with_reducible refine below_drewN ?_ _) | (with_reducible refine Below.setCell ?_ ?_ _) | (with_reducible refine below_setRow' ?_ ?_ _) | go_size)) (Nat.le_refl _))) | (exact Gl.zh' (HG.out.below (by repeat' (first | (with_reducible exact Below.refl _ _) | (with_reducible assumption) | (with_reducible refine Below.alloc ?_ ?_ _) | (with_reducible refine Below.drew ?_) | (with_reducible refine below_drewN ?_ _) | (with_reducible refine Below.setCell ?_ ?_ _) | (with_reducible refine below_setRow' ?_ ?_ _) | go_size)) (Nat.le_refl _))) | go_simp)))
  clear hK K hHeld2
  (try simp only [Act.put, List.setIfInBounds_toArray, List.set_cons_zero, List.set_cons_succ, List.getElem_toArray, List.getElem_cons_succ, List.getElem_cons_zero])
  refine wpAnyH_take (i := 11) (oi := _) (v := undef) rfl (by kernel_rfl) (by kernel_rfl) (by kernel_rfl) (fun _ _ _ h => h) (Or.inr ⟨by rfl, rfl⟩) (by assumption) ?_
  (try simp only [Act.put, List.setIfInBounds_toArray, List.set_cons_zero, List.set_cons_succ, List.getElem_toArray, List.getElem_cons_succ, List.getElem_cons_zero])
  refine wpAnyH_take (i := 12) (oi := _) (v := ?_) rfl (by kernel_rfl) (by kernel_rfl) (by kernel_rfl) (fun _ _ _ h => h) (Or.inl ⟨by rfl, ?_⟩) (by assumption) ?_
  rotate_left 1
  · (intro w hSw; (try dsimp only at hSw); (try simp only [List.getElem_toArray, List.getElem_cons_succ, List.getElem_cons_zero]); first | (go_simp; done) | (go_simp; with_reducible rfl))
  (try simp only [Act.put, List.setIfInBounds_toArray, List.set_cons_zero, List.set_cons_succ, List.getElem_toArray, List.getElem_cons_succ, List.getElem_cons_zero])
  refine wpAnyH_take (i := 13) (oi := _) (v := ?_) rfl (by kernel_rfl) (by kernel_rfl) (by kernel_rfl) (fun _ _ _ h => h) (Or.inl ⟨by rfl, ?_⟩) (by assumption) ?_
  rotate_left 1
  · (intro w hSw; (try dsimp only at hSw); (try simp only [List.getElem_toArray, List.getElem_cons_succ, List.getElem_cons_zero]); first | (go_simp; done) | (go_simp; with_reducible rfl))
  (try simp only [Act.put, List.setIfInBounds_toArray, List.set_cons_zero, List.set_cons_succ, List.getElem_toArray, List.getElem_cons_succ, List.getElem_cons_zero])
  refine wpAnyH_take (i := 14) (oi := _) (v := undef) rfl (by kernel_rfl) (by kernel_rfl) (by kernel_rfl) (fun _ _ _ h => h) (Or.inr ⟨by rfl, rfl⟩) (by assumption) ?_
  (try simp only [Act.put, List.setIfInBounds_toArray, List.set_cons_zero, List.set_cons_succ, List.getElem_toArray, List.getElem_cons_succ, List.getElem_cons_zero])
  refine wpAnyH_ready (rs := [15]) (by kernel_rfl) (by simp) (AllReadyH.cons rfl (fun K hK => ?_) AllReadyH.nil)
  go_simp
  refine hK.out _ _ ?_ (fun hHeld4 => ?_)
  · ((try dsimp only); (refine ⟨?_, ?_, ?_⟩ <;> (first | (exact Gl.zh (HG.out.below (by repeat' (first | (with_reducible exact Below.refl _ _) | (with_reducible assumption) | (with_reducible refine Below.alloc ?_ ?_ _) | (with_reducible refine Below.drew ?_) | (with_reducible refine below_drewN ?_ _) | (with_reducible refine Below.setCell ?_ ?_ _) | (with_reducible refine below_setRow' ?_ ?_ _) | go_size)) (Nat.le_refl _))) | (exact Gl.zh' (HG.out.below (by repeat' (first | (with_reducible exact Below.refl _ _) | (with_reducible assumption) | (with_reducible refine Below.alloc ?_ ?_ _) | (with_reducible refine Below.drew ?_) | (with_reducible refine below_drewN ?_ _) | (with_reducible refine Below.setCell ?_ ?_ _) | (with_reducible refine below_setRow' ?_ ?_ _) | go_size)) (Nat.le_refl _))) | go_simp)))
  clear hK K hHeld3
  (try simp only [Act.put, List.setIfInBounds_toArray, List.set_cons_zero, List.set_cons_succ, List.getElem_toArray, List.getElem_cons_succ, List.getElem_cons_zero])
  refine wpAnyH_take (i := 16) (oi := _) (v := undef) rfl (by kernel_rfl) (by kernel_rfl) (by kernel_rfl) (fun _ _ _ h => h) (Or.inr ⟨by rfl, rfl⟩) (by assumption) ?_
  (try simp only [Act.put, List.setIfInBounds_toArray, List.set_cons_zero, List.set_cons_succ, List.getElem_toArray, List.getElem_cons_succ, List.getElem_cons_zero])
  refine wpAnyH_take (i := 17) (oi := _) (v := ?_) rfl (by kernel_rfl) (by kernel_rfl) (by kernel_rfl) (fun _ _ _ h => h) (Or.inl ⟨by rfl, ?_⟩) (by assumption) ?_
  rotate_left 1
  · (intro w hSw; (try dsimp only at hSw); (try simp only [List.getElem_toArray, List.getElem_cons_succ, List.getElem_cons_zero]); first | (go_simp; done) | (go_simp; with_reducible rfl))
  (try simp only [Act.put, List.setIfInBounds_toArray, List.set_cons_zero, List.set_cons_succ, List.getElem_toArray, List.getElem_cons_succ, List.getElem_cons_zero])
  refine wpAnyH_take (i := 18) (oi := _) (v := ?_) rfl (by kernel_rfl) (by kernel_rfl) (by kernel_rfl) (fun _ _ _ h => h) (Or.inl ⟨by rfl, ?_⟩) (by assumption) ?_
  rotate_left 1
  · (intro w hSw; (try dsimp only at hSw); (try simp only [List.getElem_toArray, List.getElem_cons_succ, List.getElem_cons_zero]); first | (go_simp; done) | (go_simp; with_reducible rfl))
  (try simp only [Act.put, List.setIfInBounds_toArray, List.set_cons_zero, List.set_cons_succ, List.getElem_toArray, List.getElem_cons_succ, List.getElem_cons_zero])
  refine wpAnyH_done (by kernel_rfl) ?_ _
  go_wp2_with fail
  go_ret
  exact ⟨rfl, (by repeat' (first | (with_reducible exact Below.refl _ _) | (with_reducible assumption) | (with_reducible refine Below.alloc ?_ ?_ _) | (with_reducible refine Below.drew ?_) | (with_reducible refine below_drewN ?_ _) | (with_reducible refine Below.setCell ?_ ?_ _) | (with_reducible refine below_setRow' ?_ ?_ _) | go_size))⟩
set_option maxHeartbeats 4000000 in
set_option maxRecDepth 100000 in
theorem gu_4FT (lo : Int) (hlo : 0 ≤ lo ∧ lo < 18446744073709551616) (h : lo ≠ 281470681743360) (h' : lo ≠ 281474976710655) (hv0 : kLo4 lo = false) (hv1 : kMu4 lo = true) {b4 o4 b6 o6 : Nat} (w : World) (hg : Gl b4 o4 b6 o6 w) :
    Calls Tryd.prog 127 #[.agg #[.int .u64 (0), .int .u64 (lo), .pointer (some ⟨b4, o4, none⟩)]] w fun e w' => e = .returned (.bool false) ∧ Below w.heap.size w w' := by
  have HG := Lib.hid hg
  have hhi : (0 : Int) ≤ 0 ∧ (0 : Int) < 18446744073709551616 := by omega
  have hE : (lo == 281470681743360) = false := beq_eq_false_iff_ne.2 h
  have hE' : (lo == 281474976710655) = false := beq_eq_false_iff_ne.2 h'
  have HV0 := Lib.hid hv0
  have HV1 := Lib.hid hv1
  clear h h' hv0 hv1
  obtain ⟨⟨z4, z0, s0, s1, s2, l4, c40, c41⟩, z6, zh, zh', l6, c60, c61⟩ := hg
  go_enter Tryd.func127, Tryd.ntmps127
  go_wp2_with (first
    | (go_at_call 90; (with_reducible refine (is4In6_4 (b4 := b4) (o4 := o4) _ _ _ ?_).mono ?_); (exact HG.out.g4.below (by repeat' (first | (with_reducible exact Below.refl _ _) | (with_reducible assumption) | (with_reducible refine Below.alloc ?_ ?_ _) | (with_reducible refine Below.drew ?_) | (with_reducible refine below_drewN ?_ _) | (with_reducible refine Below.setCell ?_ ?_ _) | (with_reducible refine below_setRow' ?_ ?_ _) | go_size)) (Nat.le_refl _)); rintro e w1 ⟨rfl, hb1⟩; have hk1 := blk?_below hb1; (try simp only [size_drew', size_drewN'] at hk1); have hB1 := below_via (w := w) (by repeat' (first | (with_reducible exact Below.refl _ _) | (with_reducible assumption) | (with_reducible refine Below.alloc ?_ ?_ _) | (with_reducible refine Below.drew ?_) | (with_reducible refine below_drewN ?_ _) | (with_reducible refine Below.setCell ?_ ?_ _) | (with_reducible refine below_setRow' ?_ ?_ _) | go_size)) hb1; have hL0 : w.heap.size < w1.heap.size := (by have hS0 := hb1.size; (try simp at hS0); omega); have hLe : w.heap.size ≤ w1.heap.size := hB1.size; obtain ⟨hc1, hf1⟩ := bcell hb1; (try simp only [size_drew', size_drewN'] at hc1); (try simp only [size_drew', size_drewN'] at hf1); have hzA := Gl.zh (HG.out.below hB1 (Nat.le_refl _)); have hzB := Gl.zh' (HG.out.below hB1 (Nat.le_refl _)); clear hb1))
  refine wp_region_held_drew (S := fun w' => blk? w' (w.heap.size) = some (#[.int .u64 (0), .int .u64 (lo), .pointer (some ⟨b4, o4, none⟩)]) ∧ Zh ⟨b4, o4, none⟩ ⟨b6, o6, none⟩ w' ∧ Zh ⟨b6, o6, none⟩ ⟨b4, o4, none⟩ w') (by kernel_rfl) ?_ (fun hHeld0 => ?_)
  · ((try dsimp only); (refine ⟨?_, ?_, ?_⟩ <;> (first | (exact Gl.zh (HG.out.below (by repeat' (first | (with_reducible exact Below.refl _ _) | (with_reducible assumption) | (with_reducible refine Below.alloc ?_ ?_ _) | (with_reducible refine Below.drew ?_) | (with_reducible refine below_drewN ?_ _) | (with_reducible refine Below.setCell ?_ ?_ _) | (with_reducible refine below_setRow' ?_ ?_ _) | go_size)) (Nat.le_refl _))) | (exact Gl.zh' (HG.out.below (by repeat' (first | (with_reducible exact Below.refl _ _) | (with_reducible assumption) | (with_reducible refine Below.alloc ?_ ?_ _) | (with_reducible refine Below.drew ?_) | (with_reducible refine below_drewN ?_ _) | (with_reducible refine Below.setCell ?_ ?_ _) | (with_reducible refine below_setRow' ?_ ?_ _) | go_size)) (Nat.le_refl _))) | go_simp)))
  refine wpAnyH_take (i := 0) (oi := _) (v := ?_) rfl (by kernel_rfl) (by kernel_rfl) (by kernel_rfl) (fun _ _ _ h => h) (Or.inl ⟨by rfl, ?_⟩) (by assumption) ?_
  rotate_left 1
  · (intro w hSw; (try dsimp only at hSw); (try simp only [List.getElem_toArray, List.getElem_cons_succ, List.getElem_cons_zero]); first | (go_simp; done) | (go_simp; with_reducible rfl))
  (try simp only [Act.put, List.setIfInBounds_toArray, List.set_cons_zero, List.set_cons_succ, List.getElem_toArray, List.getElem_cons_succ, List.getElem_cons_zero])
  refine wpAnyH_ready (rs := [1]) (by kernel_rfl) (by simp) (AllReadyH.cons rfl (fun K hK => ?_) AllReadyH.nil)
  go_simp
  go_wp2_with (first
    | (go_at_call 134; (with_reducible refine (is4_4 (b4 := b4) (o4 := o4) _ _ _ ?_).mono ?_); (exact HG.out.g4.below (by repeat' (first | (with_reducible exact Below.refl _ _) | (with_reducible assumption) | (with_reducible refine Below.alloc ?_ ?_ _) | (with_reducible refine Below.drew ?_) | (with_reducible refine below_drewN ?_ _) | (with_reducible refine Below.setCell ?_ ?_ _) | (with_reducible refine below_setRow' ?_ ?_ _) | go_size)) (Nat.le_refl _)); rintro e w1 ⟨rfl, hb1⟩; have hk1 := blk?_below hb1; (try simp only [size_drew', size_drewN'] at hk1); have hB1 := below_via (w := w) (by repeat' (first | (with_reducible exact Below.refl _ _) | (with_reducible assumption) | (with_reducible refine Below.alloc ?_ ?_ _) | (with_reducible refine Below.drew ?_) | (with_reducible refine below_drewN ?_ _) | (with_reducible refine Below.setCell ?_ ?_ _) | (with_reducible refine below_setRow' ?_ ?_ _) | go_size)) hb1; have hL0 : w.heap.size < w1.heap.size := (by have hS0 := hb1.size; (try simp at hS0); omega); have hLe : w.heap.size ≤ w1.heap.size := hB1.size; obtain ⟨hc1, hf1⟩ := bcell hb1; (try simp only [size_drew', size_drewN'] at hc1); (try simp only [size_drew', size_drewN'] at hf1); have hzA := Gl.zh (HG.out.below hB1 (Nat.le_refl _)); have hzB := Gl.zh' (HG.out.below hB1 (Nat.le_refl _)); clear hb1))
  refine hK.out _ _ ?_ (fun hHeld1 => ?_)
  · ((try dsimp only); (refine ⟨?_, ?_, ?_⟩ <;> (first | (exact Gl.zh (HG.out.below (by repeat' (first | (with_reducible exact Below.refl _ _) | (with_reducible assumption) | (with_reducible refine Below.alloc ?_ ?_ _) | (with_reducible refine Below.drew ?_) | (with_reducible refine below_drewN ?_ _) | (with_reducible refine Below.setCell ?_ ?_ _) | (with_reducible refine below_setRow' ?_ ?_ _) | go_size)) (Nat.le_refl _))) | (exact Gl.zh' (HG.out.below (by repeat' (first | (with_reducible exact Below.refl _ _) | (with_reducible assumption) | (with_reducible refine Below.alloc ?_ ?_ _) | (with_reducible refine Below.drew ?_) | (with_reducible refine below_drewN ?_ _) | (with_reducible refine Below.setCell ?_ ?_ _) | (with_reducible refine below_setRow' ?_ ?_ _) | go_size)) (Nat.le_refl _))) | go_simp)))
  clear hK K hHeld0
  (try simp only [Act.put, List.setIfInBounds_toArray, List.set_cons_zero, List.set_cons_succ, List.getElem_toArray, List.getElem_cons_succ, List.getElem_cons_zero])
  refine wpAnyH_take (i := 2) (oi := _) (v := ?_) rfl (by kernel_rfl) (by kernel_rfl) (by kernel_rfl) (fun _ _ _ h => h) (Or.inl ⟨by rfl, ?_⟩) (by assumption) ?_
  rotate_left 1
  · (intro w hSw; (try dsimp only at hSw); (try simp only [List.getElem_toArray, List.getElem_cons_succ, List.getElem_cons_zero]); first | (go_simp; done) | (go_simp; with_reducible rfl))
  (try simp only [Act.put, List.setIfInBounds_toArray, List.set_cons_zero, List.set_cons_succ, List.getElem_toArray, List.getElem_cons_succ, List.getElem_cons_zero])
  refine wpAnyH_take (i := 3) (oi := _) (v := ?_) rfl (by kernel_rfl) (by kernel_rfl) (by kernel_rfl) (fun _ _ _ h => h) (Or.inl ⟨by rfl, ?_⟩) (by assumption) ?_
  rotate_left 1
  · (intro w hSw; (try dsimp only at hSw); (try simp only [List.getElem_toArray, List.getElem_cons_succ, List.getElem_cons_zero]); first | (go_simp; done) | (go_simp; with_reducible rfl))
  (try simp only [Act.put, List.setIfInBounds_toArray, List.set_cons_zero, List.set_cons_succ, List.getElem_toArray, List.getElem_cons_succ, List.getElem_cons_zero])
  refine wpAnyH_ready (rs := [4]) (by kernel_rfl) (by simp) (AllReadyH.cons rfl (fun K hK => ?_) AllReadyH.nil)
  go_simp
  go_wp2_with (first
    | (go_at_call 73; (with_reducible refine (unsp4 (b4 := b4) (o4 := o4) _ ?_).mono ?_); (exact HG.out.g4.below (by repeat' (first | (with_reducible exact Below.refl _ _) | (with_reducible assumption) | (with_reducible refine Below.alloc ?_ ?_ _) | (with_reducible refine Below.drew ?_) | (with_reducible refine below_drewN ?_ _) | (with_reducible refine Below.setCell ?_ ?_ _) | (with_reducible refine below_setRow' ?_ ?_ _) | go_size)) (Nat.le_refl _)); rintro e w1 ⟨rfl, hb1⟩; have hk1 := blk?_below hb1; (try simp only [size_drew', size_drewN'] at hk1); have hB1 := below_via (w := w) (by repeat' (first | (with_reducible exact Below.refl _ _) | (with_reducible assumption) | (with_reducible refine Below.alloc ?_ ?_ _) | (with_reducible refine Below.drew ?_) | (with_reducible refine below_drewN ?_ _) | (with_reducible refine Below.setCell ?_ ?_ _) | (with_reducible refine below_setRow' ?_ ?_ _) | go_size)) hb1; have hL0 : w.heap.size < w1.heap.size := (by have hS0 := hb1.size; (try simp at hS0); omega); have hLe : w.heap.size ≤ w1.heap.size := hB1.size; obtain ⟨hc1, hf1⟩ := bcell hb1; (try simp only [size_drew', size_drewN'] at hc1); (try simp only [size_drew', size_drewN'] at hf1); have hzA := Gl.zh (HG.out.below hB1 (Nat.le_refl _)); have hzB := Gl.zh' (HG.out.below hB1 (Nat.le_refl _)); clear hb1))
  refine hK.out _ _ ?_ (fun hHeld2 => ?_)
  · ((try dsimp only); (refine ⟨?_, ?_, ?_⟩ <;> (first | (exact Gl.zh (HG.out.below (by repeat' (first | (with_reducible exact Below.refl _ _) | (with_reducible assumption) | (with_reducible refine Below.alloc ?_ ?_ _) | (with_reducible refine Below.drew ?_) | (with_reducible refine below_drewN ?_ _) | (with_reducible refine Below.setCell ?_ ?_ _) | (with_reducible refine below_setRow' ?_ ?_ _) | go_size)) (Nat.le_refl _))) | (exact Gl.zh' (HG.out.below (by repeat' (first | (with_reducible exact Below.refl _ _) | (with_reducible assumption) | (with_reducible refine Below.alloc ?_ ?_ _) | (with_reducible refine Below.drew ?_) | (with_reducible refine below_drewN ?_ _) | (with_reducible refine Below.setCell ?_ ?_ _) | (with_reducible refine below_setRow' ?_ ?_ _) | go_size)) (Nat.le_refl _))) | go_simp)))
  clear hK K hHeld1
  (try simp only [Act.put, List.setIfInBounds_toArray, List.set_cons_zero, List.set_cons_succ, List.getElem_toArray, List.getElem_cons_succ, List.getElem_cons_zero])
  refine wpAnyH_take (i := 5) (oi := _) (v := ?_) rfl (by kernel_rfl) (by kernel_rfl) (by kernel_rfl) (fun _ _ _ h => h) (Or.inl ⟨by rfl, ?_⟩) (by assumption) ?_
  rotate_left 1
  · (intro w hSw; (try dsimp only at hSw); (try simp only [List.getElem_toArray, List.getElem_cons_succ, List.getElem_cons_zero]); first | (go_simp; done) | (go_simp; with_reducible rfl))
  (try simp only [Act.put, List.setIfInBounds_toArray, List.set_cons_zero, List.set_cons_succ, List.getElem_toArray, List.getElem_cons_succ, List.getElem_cons_zero])
  refine wpAnyH_take (i := 6) (oi := _) (v := ?_) rfl (by kernel_rfl) (by kernel_rfl) (by kernel_rfl) (fun _ _ _ h => h) (Or.inl ⟨by rfl, ?_⟩) (by assumption) ?_
  rotate_left 1
  · (intro w hSw; (try dsimp only at hSw); (try simp only [List.getElem_toArray, List.getElem_cons_succ, List.getElem_cons_zero]); first | (go_simp; done) | (go_simp; with_reducible rfl))
  (try simp only [Act.put, List.setIfInBounds_toArray, List.set_cons_zero, List.set_cons_succ, List.getElem_toArray, List.getElem_cons_succ, List.getElem_cons_zero])
  refine wpAnyH_take (i := 7) (oi := _) (v := ?_) rfl (by kernel_rfl) (by kernel_rfl) (by kernel_rfl) (fun _ _ _ h => h) (Or.inl ⟨by rfl, ?_⟩) (by assumption) ?_
  rotate_left 1
  · (intro w hSw; (try dsimp only at hSw); (try simp only [List.getElem_toArray, List.getElem_cons_succ, List.getElem_cons_zero]); first | (go_simp; done) | (go_simp; with_reducible rfl))
  (try simp only [Act.put, List.setIfInBounds_toArray, List.set_cons_zero, List.set_cons_succ, List.getElem_toArray, List.getElem_cons_succ, List.getElem_cons_zero])
  refine wpAnyH_take (i := 8) (oi := _) (v := ?_) rfl (by kernel_rfl) (by kernel_rfl) (by kernel_rfl) (fun _ _ _ h => h) (Or.inl ⟨by rfl, ?_⟩) (by assumption) ?_
  rotate_left 1
  · (intro w hSw; (try dsimp only at hSw); (try simp only [List.getElem_toArray, List.getElem_cons_succ, List.getElem_cons_zero]); first | (go_simp; done) | (go_simp; with_reducible rfl))
  (try simp only [Act.put, List.setIfInBounds_toArray, List.set_cons_zero, List.set_cons_succ, List.getElem_toArray, List.getElem_cons_succ, List.getElem_cons_zero])
  refine wpAnyH_ready (rs := [9]) (by kernel_rfl) (by simp) (AllReadyH.cons rfl (fun K hK => ?_) AllReadyH.nil)
  go_simp
  go_wp2_with (first
    | (go_at_call 70; (with_reducible refine (afr4_ff (b4 := b4) (o4 := o4) _ ?_).mono ?_); (exact HG.out.g4.below (by repeat' (first | (with_reducible exact Below.refl _ _) | (with_reducible assumption) | (with_reducible refine Below.alloc ?_ ?_ _) | (with_reducible refine Below.drew ?_) | (with_reducible refine below_drewN ?_ _) | (with_reducible refine Below.setCell ?_ ?_ _) | (with_reducible refine below_setRow' ?_ ?_ _) | go_size)) (Nat.le_refl _)); rintro e w1 ⟨rfl, hb1⟩; have hk1 := blk?_below hb1; (try simp only [size_drew', size_drewN'] at hk1); have hB1 := below_via (w := w) (by repeat' (first | (with_reducible exact Below.refl _ _) | (with_reducible assumption) | (with_reducible refine Below.alloc ?_ ?_ _) | (with_reducible refine Below.drew ?_) | (with_reducible refine below_drewN ?_ _) | (with_reducible refine Below.setCell ?_ ?_ _) | (with_reducible refine below_setRow' ?_ ?_ _) | go_size)) hb1; have hL0 : w.heap.size < w1.heap.size := (by have hS0 := hb1.size; (try simp at hS0); omega); have hLe : w.heap.size ≤ w1.heap.size := hB1.size; obtain ⟨hc1, hf1⟩ := bcell hb1; (try simp only [size_drew', size_drewN'] at hc1); (try simp only [size_drew', size_drewN'] at hf1); have hzA := Gl.zh (HG.out.below hB1 (Nat.le_refl _)); have hzB := Gl.zh' (HG.out.below hB1 (Nat.le_refl _)); clear hb1))
  refine hK.out _ _ ?_ (fun hHeld3 => ?_)
  · ((try dsimp only); (refine ⟨?_, ?_, ?_⟩ <;> (first | (exact Gl.zh (HG.out.below (by repeat' (first | (with_reducible exact Below.refl _ _) | (with_reducible assumption) | (with_reducible refine Below.alloc ?_ ?_ _) | (with_reducible refine Below.drew ?_) | (with_reducible refine below_drewN ?_ _) | (with_reducible refine Below.setCell ?_ ?_ _) | (with_reducible refine below_setRow' ?_ ?_ _) | go_size)) (Nat.le_refl _))) | (exact Gl.zh' (HG.out.below (by repeat' (first | (with_reducible exact Below.refl _ _) | (with_reducible assumption) | (with_reducible refine Below.alloc ?_ ?_ _) | (with_reducible refine Below.drew ?_) | (with_reducible refine below_drewN ?_ _) | (with_reducible refine Below.setCell ?_ ?_ _) | (with_reducible refine below_setRow' ?_ ?_ _) | go_size)) (Nat.le_refl _))) | go_simp)))
  clear hK K hHeld2
  (try simp only [Act.put, List.setIfInBounds_toArray, List.set_cons_zero, List.set_cons_succ, List.getElem_toArray, List.getElem_cons_succ, List.getElem_cons_zero])
  refine wpAnyH_take (i := 10) (oi := _) (v := ?_) rfl (by kernel_rfl) (by kernel_rfl) (by kernel_rfl) (fun _ _ _ h => h) (Or.inl ⟨by rfl, ?_⟩) (by assumption) ?_
  rotate_left 1
  · (intro w hSw; (try dsimp only at hSw); (try simp only [List.getElem_toArray, List.getElem_cons_succ, List.getElem_cons_zero]); first | (go_simp; done) | (go_simp; with_reducible rfl))
  (try simp only [Act.put, List.setIfInBounds_toArray, List.set_cons_zero, List.set_cons_succ, List.getElem_toArray, List.getElem_cons_succ, List.getElem_cons_zero])
  refine wpAnyH_take (i := 11) (oi := _) (v := ?_) rfl (by kernel_rfl) (by kernel_rfl) (by kernel_rfl) (fun _ _ _ h => h) (Or.inl ⟨by rfl, ?_⟩) (by assumption) ?_
  rotate_left 1
  · (intro w hSw; (try dsimp only at hSw); (try simp only [List.getElem_toArray, List.getElem_cons_succ, List.getElem_cons_zero]); first | (go_simp; done) | (go_simp; with_reducible rfl))
  (try simp only [Act.put, List.setIfInBounds_toArray, List.set_cons_zero, List.set_cons_succ, List.getElem_toArray, List.getElem_cons_succ, List.getElem_cons_zero])
  refine wpAnyH_take (i := 12) (oi := _) (v := ?_) rfl (by kernel_rfl) (by kernel_rfl) (by kernel_rfl) (fun _ _ _ h => h) (Or.inl ⟨by rfl, ?_⟩) (by assumption) ?_
  rotate_left 1
  · (intro w hSw; (try dsimp only at hSw); (try simp only [List.getElem_toArray, List.getElem_cons_succ, List.getElem_cons_zero]); first | (go_simp; done) | (go_simp; with_reducible rfl))
  (try simp only [Act.put, List.setIfInBounds_toArray, List.set_cons_zero, List.set_cons_succ, List.getElem_toArray, List.getElem_cons_succ, List.getElem_cons_zero])
  refine wpAnyH_done (by kernel_rfl) ?_ _
  go_wp2_with fail
  refine wp_region_held_drew (S := fun w' => blk? w' (w.heap.size) = some (#[.int .u64 (0), .int .u64 (lo), .pointer (some ⟨b4, o4, none⟩)]) ∧ Zh ⟨b4, o4, none⟩ ⟨b6, o6, none⟩ w' ∧ Zh ⟨b6, o6, none⟩ ⟨b4, o4, none⟩ w') (by kernel_rfl) ?_ (fun hHeld0 => ?_)
  · ((try dsimp only); (refine ⟨?_, ?_, ?_⟩ <;> (first | (exact Gl.zh (HG.out.below (by repeat' (first | (with_reducible exact Below.refl _ _) | (with_reducible assumption) | (with_reducible refine Below.alloc ?_ ?_ _) | (with_reducible refine Below.drew ?_) | (with_reducible refine below_drewN ?_ _) | (with_reducible refine Below.setCell ?_ ?_ _) | (with_reducible refine below_setRow' ?_ ?_ _) | go_size)) (Nat.le_refl _))) | (exact Gl.zh' (HG.out.below (by repeat' (first | (with_reducible exact Below.refl _ _) | (with_reducible assumption) | (with_reducible refine Below.alloc ?_ ?_ _) | (with_reducible refine Below.drew ?_) | (with_reducible refine below_drewN ?_ _) | (with_reducible refine Below.setCell ?_ ?_ _) | (with_reducible refine below_setRow' ?_ ?_ _) | go_size)) (Nat.le_refl _))) | go_simp)))
  refine wpAnyH_take (i := 0) (oi := _) (v := ?_) rfl (by kernel_rfl) (by kernel_rfl) (by kernel_rfl) (fun _ _ _ h => h) (Or.inl ⟨by rfl, ?_⟩) (by assumption) ?_
  rotate_left 1
  · (intro w hSw; (try dsimp only at hSw); (try simp only [List.getElem_toArray, List.getElem_cons_succ, List.getElem_cons_zero]); first | (go_simp; done) | (go_simp; with_reducible rfl))
  (try simp only [Act.put, List.setIfInBounds_toArray, List.set_cons_zero, List.set_cons_succ, List.getElem_toArray, List.getElem_cons_succ, List.getElem_cons_zero])
  refine wpAnyH_ready (rs := [1]) (by kernel_rfl) (by simp) (AllReadyH.cons rfl (fun K hK => ?_) AllReadyH.nil)
  go_simp
  go_wp2_with (first
    | (go_at_call 74; (with_reducible refine (unsp6 (b4 := b4) (o4 := o4) (b6 := b6) (o6 := o6) _ ?_).mono ?_); (exact HG.out.below (by repeat' (first | (with_reducible exact Below.refl _ _) | (with_reducible assumption) | (with_reducible refine Below.alloc ?_ ?_ _) | (with_reducible refine Below.drew ?_) | (with_reducible refine below_drewN ?_ _) | (with_reducible refine Below.setCell ?_ ?_ _) | (with_reducible refine below_setRow' ?_ ?_ _) | go_size)) (Nat.le_refl _)); rintro e w1 ⟨rfl, hb1⟩; have hk1 := blk?_below hb1; (try simp only [size_drew', size_drewN'] at hk1); have hB1 := below_via (w := w) (by repeat' (first | (with_reducible exact Below.refl _ _) | (with_reducible assumption) | (with_reducible refine Below.alloc ?_ ?_ _) | (with_reducible refine Below.drew ?_) | (with_reducible refine below_drewN ?_ _) | (with_reducible refine Below.setCell ?_ ?_ _) | (with_reducible refine below_setRow' ?_ ?_ _) | go_size)) hb1; have hL0 : w.heap.size < w1.heap.size := (by have hS0 := hb1.size; (try simp at hS0); omega); have hLe : w.heap.size ≤ w1.heap.size := hB1.size; obtain ⟨hc1, hf1⟩ := bcell hb1; (try simp only [size_drew', size_drewN'] at hc1); (try simp only [size_drew', size_drewN'] at hf1); have hzA := Gl.zh (HG.out.below hB1 (Nat.le_refl _)); have hzB := Gl.zh' (HG.out.below hB1 (Nat.le_refl _)); clear hb1))
  refine hK.out _ _ ?_ (fun hHeld1 => ?_)
  · ((try dsimp only); (refine ⟨?_, ?_, ?_⟩ <;> (first | (exact Gl.zh (HG.out.below (by repeat' (first | (with_reducible exact Below.refl _ _) | (with_reducible assumption) | (with_reducible refine Below.alloc ?_ ?_ _) | (with_reducible refine Below.drew ?_) | (with_reducible refine below_drewN ?_ _) | (with_reducible refine Below.setCell ?_ ?_ _) | (with_reducible refine below_setRow' ?_ ?_ _) | go_size)) (Nat.le_refl _))) | (exact Gl.zh' (HG.out.below (by repeat' (first | (with_reducible exact Below.refl _ _) | (with_reducible assumption) | (with_reducible refine Below.alloc ?_ ?_ _) | (with_reducible refine Below.drew ?_) | (with_reducible refine below_drewN ?_ _) | (with_reducible refine Below.setCell ?_ ?_ _) | (with_reducible refine below_setRow' ?_ ?_ _) | go_size)) (Nat.le_refl _))) | go_simp)))
  clear hK K hHeld0
  (try simp only [Act.put, List.setIfInBounds_toArray, List.set_cons_zero, List.set_cons_succ, List.getElem_toArray, List.getElem_cons_succ, List.getElem_cons_zero])
  refine wpAnyH_take (i := 2) (oi := _) (v := ?_) rfl (by kernel_rfl) (by kernel_rfl) (by kernel_rfl) (fun _ _ _ h => h) (Or.inl ⟨by rfl, ?_⟩) (by assumption) ?_
  rotate_left 1
  · (intro w hSw; (try dsimp only at hSw); (try simp only [List.getElem_toArray, List.getElem_cons_succ, List.getElem_cons_zero]); first | (go_simp; done) | (go_simp; with_reducible rfl))
  (try simp only [Act.put, List.setIfInBounds_toArray, List.set_cons_zero, List.set_cons_succ, List.getElem_toArray, List.getElem_cons_succ, List.getElem_cons_zero])
  refine wpAnyH_take (i := 3) (oi := _) (v := ?_) rfl (by kernel_rfl) (by kernel_rfl) (by kernel_rfl) (fun _ _ _ h => h) (Or.inl ⟨by rfl, ?_⟩) (by assumption) ?_
  rotate_left 1
  · (intro w hSw; (try dsimp only at hSw); (try simp only [List.getElem_toArray, List.getElem_cons_succ, List.getElem_cons_zero]); first | (go_simp; done) | (go_simp; with_reducible rfl))
  (try simp only [Act.put, List.setIfInBounds_toArray, List.set_cons_zero, List.set_cons_succ, List.getElem_toArray, List.getElem_cons_succ, List.getElem_cons_zero])
  refine wpAnyH_take (i := 4) (oi := _) (v := ?_) rfl (by kernel_rfl) (by kernel_rfl) (by kernel_rfl) (fun _ _ _ h => h) (Or.inl ⟨by rfl, ?_⟩) (by assumption) ?_
  rotate_left 1
  · (intro w hSw; (try dsimp only at hSw); (try simp only [List.getElem_toArray, List.getElem_cons_succ, List.getElem_cons_zero]); first | (go_simp; done) | (go_simp; with_reducible rfl))
  (try simp only [Act.put, List.setIfInBounds_toArray, List.set_cons_zero, List.set_cons_succ, List.getElem_toArray, List.getElem_cons_succ, List.getElem_cons_zero])
  refine wpAnyH_ready (rs := [5]) (by kernel_rfl) (by simp) (AllReadyH.cons rfl (fun K hK => ?_) AllReadyH.nil)
  go_simp
  go_wp2_with (first
    | (go_at_call 113; (with_reducible refine (kLoop_4v (b4 := b4) (o4 := o4) _ _ false HV0.out hhi hlo _ ?_).mono ?_); (exact HG.out.g4.below (by repeat' (first | (with_reducible exact Below.refl _ _) | (with_reducible assumption) | (with_reducible refine Below.alloc ?_ ?_ _) | (with_reducible refine Below.drew ?_) | (with_reducible refine below_drewN ?_ _) | (with_reducible refine Below.setCell ?_ ?_ _) | (with_reducible refine below_setRow' ?_ ?_ _) | go_size)) (Nat.le_refl _)); rintro e w1 ⟨rfl, hb1⟩; have hk1 := blk?_below hb1; (try simp only [size_drew', size_drewN'] at hk1); have hB1 := below_via (w := w) (by repeat' (first | (with_reducible exact Below.refl _ _) | (with_reducible assumption) | (with_reducible refine Below.alloc ?_ ?_ _) | (with_reducible refine Below.drew ?_) | (with_reducible refine below_drewN ?_ _) | (with_reducible refine Below.setCell ?_ ?_ _) | (with_reducible refine below_setRow' ?_ ?_ _) | go_size)) hb1; have hL0 : w.heap.size < w1.heap.size := (by have hS0 := hb1.size; (try simp at hS0); omega); have hLe : w.heap.size ≤ w1.heap.size := hB1.size; obtain ⟨hc1, hf1⟩ := bcell hb1; (try simp only [size_drew', size_drewN'] at hc1); (try simp only [size_drew', size_drewN'] at hf1); have hzA := Gl.zh (HG.out.below hB1 (Nat.le_refl _)); have hzB := Gl.zh' (HG.out.below hB1 (Nat.le_refl _)); clear hb1))
  refine hK.out _ _ ?_ (fun hHeld2 => ?_)
  · ((try dsimp only); (refine ⟨?_, ?_, ?_⟩ <;> (first | (exact Gl.zh (HG.out.below (by repeat' (first | (with_reducible exact Below.refl _ _) | (with_reducible assumption) | (with_reducible refine Below.alloc ?_ ?_ _) | (with_reducible refine Below.drew ?_) | (with_reducible refine below_drewN ?_ _) | (with_reducible refine Below.setCell ?_ ?_ _) | (with_reducible refine below_setRow' ?_ ?_ _) | go_size)) (Nat.le_refl _))) | (exact Gl.zh' (HG.out.below (by repeat' (first | (with_reducible exact Below.refl _ _) | (with_reducible assumption) | (with_reducible refine Below.alloc ?_ ?_ _) | (with_reducible refine Below.drew ?_) | (with_reducible refine below_drewN ?_ _) | (with_reducible refine Below.setCell ?_ ?_ _) | (with_reducible refine below_setRow' ?_ ?_ _) | go_size)) (Nat.le_refl _))) | go_simp)))
  clear hK K hHeld1
  (try simp only [Act.put, List.setIfInBounds_toArray, List.set_cons_zero, List.set_cons_succ, List.getElem_toArray, List.getElem_cons_succ, List.getElem_cons_zero])
  refine wpAnyH_take (i := 6) (oi := _) (v := ?_) rfl (by kernel_rfl) (by kernel_rfl) (by kernel_rfl) (fun _ _ _ h => h) (Or.inl ⟨by rfl, ?_⟩) (by assumption) ?_
  rotate_left 1
  · (intro w hSw; (try dsimp only at hSw); (try simp only [List.getElem_toArray, List.getElem_cons_succ, List.getElem_cons_zero]); first | (go_simp; done) | (go_simp; with_reducible rfl))
  (try simp only [Act.put, List.setIfInBounds_toArray, List.set_cons_zero, List.set_cons_succ, List.getElem_toArray, List.getElem_cons_succ, List.getElem_cons_zero])
  refine wpAnyH_take (i := 7) (oi := _) (v := ?_) rfl (by kernel_rfl) (by kernel_rfl) (by kernel_rfl) (fun _ _ _ h => h) (Or.inl ⟨by rfl, ?_⟩) (by assumption) ?_
  rotate_left 1
  · (intro w hSw; (try dsimp only at hSw); (try simp only [List.getElem_toArray, List.getElem_cons_succ, List.getElem_cons_zero]); first | (go_simp; done) | (go_simp; with_reducible rfl))
  (try simp only [Act.put, List.setIfInBounds_toArray, List.set_cons_zero, List.set_cons_succ, List.getElem_toArray, List.getElem_cons_succ, List.getElem_cons_zero])
  refine wpAnyH_take (i := 8) (oi := _) (v := ?_) rfl (by kernel_rfl) (by kernel_rfl) (by kernel_rfl) (fun _ _ _ h => h) (Or.inl ⟨by rfl, ?_⟩) (by assumption) ?_
  rotate_left 1
  · (intro w hSw; (try dsimp only at hSw); (try simp only [List.getElem_toArray, List.getElem_cons_succ, List.getElem_cons_zero]); first | (go_simp; done) | (go_simp; with_reducible rfl))
  (try simp only [Act.put, List.setIfInBounds_toArray, List.set_cons_zero, List.set_cons_succ, List.getElem_toArray, List.getElem_cons_succ, List.getElem_cons_zero])
  refine wpAnyH_take (i := 9) (oi := _) (v := ?_) rfl (by kernel_rfl) (by kernel_rfl) (by kernel_rfl) (fun _ _ _ h => h) (Or.inl ⟨by rfl, ?_⟩) (by assumption) ?_
  rotate_left 1
  · (intro w hSw; (try dsimp only at hSw); (try simp only [List.getElem_toArray, List.getElem_cons_succ, List.getElem_cons_zero]); first | (go_simp; done) | (go_simp; with_reducible rfl))
  (try simp only [Act.put, List.setIfInBounds_toArray, List.set_cons_zero, List.set_cons_succ, List.getElem_toArray, List.getElem_cons_succ, List.getElem_cons_zero])
  refine wpAnyH_ready (rs := [10]) (by kernel_rfl) (by simp) (AllReadyH.cons rfl (fun K hK => ?_) AllReadyH.nil)
  go_simp
  go_wp2_with (first
    | (go_at_call 140; (with_reducible refine (kMult_4v (b4 := b4) (o4 := o4) _ _ true HV1.out hhi hlo _ ?_).mono ?_); (exact HG.out.g4.below (by repeat' (first | (with_reducible exact Below.refl _ _) | (with_reducible assumption) | (with_reducible refine Below.alloc ?_ ?_ _) | (with_reducible refine Below.drew ?_) | (with_reducible refine below_drewN ?_ _) | (with_reducible refine Below.setCell ?_ ?_ _) | (with_reducible refine below_setRow' ?_ ?_ _) | go_size)) (Nat.le_refl _)); rintro e w1 ⟨rfl, hb1⟩; have hk1 := blk?_below hb1; (try simp only [size_drew', size_drewN'] at hk1); have hB1 := below_via (w := w) (by repeat' (first | (with_reducible exact Below.refl _ _) | (with_reducible assumption) | (with_reducible refine Below.alloc ?_ ?_ _) | (with_reducible refine Below.drew ?_) | (with_reducible refine below_drewN ?_ _) | (with_reducible refine Below.setCell ?_ ?_ _) | (with_reducible refine below_setRow' ?_ ?_ _) | go_size)) hb1; have hL0 : w.heap.size < w1.heap.size := (by have hS0 := hb1.size; (try simp at hS0); omega); have hLe : w.heap.size ≤ w1.heap.size := hB1.size; obtain ⟨hc1, hf1⟩ := bcell hb1; (try simp only [size_drew', size_drewN'] at hc1); (try simp only [size_drew', size_drewN'] at hf1); have hzA := Gl.zh (HG.out.below hB1 (Nat.le_refl _)); have hzB := Gl.zh' (HG.out.below hB1 (Nat.le_refl _)); clear hb1))
  refine hK.out _ _ ?_ (fun hHeld3 => ?_)
  · ((try dsimp only); (refine ⟨?_, ?_, ?_⟩ <;> (first | (exact Gl.zh (HG.out.below (by repeat' (first | (with_reducible exact Below.refl _ _) | (with_reducible assumption) | (with_reducible refine Below.alloc ?_ ?_ _) | (with_reducible refine Below.drew ?_) | (with_reducible refine below_drewN ?_ _) | (with_reducible refine Below.setCell ?_ ?_ _) | (with_reducible refine below_setRow' ?_ ?_ _) | go_size)) (Nat.le_refl _))) | (exact Gl.zh' (HG.out.below (by repeat' (first | (with_reducible exact Below.refl _ _) | (with_reducible assumption) | (with_reducible refine Below.alloc ?_ ?_ _) | (with_reducible refine Below.drew ?_) | (with_reducible refine below_drewN ?_ _) | (with_reducible refine Below.setCell ?_ ?_ _) | (with_reducible refine below_setRow' ?_ ?_ _) | go_size)) (Nat.le_refl _))) | go_simp)))
  clear hK K hHeld2
  (try simp only [Act.put, List.setIfInBounds_toArray, List.set_cons_zero, List.set_cons_succ, List.getElem_toArray, List.getElem_cons_succ, List.getElem_cons_zero])
  refine wpAnyH_take (i := 11) (oi := _) (v := ?_) rfl (by kernel_rfl) (by kernel_rfl) (by kernel_rfl) (fun _ _ _ h => h) (Or.inl ⟨by rfl, ?_⟩) (by assumption) ?_
  rotate_left 1
  · (intro w hSw; (try dsimp only at hSw); (try simp only [List.getElem_toArray, List.getElem_cons_succ, List.getElem_cons_zero]); first | (go_simp; done) | (go_simp; with_reducible rfl))
  (try simp only [Act.put, List.setIfInBounds_toArray, List.set_cons_zero, List.set_cons_succ, List.getElem_toArray, List.getElem_cons_succ, List.getElem_cons_zero])
  refine wpAnyH_take (i := 12) (oi := _) (v := ?_) rfl (by kernel_rfl) (by kernel_rfl) (by kernel_rfl) (fun _ _ _ h => h) (Or.inl ⟨by rfl, ?_⟩) (by assumption) ?_
  rotate_left 1
  · (intro w hSw; (try dsimp only at hSw); (try simp only [List.getElem_toArray, List.getElem_cons_succ, List.getElem_cons_zero]); first | (go_simp; done) | (go_simp; with_reducible rfl))
  (try simp only [Act.put, List.setIfInBounds_toArray, List.set_cons_zero, List.set_cons_succ, List.getElem_toArray, List.getElem_cons_succ, List.getElem_cons_zero])
  refine wpAnyH_take (i := 13) (oi := _) (v := ?_) rfl (by kernel_rfl) (by kernel_rfl) (by kernel_rfl) (fun _ _ _ h => h) (Or.inl ⟨by rfl, ?_⟩) (by assumption) ?_
  rotate_left 1
  · (intro w hSw; (try dsimp only at hSw); (try simp only [List.getElem_toArray, List.getElem_cons_succ, List.getElem_cons_zero]); first | (go_simp; done) | (go_simp; with_reducible rfl))
  (try simp only [Act.put, List.setIfInBounds_toArray, List.set_cons_zero, List.set_cons_succ, List.getElem_toArray, List.getElem_cons_succ, List.getElem_cons_zero])
  refine wpAnyH_take (i := 14) (oi := _) (v := undef) rfl (by kernel_rfl) (by kernel_rfl) (by kernel_rfl) (fun _ _ _ h => h) (Or.inr ⟨by rfl, rfl⟩) (by assumption) ?_
  (try simp only [Act.put, List.setIfInBounds_toArray, List.set_cons_zero, List.set_cons_succ, List.getElem_toArray, List.getElem_cons_succ, List.getElem_cons_zero])
  refine wpAnyH_ready (rs := [15]) (by kernel_rfl) (by simp) (AllReadyH.cons rfl (fun K hK => ?_) AllReadyH.nil)
  go_simp
  refine hK.out _ _ ?_ (fun hHeld4 => ?_)
  · ((try dsimp only); (refine ⟨?_, ?_, ?_⟩ <;> (first | (exact Gl.zh (HG.out.below (by repeat' (first | (with_reducible exact Below.refl _ _) | (with_reducible assumption) | (with_reducible refine Below.alloc ?_ ?_ _) | (with_reducible refine Below.drew ?_) | (with_reducible refine below_drewN ?_ _) | (with_reducible refine Below.setCell ?_ ?_ _) | (with_reducible refine below_setRow' ?_ ?_ _) | go_size)) (Nat.le_refl _))) | (exact Gl.zh' (HG.out.below (by repeat' (first | (with_reducible exact Below.refl _ _) | (with_reducible assumption) | (with_reducible refine Below.alloc ?_ ?_ _) | (with_reducible refine Below.drew ?_) | (with_reducible refine below_drewN ?_ _) | (with_reducible refine Below.setCell ?_ ?_ _) | (with_reducible refine below_setRow' ?_ ?_ _) | go_size)) (Nat.le_refl _))) | go_simp)))
  clear hK K hHeld3
  (try simp only [Act.put, List.setIfInBounds_toArray, List.set_cons_zero, List.set_cons_succ, List.getElem_toArray, List.getElem_cons_succ, List.getElem_cons_zero])
  refine wpAnyH_take (i := 16) (oi := _) (v := undef) rfl (by kernel_rfl) (by kernel_rfl) (by kernel_rfl) (fun _ _ _ h => h) (Or.inr ⟨by rfl, rfl⟩) (by assumption) ?_
  (try simp only [Act.put, List.setIfInBounds_toArray, List.set_cons_zero, List.set_cons_succ, List.getElem_toArray, List.getElem_cons_succ, List.getElem_cons_zero])
  refine wpAnyH_take (i := 17) (oi := _) (v := ?_) rfl (by kernel_rfl) (by kernel_rfl) (by kernel_rfl) (fun _ _ _ h => h) (Or.inl ⟨by rfl, ?_⟩) (by assumption) ?_
  rotate_left 1
  · (intro w hSw; (try dsimp only at hSw); (try simp only [List.getElem_toArray, List.getElem_cons_succ, List.getElem_cons_zero]); first | (go_simp; done) | (go_simp; with_reducible rfl))
  (try simp only [Act.put, List.setIfInBounds_toArray, List.set_cons_zero, List.set_cons_succ, List.getElem_toArray, List.getElem_cons_succ, List.getElem_cons_zero])
  refine wpAnyH_take (i := 18) (oi := _) (v := ?_) rfl (by kernel_rfl) (by kernel_rfl) (by kernel_rfl) (fun _ _ _ h => h) (Or.inl ⟨by rfl, ?_⟩) (by assumption) ?_
  rotate_left 1
  · (intro w hSw; (try dsimp only at hSw); (try simp only [List.getElem_toArray, List.getElem_cons_succ, List.getElem_cons_zero]); first | (go_simp; done) | (go_simp; with_reducible rfl))
  (try simp only [Act.put, List.setIfInBounds_toArray, List.set_cons_zero, List.set_cons_succ, List.getElem_toArray, List.getElem_cons_succ, List.getElem_cons_zero])
  refine wpAnyH_done (by kernel_rfl) ?_ _
  go_wp2_with fail
  go_ret
  exact ⟨rfl, (by repeat' (first | (with_reducible exact Below.refl _ _) | (with_reducible assumption) | (with_reducible refine Below.alloc ?_ ?_ _) | (with_reducible refine Below.drew ?_) | (with_reducible refine below_drewN ?_ _) | (with_reducible refine Below.setCell ?_ ?_ _) | (with_reducible refine below_setRow' ?_ ?_ _) | go_size))⟩
set_option maxHeartbeats 4000000 in
set_option maxRecDepth 100000 in
theorem gu_4FFT (lo : Int) (hlo : 0 ≤ lo ∧ lo < 18446744073709551616) (h : lo ≠ 281470681743360) (h' : lo ≠ 281474976710655) (hv0 : kLo4 lo = false) (hv1 : kMu4 lo = false) (hv2 : kLU4 lo = true) {b4 o4 b6 o6 : Nat} (w : World) (hg : Gl b4 o4 b6 o6 w) :
    Calls Tryd.prog 127 #[.agg #[.int .u64 (0), .int .u64 (lo), .pointer (some ⟨b4, o4, none⟩)]] w fun e w' => e = .returned (.bool false) ∧ Below w.heap.size w w' := by
  have HG := Lib.hid hg
  have hhi : (0 : Int) ≤ 0 ∧ (0 : Int) < 18446744073709551616 := by omega
  have hE : (lo == 281470681743360) = false := beq_eq_false_iff_ne.2 h
  have hE' : (lo == 281474976710655) = false := beq_eq_false_iff_ne.2 h'
  have HV0 := Lib.hid hv0
  have HV1 := Lib.hid hv1
  have HV2 := Lib.hid hv2
  clear h h' hv0 hv1 hv2
  obtain ⟨⟨z4, z0, s0, s1, s2, l4, c40, c41⟩, z6, zh, zh', l6, c60, c61⟩ := hg
  go_enter Tryd.func127, Tryd.ntmps127
  go_wp2_with (first
    | (go_at_call 90; (with_reducible refine (is4In6_4 (b4 := b4) (o4 := o4) _ _ _ ?_).mono ?_); (exact HG.out.g4.below (by repeat' (first | (with_reducible exact Below.refl _ _) | (with_reducible assumption) | (with_reducible refine Below.alloc ?_ ?_ _) | (with_reducible refine Below.drew ?_) | (with_reducible refine below_drewN ?_ _) | (with_reducible refine Below.setCell ?_ ?_ _) | (with_reducible refine below_setRow' ?_ ?_ _) | go_size)) (Nat.le_refl _)); rintro e w1 ⟨rfl, hb1⟩; have hk1 := blk?_below hb1; (try simp only [size_drew', size_drewN'] at hk1); have hB1 := below_via (w := w) (by repeat' (first | (with_reducible exact Below.refl _ _) | (with_reducible assumption) | (with_reducible refine Below.alloc ?_ ?_ _) | (with_reducible refine Below.drew ?_) | (with_reducible refine below_drewN ?_ _) | (with_reducible refine Below.setCell ?_ ?_ _) | (with_reducible refine below_setRow' ?_ ?_ _) | go_size)) hb1; have hL0 : w.heap.size < w1.heap.size := (by have hS0 := hb1.size; (try simp at hS0); omega); have hLe : w.heap.size ≤ w1.heap.size := hB1.size; obtain ⟨hc1, hf1⟩ := bcell hb1; (try simp only [size_drew', size_drewN'] at hc1); (try simp only [size_drew', size_drewN'] at hf1); have hzA := Gl.zh (HG.out.below hB1 (Nat.le_refl _)); have hzB := Gl.zh' (HG.out.below hB1 (Nat.le_refl _)); clear hb1))
  refine wp_region_held_drew (S := fun w' => blk? w' (w.heap.size) = some (#[.int .u64 (0), .int .u64 (lo), .pointer (some ⟨b4, o4, none⟩)]) ∧ Zh ⟨b4, o4, none⟩ ⟨b6, o6, none⟩ w' ∧ Zh ⟨b6, o6, none⟩ ⟨b4, o4, none⟩ w') (by kernel_rfl) ?_ (fun hHeld0 => ?_)
  · ((try dsimp only); (refine ⟨?_, ?_, ?_⟩ <;> (first | (exact Gl.zh (HG.out.below (by repeat' (first | (with_reducible exact Below.refl _ _) | (with_reducible assumption) | (with_reducible refine Below.alloc ?_ ?_ _) | (with_reducible refine Below.drew ?_) | (with_reducible refine below_drewN ?_ _) | (with_reducible refine Below.setCell ?_ ?_ _) | (with_reducible refine below_setRow' ?_ ?_ _) | go_size)) (Nat.le_refl _))) | (exact Gl.zh' (HG.out.below (by repeat' (first | (with_reducible exact Below.refl _ _) | (with_reducible assumption) | (with_reducible refine Below.alloc ?_ ?_ _) | (with_reducible refine Below.drew ?_) | (with_reducible refine below_drewN ?_ _) | (with_reducible refine Below.setCell ?_ ?_ _) | (with_reducible refine below_setRow' ?_ ?_ _) | go_size)) (Nat.le_refl _))) | go_simp)))
  refine wpAnyH_take (i := 0) (oi := _) (v := ?_) rfl (by kernel_rfl) (by kernel_rfl) (by kernel_rfl) (fun _ _ _ h => h) (Or.inl ⟨by rfl, ?_⟩) (by assumption) ?_
  rotate_left 1
  · (intro w hSw; (try dsimp only at hSw); (try simp only [List.getElem_toArray, List.getElem_cons_succ, List.getElem_cons_zero]); first | (go_simp; done) | (go_simp; with_reducible rfl))
  (try simp only [Act.put, List.setIfInBounds_toArray, List.set_cons_zero, List.set_cons_succ, List.getElem_toArray, List.getElem_cons_succ, List.getElem_cons_zero])
  refine wpAnyH_ready (rs := [1]) (by kernel_rfl) (by simp) (AllReadyH.cons rfl (fun K hK => ?_) AllReadyH.nil)
  go_simp
  go_wp2_with (first
    | (go_at_call 134; (with_reducible refine (is4_4 (b4 := b4) (o4 := o4) _ _ _ ?_).mono ?_); (exact HG.out.g4.below (by repeat' (first | (with_reducible exact Below.refl _ _) | (with_reducible assumption) | (with_reducible refine Below.alloc ?_ ?_ _) | (with_reducible refine Below.drew ?_) | (with_reducible refine below_drewN ?_ _) | (with_reducible refine Below.setCell ?_ ?_ _) | (with_reducible refine below_setRow' ?_ ?_ _) | go_size)) (Nat.le_refl _)); rintro e w1 ⟨rfl, hb1⟩; have hk1 := blk?_below hb1; (try simp only [size_drew', size_drewN'] at hk1); have hB1 := below_via (w := w) (by repeat' (first | (with_reducible exact Below.refl _ _) | (with_reducible assumption) | (with_reducible refine Below.alloc ?_ ?_ _) | (with_reducible refine Below.drew ?_) | (with_reducible refine below_drewN ?_ _) | (with_reducible refine Below.setCell ?_ ?_ _) | (with_reducible refine below_setRow' ?_ ?_ _) | go_size)) hb1; have hL0 : w.heap.size < w1.heap.size := (by have hS0 := hb1.size; (try simp at hS0); omega); have hLe : w.heap.size ≤ w1.heap.size := hB1.size; obtain ⟨hc1, hf1⟩ := bcell hb1; (try simp only [size_drew', size_drewN'] at hc1); (try simp only [size_drew', size_drewN'] at hf1); have hzA := Gl.zh (HG.out.below hB1 (Nat.le_refl _)); have hzB := Gl.zh' (HG.out.below hB1 (Nat.le_refl _)); clear hb1))
  refine hK.out _ _ ?_ (fun hHeld1 => ?_)
  · ((try dsimp only); (refine ⟨?_, ?_, ?_⟩ <;> (first | (exact Gl.zh (HG.out.below (by repeat' (first | (with_reducible exact Below.refl _ _) | (with_reducible assumption) | (with_reducible refine Below.alloc ?_ ?_ _) | (with_reducible refine Below.drew ?_) | (with_reducible refine below_drewN ?_ _) | (with_reducible refine Below.setCell ?_ ?_ _) | (with_reducible refine below_setRow' ?_ ?_ _) | go_size)) (Nat.le_refl _))) | (exact Gl.zh' (HG.out.below (by repeat' (first | (with_reducible exact Below.refl _ _) | (with_reducible assumption) | (with_reducible refine Below.alloc ?_ ?_ _) | (with_reducible refine Below.drew ?_) | (with_reducible refine below_drewN ?_ _) | (with_reducible refine Below.setCell ?_ ?_ _) | (with_reducible refine below_setRow' ?_ ?_ _) | go_size)) (Nat.le_refl _))) | go_simp)))
  clear hK K hHeld0
  (try simp only [Act.put, List.setIfInBounds_toArray, List.set_cons_zero, List.set_cons_succ, List.getElem_toArray, List.getElem_cons_succ, List.getElem_cons_zero])
  refine wpAnyH_take (i := 2) (oi := _) (v := ?_) rfl (by kernel_rfl) (by kernel_rfl) (by kernel_rfl) (fun _ _ _ h => h) (Or.inl ⟨by rfl, ?_⟩) (by assumption) ?_
  rotate_left 1
  · (intro w hSw; (try dsimp only at hSw); (try simp only [List.getElem_toArray, List.getElem_cons_succ, List.getElem_cons_zero]); first | (go_simp; done) | (go_simp; with_reducible rfl))
  (try simp only [Act.put, List.setIfInBounds_toArray, List.set_cons_zero, List.set_cons_succ, List.getElem_toArray, List.getElem_cons_succ, List.getElem_cons_zero])
  refine wpAnyH_take (i := 3) (oi := _) (v := ?_) rfl (by kernel_rfl) (by kernel_rfl) (by kernel_rfl) (fun _ _ _ h => h) (Or.inl ⟨by rfl, ?_⟩) (by assumption) ?_
  rotate_left 1
  · (intro w hSw; (try dsimp only at hSw); (try simp only [List.getElem_toArray, List.getElem_cons_succ, List.getElem_cons_zero]); first | (go_simp; done) | (go_simp; with_reducible rfl))
  (try simp only [Act.put, List.setIfInBounds_toArray, List.set_cons_zero, List.set_cons_succ, List.getElem_toArray, List.getElem_cons_succ, List.getElem_cons_zero])
  refine wpAnyH_ready (rs := [4]) (by kernel_rfl) (by simp) (AllReadyH.cons rfl (fun K hK => ?_) AllReadyH.nil)
  go_simp
  go_wp2_with (first
    | (go_at_call 73; (with_reducible refine (unsp4 (b4 := b4) (o4 := o4) _ ?_).mono ?_); (exact HG.out.g4.below (by repeat' (first | (with_reducible exact Below.refl _ _) | (with_reducible assumption) | (with_reducible refine Below.alloc ?_ ?_ _) | (with_reducible refine Below.drew ?_) | (with_reducible refine below_drewN ?_ _) | (with_reducible refine Below.setCell ?_ ?_ _) | (with_reducible refine below_setRow' ?_ ?_ _) | go_size)) (Nat.le_refl _)); rintro e w1 ⟨rfl, hb1⟩; have hk1 := blk?_below hb1; (try simp only [size_drew', size_drewN'] at hk1); have hB1 := below_via (w := w) (by repeat' (first | (with_reducible exact Below.refl _ _) | (with_reducible assumption) | (with_reducible refine Below.alloc ?_ ?_ _) | (with_reducible refine Below.drew ?_) | (with_reducible refine below_drewN ?_ _) | (with_reducible refine Below.setCell ?_ ?_ _) | (with_reducible refine below_setRow' ?_ ?_ _) | go_size)) hb1; have hL0 : w.heap.size < w1.heap.size := (by have hS0 := hb1.size; (try simp at hS0); omega); have hLe : w.heap.size ≤ w1.heap.size := hB1.size; obtain ⟨hc1, hf1⟩ := bcell hb1; (try simp only [size_drew', size_drewN'] at hc1); (try simp only [size_drew', size_drewN'] at hf1); have hzA := Gl.zh (HG.out.below hB1 (Nat.le_refl _)); have hzB := Gl.zh' (HG.out.below hB1 (Nat.le_refl _)); clear hb1))
  refine hK.out _ _ ?_ (fun hHeld2 => ?_)
  · ((try dsimp only); (refine ⟨?_, ?_, ?_⟩ <;> (first | (exact Gl.zh (HG.out.below (by repeat' (first | (with_reducible exact Below.refl _ _) | (with_reducible assumption) | (with_reducible refine Below.alloc ?_ ?_ _) | (with_reducible refine Below.drew ?_) | (with_reducible refine below_drewN ?_ _) | (with_reducible refine Below.setCell ?_ ?_ _) | (with_reducible refine below_setRow' ?_ ?_ _) | go_size)) (Nat.le_refl _))) | (exact Gl.zh' (HG.out.below (by repeat' (first | (with_reducible exact Below.refl _ _) | (with_reducible assumption) | (with_reducible refine Below.alloc ?_ ?_ _) | (with_reducible refine Below.drew ?_) | (with_reducible refine below_drewN ?_ _) | (with_reducible refine Below.setCell ?_ ?_ _) | (with_reducible refine below_setRow' ?_ ?_ _) | go_size)) (Nat.le_refl _))) | go_simp)))
  clear hK K hHeld1
  (try simp only [Act.put, List.setIfInBounds_toArray, List.set_cons_zero, List.set_cons_succ, List.getElem_toArray, List.getElem_cons_succ, List.getElem_cons_zero])
  refine wpAnyH_take (i := 5) (oi := _) (v := ?_) rfl (by kernel_rfl) (by kernel_rfl) (by kernel_rfl) (fun _ _ _ h => h) (Or.inl ⟨by rfl, ?_⟩) (by assumption) ?_
  rotate_left 1
  · (intro w hSw; (try dsimp only at hSw); (try simp only [List.getElem_toArray, List.getElem_cons_succ, List.getElem_cons_zero]); first | (go_simp; done) | (go_simp; with_reducible rfl))
  (try simp only [Act.put, List.setIfInBounds_toArray, List.set_cons_zero, List.set_cons_succ, List.getElem_toArray, List.getElem_cons_succ, List.getElem_cons_zero])
  refine wpAnyH_take (i := 6) (oi := _) (v := ?_) rfl (by kernel_rfl) (by kernel_rfl) (by kernel_rfl) (fun _ _ _ h => h) (Or.inl ⟨by rfl, ?_⟩) (by assumption) ?_
  rotate_left 1
  · (intro w hSw; (try dsimp only at hSw); (try simp only [List.getElem_toArray, List.getElem_cons_succ, List.getElem_cons_zero]); first | (go_simp; done) | (go_simp; with_reducible rfl))
  (try simp only [Act.put, List.setIfInBounds_toArray, List.set_cons_zero, List.set_cons_succ, List.getElem_toArray, List.getElem_cons_succ, List.getElem_cons_zero])
  refine wpAnyH_take (i := 7) (oi := _) (v := ?_) rfl (by kernel_rfl) (by kernel_rfl) (by kernel_rfl) (fun _ _ _ h => h) (Or.inl ⟨by rfl, ?_⟩) (by assumption) ?_
  rotate_left 1
  · (intro w hSw; (try dsimp only at hSw); (try simp only [List.getElem_toArray, List.getElem_cons_succ, List.getElem_cons_zero]); first | (go_simp; done) | (go_simp; with_reducible rfl))
  (try simp only [Act.put, List.setIfInBounds_toArray, List.set_cons_zero, List.set_cons_succ, List.getElem_toArray, List.getElem_cons_succ, List.getElem_cons_zero])
  refine wpAnyH_take (i := 8) (oi := _) (v := ?_) rfl (by kernel_rfl) (by kernel_rfl) (by kernel_rfl) (fun _ _ _ h => h) (Or.inl ⟨by rfl, ?_⟩) (by assumption) ?_
  rotate_left 1
  · (intro w hSw; (try dsimp only at hSw); (try simp only [List.getElem_toArray, List.getElem_cons_succ, List.getElem_cons_zero]); first | (go_simp; done) | (go_simp; with_reducible rfl))
  (try simp only [Act.put, List.setIfInBounds_toArray, List.set_cons_zero, List.set_cons_succ, List.getElem_toArray, List.getElem_cons_succ, List.getElem_cons_zero])
  refine wpAnyH_ready (rs := [9]) (by kernel_rfl) (by simp) (AllReadyH.cons rfl (fun K hK => ?_) AllReadyH.nil)
  go_simp
  go_wp2_with (first
    | (go_at_call 70; (with_reducible refine (afr4_ff (b4 := b4) (o4 := o4) _ ?_).mono ?_); (exact HG.out.g4.below (by repeat' (first | (with_reducible exact Below.refl _ _) | (with_reducible assumption) | (with_reducible refine Below.alloc ?_ ?_ _) | (with_reducible refine Below.drew ?_) | (with_reducible refine below_drewN ?_ _) | (with_reducible refine Below.setCell ?_ ?_ _) | (with_reducible refine below_setRow' ?_ ?_ _) | go_size)) (Nat.le_refl _)); rintro e w1 ⟨rfl, hb1⟩; have hk1 := blk?_below hb1; (try simp only [size_drew', size_drewN'] at hk1); have hB1 := below_via (w := w) (by repeat' (first | (with_reducible exact Below.refl _ _) | (with_reducible assumption) | (with_reducible refine Below.alloc ?_ ?_ _) | (with_reducible refine Below.drew ?_) | (with_reducible refine below_drewN ?_ _) | (with_reducible refine Below.setCell ?_ ?_ _) | (with_reducible refine below_setRow' ?_ ?_ _) | go_size)) hb1; have hL0 : w.heap.size < w1.heap.size := (by have hS0 := hb1.size; (try simp at hS0); omega); have hLe : w.heap.size ≤ w1.heap.size := hB1.size; obtain ⟨hc1, hf1⟩ := bcell hb1; (try simp only [size_drew', size_drewN'] at hc1); (try simp only [size_drew', size_drewN'] at hf1); have hzA := Gl.zh (HG.out.below hB1 (Nat.le_refl _)); have hzB := Gl.zh' (HG.out.below hB1 (Nat.le_refl _)); clear hb1))
  refine hK.out _ _ ?_ (fun hHeld3 => ?_)
  · ((try dsimp only); (refine ⟨?_, ?_, ?_⟩ <;> (first | (exact Gl.zh (HG.out.below (by repeat' (first | (with_reducible exact Below.refl _ _) | (with_reducible assumption) | (with_reducible refine Below.alloc ?_ ?_ _) | (with_reducible refine Below.drew ?_) | (with_reducible refine below_drewN ?_ _) | (with_reducible refine Below.setCell ?_ ?_ _) | (with_reducible refine below_setRow' ?_ ?_ _) | go_size)) (Nat.le_refl _))) | (exact Gl.zh' (HG.out.below (by repeat' (first | (with_reducible exact Below.refl _ _) | (with_reducible assumption) | (with_reducible refine Below.alloc ?_ ?_ _) | (with_reducible refine Below.drew ?_) | (with_reducible refine below_drewN ?_ _) | (with_reducible refine Below.setCell ?_ ?_ _) | (with_reducible refine below_setRow' ?_ ?_ _) | go_size)) (Nat.le_refl _))) | go_simp)))
  clear hK K hHeld2
  (try simp only [Act.put, List.setIfInBounds_toArray, List.set_cons_zero, List.set_cons_succ, List.getElem_toArray, List.getElem_cons_succ, List.getElem_cons_zero])
  refine wpAnyH_take (i := 10) (oi := _) (v := ?_) rfl (by kernel_rfl) (by kernel_rfl) (by kernel_rfl) (fun _ _ _ h => h) (Or.inl ⟨by rfl, ?_⟩) (by assumption) ?_
  rotate_left 1
  · (intro w hSw; (try dsimp only at hSw); (try simp only [List.getElem_toArray, List.getElem_cons_succ, List.getElem_cons_zero]); first | (go_simp; done) | (go_simp; with_reducible rfl))
  (try simp only [Act.put, List.setIfInBounds_toArray, List.set_cons_zero, List.set_cons_succ, List.getElem_toArray, List.getElem_cons_succ, List.getElem_cons_zero])
  refine wpAnyH_take (i := 11) (oi := _) (v := ?_) rfl (by kernel_rfl) (by kernel_rfl) (by kernel_rfl) (fun _ _ _ h => h) (Or.inl ⟨by rfl, ?_⟩) (by assumption) ?_
  rotate_left 1
  · (intro w hSw; (try dsimp only at hSw); (try simp only [List.getElem_toArray, List.getElem_cons_succ, List.getElem_cons_zero]); first | (go_simp; done) | (go_simp; with_reducible rfl))
  (try simp only [Act.put, List.setIfInBounds_toArray, List.set_cons_zero, List.set_cons_succ, List.getElem_toArray, List.getElem_cons_succ, List.getElem_cons_zero])
  refine wpAnyH_take (i := 12) (oi := _) (v := ?_) rfl (by kernel_rfl) (by kernel_rfl) (by kernel_rfl) (fun _ _ _ h => h) (Or.inl ⟨by rfl, ?_⟩) (by assumption) ?_
  rotate_left 1
  · (intro w hSw; (try dsimp only at hSw); (try simp only [List.getElem_toArray, List.getElem_cons_succ, List.getElem_cons_zero]); first | (go_simp; done) | (go_simp; with_reducible rfl))
  (try simp only [Act.put, List.setIfInBounds_toArray, List.set_cons_zero, List.set_cons_succ, List.getElem_toArray, List.getElem_cons_succ, List.getElem_cons_zero])
  refine wpAnyH_done (by kernel_rfl) ?_ _
  go_wp2_with fail
  refine wp_region_held_drew (S := fun w' => blk? w' (w.heap.size) = some (#[.int .u64 (0), .int .u64 (lo), .pointer (some ⟨b4, o4, none⟩)]) ∧ Zh ⟨b4, o4, none⟩ ⟨b6, o6, none⟩ w' ∧ Zh ⟨b6, o6, none⟩ ⟨b4, o4, none⟩ w') (by kernel_rfl) ?_ (fun hHeld0 => ?_)
  · ((try dsimp only); (refine ⟨?_, ?_, ?_⟩ <;> (first | (exact Gl.zh (HG.out.below (by repeat' (first | (with_reducible exact Below.refl _ _) | (with_reducible assumption) | (with_reducible refine Below.alloc ?_ ?_ _) | (with_reducible refine Below.drew ?_) | (with_reducible refine below_drewN ?_ _) | (with_reducible refine Below.setCell ?_ ?_ _) | (with_reducible refine below_setRow' ?_ ?_ _) | go_size)) (Nat.le_refl _))) | (exact Gl.zh' (HG.out.below (by repeat' (first | (with_reducible exact Below.refl _ _) | (with_reducible assumption) | (with_reducible refine Below.alloc ?_ ?_ _) | (with_reducible refine Below.drew ?_) | (with_reducible refine below_drewN ?_ _) | (with_reducible refine Below.setCell ?_ ?_ _) | (with_reducible refine below_setRow' ?_ ?_ _) | go_size)) (Nat.le_refl _))) | go_simp)))
  refine wpAnyH_take (i := 0) (oi := _) (v := ?_) rfl (by kernel_rfl) (by kernel_rfl) (by kernel_rfl) (fun _ _ _ h => h) (Or.inl ⟨by rfl, ?_⟩) (by assumption) ?_
  rotate_left 1
  · (intro w hSw; (try dsimp only at hSw); (try simp only [List.getElem_toArray, List.getElem_cons_succ, List.getElem_cons_zero]); first | (go_simp; done) | (go_simp; with_reducible rfl))
  (try simp only [Act.put, List.setIfInBounds_toArray, List.set_cons_zero, List.set_cons_succ, List.getElem_toArray, List.getElem_cons_succ, List.getElem_cons_zero])
  refine wpAnyH_ready (rs := [1]) (by kernel_rfl) (by simp) (AllReadyH.cons rfl (fun K hK => ?_) AllReadyH.nil)
  go_simp
  go_wp2_with (first
    | (go_at_call 74; (with_reducible refine (unsp6 (b4 := b4) (o4 := o4) (b6 := b6) (o6 := o6) _ ?_).mono ?_); (exact HG.out.below (by repeat' (first | (with_reducible exact Below.refl _ _) | (with_reducible assumption) | (with_reducible refine Below.alloc ?_ ?_ _) | (with_reducible refine Below.drew ?_) | (with_reducible refine below_drewN ?_ _) | (with_reducible refine Below.setCell ?_ ?_ _) | (with_reducible refine below_setRow' ?_ ?_ _) | go_size)) (Nat.le_refl _)); rintro e w1 ⟨rfl, hb1⟩; have hk1 := blk?_below hb1; (try simp only [size_drew', size_drewN'] at hk1); have hB1 := below_via (w := w) (by repeat' (first | (with_reducible exact Below.refl _ _) | (with_reducible assumption) | (with_reducible refine Below.alloc ?_ ?_ _) | (with_reducible refine Below.drew ?_) | (with_reducible refine below_drewN ?_ _) | (with_reducible refine Below.setCell ?_ ?_ _) | (with_reducible refine below_setRow' ?_ ?_ _) | go_size)) hb1; have hL0 : w.heap.size < w1.heap.size := (by have hS0 := hb1.size; (try simp at hS0); omega); have hLe : w.heap.size ≤ w1.heap.size := hB1.size; obtain ⟨hc1, hf1⟩ := bcell hb1; (try simp only [size_drew', size_drewN'] at hc1); (try simp only [size_drew', size_drewN'] at hf1); have hzA := Gl.zh (HG.out.below hB1 (Nat.le_refl _)); have hzB := Gl.zh' (HG.out.below hB1 (Nat.le_refl _)); clear hb1))
  refine hK.out _ _ ?_ (fun hHeld1 => ?_)
  · ((try dsimp only); (refine ⟨?_, ?_, ?_⟩ <;> (first | (exact Gl.zh (HG.out.below (by repeat' (first | (with_reducible exact Below.refl _ _) | (with_reducible assumption) | (with_reducible refine Below.alloc ?_ ?_ _) | (with_reducible refine Below.drew ?_) | (with_reducible refine below_drewN ?_ _) | (with_reducible refine Below.setCell ?_ ?_ _) | (with_reducible refine below_setRow' ?_ ?_ _) | go_size)) (Nat.le_refl _))) | (exact Gl.zh' (HG.out.below (by repeat' (first | (with_reducible exact Below.refl _ _) | (with_reducible assumption) | (with_reducible refine Below.alloc ?_ ?_ _) | (with_reducible refine Below.drew ?_) | (with_reducible refine below_drewN ?_ _) | (with_reducible refine Below.setCell ?_ ?_ _) | (with_reducible refine below_setRow' ?_ ?_ _) | go_size)) (Nat.le_refl _))) | go_simp)))
  clear hK K hHeld0
  (try simp only [Act.put, List.setIfInBounds_toArray, List.set_cons_zero, List.set_cons_succ, List.getElem_toArray, List.getElem_cons_succ, List.getElem_cons_zero])
  refine wpAnyH_take (i := 2) (oi := _) (v := ?_) rfl (by kernel_rfl) (by kernel_rfl) (by kernel_rfl) (fun _ _ _ h => h) (Or.inl ⟨by rfl, ?_⟩) (by assumption) ?_
  rotate_left 1
  · (intro w hSw; (try dsimp only at hSw); (try simp only [List.getElem_toArray, List.getElem_cons_succ, List.getElem_cons_zero]); first | (go_simp; done) | (go_simp; with_reducible rfl))
  (try simp only [Act.put, List.setIfInBounds_toArray, List.set_cons_zero, List.set_cons_succ, List.getElem_toArray, List.getElem_cons_succ, List.getElem_cons_zero])
  refine wpAnyH_take (i := 3) (oi := _) (v := ?_) rfl (by kernel_rfl) (by kernel_rfl) (by kernel_rfl) (fun _ _ _ h => h) (Or.inl ⟨by rfl, ?_⟩) (by assumption) ?_
  rotate_left 1
  · (intro w hSw; (try dsimp only at hSw); (try simp only [List.getElem_toArray, List.getElem_cons_succ, List.getElem_cons_zero]); first | (go_simp; done) | (go_simp; with_reducible rfl))
  (try simp only [Act.put, List.setIfInBounds_toArray, List.set_cons_zero, List.set_cons_succ, List.getElem_toArray, List.getElem_cons_succ, List.getElem_cons_zero])
  refine wpAnyH_take (i := 4) (oi := _) (v := ?_) rfl (by kernel_rfl) (by kernel_rfl) (by kernel_rfl) (fun _ _ _ h => h) (Or.inl ⟨by rfl, ?_⟩) (by assumption) ?_
  rotate_left 1
  · (intro w hSw; (try dsimp only at hSw); (try simp only [List.getElem_toArray, List.getElem_cons_succ, List.getElem_cons_zero]); first | (go_simp; done) | (go_simp; with_reducible rfl))
  (try simp only [Act.put, List.setIfInBounds_toArray, List.set_cons_zero, List.set_cons_succ, List.getElem_toArray, List.getElem_cons_succ, List.getElem_cons_zero])
  refine wpAnyH_ready (rs := [5]) (by kernel_rfl) (by simp) (AllReadyH.cons rfl (fun K hK => ?_) AllReadyH.nil)
  go_simp
  go_wp2_with (first
    | (go_at_call 113; (with_reducible refine (kLoop_4v (b4 := b4) (o4 := o4) _ _ false HV0.out hhi hlo _ ?_).mono ?_); (exact HG.out.g4.below (by repeat' (first | (with_reducible exact Below.refl _ _) | (with_reducible assumption) | (with_reducible refine Below.alloc ?_ ?_ _) | (with_reducible refine Below.drew ?_) | (with_reducible refine below_drewN ?_ _) | (with_reducible refine Below.setCell ?_ ?_ _) | (with_reducible refine below_setRow' ?_ ?_ _) | go_size)) (Nat.le_refl _)); rintro e w1 ⟨rfl, hb1⟩; have hk1 := blk?_below hb1; (try simp only [size_drew', size_drewN'] at hk1); have hB1 := below_via (w := w) (by repeat' (first | (with_reducible exact Below.refl _ _) | (with_reducible assumption) | (with_reducible refine Below.alloc ?_ ?_ _) | (with_reducible refine Below.drew ?_) | (with_reducible refine below_drewN ?_ _) | (with_reducible refine Below.setCell ?_ ?_ _) | (with_reducible refine below_setRow' ?_ ?_ _) | go_size)) hb1; have hL0 : w.heap.size < w1.heap.size := (by have hS0 := hb1.size; (try simp at hS0); omega); have hLe : w.heap.size ≤ w1.heap.size := hB1.size; obtain ⟨hc1, hf1⟩ := bcell hb1; (try simp only [size_drew', size_drewN'] at hc1); (try simp only [size_drew', size_drewN'] at hf1); have hzA := Gl.zh (HG.out.below hB1 (Nat.le_refl _)); have hzB := Gl.zh' (HG.out.below hB1 (Nat.le_refl _)); clear hb1))
  refine hK.out _ _ ?_ (fun hHeld2 => ?_)
  · ((try dsimp only); (refine ⟨?_, ?_, ?_⟩ <;> (first | (exact Gl.zh (HG.out.below (by repeat' (first | (with_reducible exact Below.refl _ _) | (with_reducible assumption) | (with_reducible refine Below.alloc ?_ ?_ _) | (with_reducible refine Below.drew ?_) | (with_reducible refine below_drewN ?_ _) | (with_reducible refine Below.setCell ?_ ?_ _) | (with_reducible refine below_setRow' ?_ ?_ _) | go_size)) (Nat.le_refl _))) | (exact Gl.zh' (HG.out.below (by repeat' (first | (with_reducible exact Below.refl _ _) | (with_reducible assumption) | (with_reducible refine Below.alloc ?_ ?_ _) | (with_reducible refine Below.drew ?_) | (with_reducible refine below_drewN ?_ _) | (with_reducible refine Below.setCell ?_ ?_ _) | (with_reducible refine below_setRow' ?_ ?_ _) | go_size)) (Nat.le_refl _))) | go_simp)))
  clear hK K hHeld1
  (try simp only [Act.put, List.setIfInBounds_toArray, List.set_cons_zero, List.set_cons_succ, List.getElem_toArray, List.getElem_cons_succ, List.getElem_cons_zero])
  refine wpAnyH_take (i := 6) (oi := _) (v := ?_) rfl (by kernel_rfl) (by kernel_rfl) (by kernel_rfl) (fun _ _ _ h => h) (Or.inl ⟨by rfl, ?_⟩) (by assumption) ?_
  rotate_left 1
  · (intro w hSw; (try dsimp only at hSw); (try simp only [List.getElem_toArray, List.getElem_cons_succ, List.getElem_cons_zero]); first | (go_simp; done) | (go_simp; with_reducible rfl))
  (try simp only [Act.put, List.setIfInBounds_toArray, List.set_cons_zero, List.set_cons_succ, List.getElem_toArray, List.getElem_cons_succ, List.getElem_cons_zero])
  refine wpAnyH_take (i := 7) (oi := _) (v := ?_) rfl (by kernel_rfl) (by kernel_rfl) (by kernel_rfl) (fun _ _ _ h => h) (Or.inl ⟨by rfl, ?_⟩) (by assumption) ?_
  rotate_left 1
  · (intro w hSw; (try dsimp only at hSw); (try simp only [List.getElem_toArray, List.getElem_cons_succ, List.getElem_cons_zero]); first | (go_simp; done) | (go_simp; with_reducible rfl))
  (try simp only [Act.put, List.setIfInBounds_toArray, List.set_cons_zero, List.set_cons_succ, List.getElem_toArray, List.getElem_cons_succ, List.getElem_cons_zero])
  refine wpAnyH_take (i := 8) (oi := _) (v := ?_) rfl (by kernel_rfl) (by kernel_rfl) (by kernel_rfl) (fun _ _ _ h => h) (Or.inl ⟨by rfl, ?_⟩) (by assumption) ?_
  rotate_left 1
  · (intro w hSw; (try dsimp only at hSw); (try simp only [List.getElem_toArray, List.getElem_cons_succ, List.getElem_cons_zero]); first | (go_simp; done) | (go_simp; with_reducible rfl))
  (try simp only [Act.put, List.setIfInBounds_toArray, List.set_cons_zero, List.set_cons_succ, List.getElem_toArray, List.getElem_cons_succ, List.getElem_cons_zero])
  refine wpAnyH_take (i := 9) (oi := _) (v := ?_) rfl (by kernel_rfl) (by kernel_rfl) (by kernel_rfl) (fun _ _ _ h => h) (Or.inl ⟨by rfl, ?_⟩) (by assumption) ?_
  rotate_left 1
  · (intro w hSw; (try dsimp only at hSw); (try simp only [List.getElem_toArray, List.getElem_cons_succ, List.getElem_cons_zero]); first | (go_simp; done) | (go_simp; with_reducible rfl))
  (try simp only [Act.put, List.setIfInBounds_toArray, List.set_cons_zero, List.set_cons_succ, List.getElem_toArray, List.getElem_cons_succ, List.getElem_cons_zero])
  refine wpAnyH_ready (rs := [10]) (by kernel_rfl) (by simp) (AllReadyH.cons rfl (fun K hK => ?_) AllReadyH.nil)
  go_simp
  go_wp2_with (first
    | (go_at_call 140; (with_reducible refine (kMult_4v (b4 := b4) (o4 := o4) _ _ false HV1.out hhi hlo _ ?_).mono ?_); (exact HG.out.g4.below (by repeat' (first | (with_reducible exact Below.refl _ _) | (with_reducible assumption) | (with_reducible refine Below.alloc ?_ ?_ _) | (with_reducible refine Below.drew ?_) | (with_reducible refine below_drewN ?_ _) | (with_reducible refine Below.setCell ?_ ?_ _) | (with_reducible refine below_setRow' ?_ ?_ _) | go_size)) (Nat.le_refl _)); rintro e w1 ⟨rfl, hb1⟩; have hk1 := blk?_below hb1; (try simp only [size_drew', size_drewN'] at hk1); have hB1 := below_via (w := w) (by repeat' (first | (with_reducible exact Below.refl _ _) | (with_reducible assumption) | (with_reducible refine Below.alloc ?_ ?_ _) | (with_reducible refine Below.drew ?_) | (with_reducible refine below_drewN ?_ _) | (with_reducible refine Below.setCell ?_ ?_ _) | (with_reducible refine below_setRow' ?_ ?_ _) | go_size)) hb1; have hL0 : w.heap.size < w1.heap.size := (by have hS0 := hb1.size; (try simp at hS0); omega); have hLe : w.heap.size ≤ w1.heap.size := hB1.size; obtain ⟨hc1, hf1⟩ := bcell hb1; (try simp only [size_drew', size_drewN'] at hc1); (try simp only [size_drew', size_drewN'] at hf1); have hzA := Gl.zh (HG.out.below hB1 (Nat.le_refl _)); have hzB := Gl.zh' (HG.out.below hB1 (Nat.le_refl _)); clear hb1))
  refine hK.out _ _ ?_ (fun hHeld3 => ?_)
  · ((try dsimp only); (refine ⟨?_, ?_, ?_⟩ <;> (first | (exact Gl.zh (HG.out.below (by repeat' (first | (with_reducible exact Below.refl _ _) | (with_reducible assumption) | (with_reducible refine Below.alloc ?_ ?_ _) | (with_reducible refine Below.drew ?_) | (with_reducible refine below_drewN ?_ _) | (with_reducible refine Below.setCell ?_ ?_ _) | (with_reducible refine below_setRow' ?_ ?_ _) | go_size)) (Nat.le_refl _))) | (exact Gl.zh' (HG.out.below (by repeat' (first | (with_reducible exact Below.refl _ _) | (with_reducible assumption) | (with_reducible refine Below.alloc ?_ ?_ _) | (with_reducible refine Below.drew ?_) | (with_reducible refine below_drewN ?_ _) | (with_reducible refine Below.setCell ?_ ?_ _) | (with_reducible refine below_setRow' ?_ ?_ _) | go_size)) (Nat.le_refl _))) | go_simp)))
  clear hK K hHeld2
  (try simp only [Act.put, List.setIfInBounds_toArray, List.set_cons_zero, List.set_cons_succ, List.getElem_toArray, List.getElem_cons_succ, List.getElem_cons_zero])
  refine wpAnyH_take (i := 11) (oi := _) (v := ?_) rfl (by kernel_rfl) (by kernel_rfl) (by kernel_rfl) (fun _ _ _ h => h) (Or.inl ⟨by rfl, ?_⟩) (by assumption) ?_
  rotate_left 1
  · (intro w hSw; (try dsimp only at hSw); (try simp only [List.getElem_toArray, List.getElem_cons_succ, List.getElem_cons_zero]); first | (go_simp; done) | (go_simp; with_reducible rfl))
  (try simp only [Act.put, List.setIfInBounds_toArray, List.set_cons_zero, List.set_cons_succ, List.getElem_toArray, List.getElem_cons_succ, List.getElem_cons_zero])
  refine wpAnyH_take (i := 12) (oi := _) (v := ?_) rfl (by kernel_rfl) (by kernel_rfl) (by kernel_rfl) (fun _ _ _ h => h) (Or.inl ⟨by rfl, ?_⟩) (by assumption) ?_
  rotate_left 1
  · (intro w hSw; (try dsimp only at hSw); (try simp only [List.getElem_toArray, List.getElem_cons_succ, List.getElem_cons_zero]); first | (go_simp; done) | (go_simp; with_reducible rfl))
  (try simp only [Act.put, List.setIfInBounds_toArray, List.set_cons_zero, List.set_cons_succ, List.getElem_toArray, List.getElem_cons_succ, List.getElem_cons_zero])
  refine wpAnyH_take (i := 13) (oi := _) (v := ?_) rfl (by kernel_rfl) (by kernel_rfl) (by kernel_rfl) (fun _ _ _ h => h) (Or.inl ⟨by rfl, ?_⟩) (by assumption) ?_
  rotate_left 1
  · (intro w hSw; (try dsimp only at hSw); (try simp only [List.getElem_toArray, List.getElem_cons_succ, List.getElem_cons_zero]); first | (go_simp; done) | (go_simp; with_reducible rfl))
  (try simp only [Act.put, List.setIfInBounds_toArray, List.set_cons_zero, List.set_cons_succ, List.getElem_toArray, List.getElem_cons_succ, List.getElem_cons_zero])
  refine wpAnyH_take (i := 14) (oi := _) (v := ?_) rfl (by kernel_rfl) (by kernel_rfl) (by kernel_rfl) (fun _ _ _ h => h) (Or.inl ⟨by rfl, ?_⟩) (by assumption) ?_
  rotate_left 1
  · (intro w hSw; (try dsimp only at hSw); (try simp only [List.getElem_toArray, List.getElem_cons_succ, List.getElem_cons_zero]); first | (go_simp; done) | (go_simp; with_reducible rfl))
  (try simp only [Act.put, List.setIfInBounds_toArray, List.set_cons_zero, List.set_cons_succ, List.getElem_toArray, List.getElem_cons_succ, List.getElem_cons_zero])
  refine wpAnyH_ready (rs := [15]) (by kernel_rfl) (by simp) (AllReadyH.cons rfl (fun K hK => ?_) AllReadyH.nil)
  go_simp
  go_wp2_with (first
    | (go_at_call 142; (with_reducible refine (kLLU_4v (b4 := b4) (o4 := o4) _ _ true HV2.out hhi hlo _ ?_).mono ?_); (exact HG.out.g4.below (by repeat' (first | (with_reducible exact Below.refl _ _) | (with_reducible assumption) | (with_reducible refine Below.alloc ?_ ?_ _) | (with_reducible refine Below.drew ?_) | (with_reducible refine below_drewN ?_ _) | (with_reducible refine Below.setCell ?_ ?_ _) | (with_reducible refine below_setRow' ?_ ?_ _) | go_size)) (Nat.le_refl _)); rintro e w1 ⟨rfl, hb1⟩; have hk1 := blk?_below hb1; (try simp only [size_drew', size_drewN'] at hk1); have hB1 := below_via (w := w) (by repeat' (first | (with_reducible exact Below.refl _ _) | (with_reducible assumption) | (with_reducible refine Below.alloc ?_ ?_ _) | (with_reducible refine Below.drew ?_) | (with_reducible refine below_drewN ?_ _) | (with_reducible refine Below.setCell ?_ ?_ _) | (with_reducible refine below_setRow' ?_ ?_ _) | go_size)) hb1; have hL0 : w.heap.size < w1.heap.size := (by have hS0 := hb1.size; (try simp at hS0); omega); have hLe : w.heap.size ≤ w1.heap.size := hB1.size; obtain ⟨hc1, hf1⟩ := bcell hb1; (try simp only [size_drew', size_drewN'] at hc1); (try simp only [size_drew', size_drewN'] at hf1); have hzA := Gl.zh (HG.out.below hB1 (Nat.le_refl _)); have hzB := Gl.zh' (HG.out.below hB1 (Nat.le_refl _)); clear hb1))
  refine hK.out _ _ ?_ (fun hHeld4 => ?_)
  · ((try dsimp only); (refine ⟨?_, ?_, ?_⟩ <;> (first | (exact Gl.zh (HG.out.below (by repeat' (first | (with_reducible exact Below.refl _ _) | (with_reducible assumption) | (with_reducible refine Below.alloc ?_ ?_ _) | (with_reducible refine Below.drew ?_) | (with_reducible refine below_drewN ?_ _) | (with_reducible refine Below.setCell ?_ ?_ _) | (with_reducible refine below_setRow' ?_ ?_ _) | go_size)) (Nat.le_refl _))) | (exact Gl.zh' (HG.out.below (by repeat' (first | (with_reducible exact Below.refl _ _) | (with_reducible assumption) | (with_reducible refine Below.alloc ?_ ?_ _) | (with_reducible refine Below.drew ?_) | (with_reducible refine below_drewN ?_ _) | (with_reducible refine Below.setCell ?_ ?_ _) | (with_reducible refine below_setRow' ?_ ?_ _) | go_size)) (Nat.le_refl _))) | go_simp)))
  clear hK K hHeld3
  (try simp only [Act.put, List.setIfInBounds_toArray, List.set_cons_zero, List.set_cons_succ, List.getElem_toArray, List.getElem_cons_succ, List.getElem_cons_zero])
  refine wpAnyH_take (i := 16) (oi := _) (v := ?_) rfl (by kernel_rfl) (by kernel_rfl) (by kernel_rfl) (fun _ _ _ h => h) (Or.inl ⟨by rfl, ?_⟩) (by assumption) ?_
  rotate_left 1
  · (intro w hSw; (try dsimp only at hSw); (try simp only [List.getElem_toArray, List.getElem_cons_succ, List.getElem_cons_zero]); first | (go_simp; done) | (go_simp; with_reducible rfl))
  (try simp only [Act.put, List.setIfInBounds_toArray, List.set_cons_zero, List.set_cons_succ, List.getElem_toArray, List.getElem_cons_succ, List.getElem_cons_zero])
  refine wpAnyH_take (i := 17) (oi := _) (v := ?_) rfl (by kernel_rfl) (by kernel_rfl) (by kernel_rfl) (fun _ _ _ h => h) (Or.inl ⟨by rfl, ?_⟩) (by assumption) ?_
  rotate_left 1
  · (intro w hSw; (try dsimp only at hSw); (try simp only [List.getElem_toArray, List.getElem_cons_succ, List.getElem_cons_zero]); first | (go_simp; done) | (go_simp; with_reducible rfl))
  (try simp only [Act.put, List.setIfInBounds_toArray, List.set_cons_zero, List.set_cons_succ, List.getElem_toArray, List.getElem_cons_succ, List.getElem_cons_zero])
  refine wpAnyH_take (i := 18) (oi := _) (v := ?_) rfl (by kernel_rfl) (by kernel_rfl) (by kernel_rfl) (fun _ _ _ h => h) (Or.inl ⟨by rfl, ?_⟩) (by assumption) ?_
  rotate_left 1
  · (intro w hSw; (try dsimp only at hSw); (try simp only [List.getElem_toArray, List.getElem_cons_succ, List.getElem_cons_zero]); first | (go_simp; done) | (go_simp; with_reducible rfl))
  (try simp only [Act.put, List.setIfInBounds_toArray, List.set_cons_zero, List.set_cons_succ, List.getElem_toArray, List.getElem_cons_succ, List.getElem_cons_zero])
  refine wpAnyH_done (by kernel_rfl) ?_ _
  go_wp2_with fail
  go_ret
  exact ⟨rfl, (by repeat' (first | (with_reducible exact Below.refl _ _) | (with_reducible assumption) | (with_reducible refine Below.alloc ?_ ?_ _) | (with_reducible refine Below.drew ?_) | (with_reducible refine below_drewN ?_ _) | (with_reducible refine Below.setCell ?_ ?_ _) | (with_reducible refine below_setRow' ?_ ?_ _) | go_size))⟩
set_option maxHeartbeats 4000000 in
set_option maxRecDepth 100000 in
theorem gu_4FFF (lo : Int) (hlo : 0 ≤ lo ∧ lo < 18446744073709551616) (h : lo ≠ 281470681743360) (h' : lo ≠ 281474976710655) (hv0 : kLo4 lo = false) (hv1 : kMu4 lo = false) (hv2 : kLU4 lo = false) {b4 o4 b6 o6 : Nat} (w : World) (hg : Gl b4 o4 b6 o6 w) :
    Calls Tryd.prog 127 #[.agg #[.int .u64 (0), .int .u64 (lo), .pointer (some ⟨b4, o4, none⟩)]] w fun e w' => e = .returned (.bool true) ∧ Below w.heap.size w w' := by
  have HG := Lib.hid hg
  have hhi : (0 : Int) ≤ 0 ∧ (0 : Int) < 18446744073709551616 := by omega
  have hE : (lo == 281470681743360) = false := beq_eq_false_iff_ne.2 h
  have hE' : (lo == 281474976710655) = false := beq_eq_false_iff_ne.2 h'
  have HV0 := Lib.hid hv0
  have HV1 := Lib.hid hv1
  have HV2 := Lib.hid hv2
  clear h h' hv0 hv1 hv2
  obtain ⟨⟨z4, z0, s0, s1, s2, l4, c40, c41⟩, z6, zh, zh', l6, c60, c61⟩ := hg
  go_enter Tryd.func127, Tryd.ntmps127
  go_wp2_with (first
    | (go_at_call 90; (with_reducible refine (is4In6_4 (b4 := b4) (o4 := o4) _ _ _ ?_).mono ?_); (exact HG.out.g4.below (by repeat' (first | (with_reducible exact Below.refl _ _) | (with_reducible assumption) | (with_reducible refine Below.alloc ?_ ?_ _) | (with_reducible refine Below.drew ?_) | (with_reducible refine below_drewN ?_ _) | (with_reducible refine Below.setCell ?_ ?_ _) | (with_reducible refine below_setRow' ?_ ?_ _) | go_size)) (Nat.le_refl _)); rintro e w1 ⟨rfl, hb1⟩; have hk1 := blk?_below hb1; (try simp only [size_drew', size_drewN'] at hk1); have hB1 := below_via (w := w) (by repeat' (first | (with_reducible exact Below.refl _ _) | (with_reducible assumption) | (with_reducible refine Below.alloc ?_ ?_ _) | (with_reducible refine Below.drew ?_) | (with_reducible refine below_drewN ?_ _) | (with_reducible refine Below.setCell ?_ ?_ _) | (with_reducible refine below_setRow' ?_ ?_ _) | go_size)) hb1; have hL0 : w.heap.size < w1.heap.size := (by have hS0 := hb1.size; (try simp at hS0); omega); have hLe : w.heap.size ≤ w1.heap.size := hB1.size; obtain ⟨hc1, hf1⟩ := bcell hb1; (try simp only [size_drew', size_drewN'] at hc1); (try simp only [size_drew', size_drewN'] at hf1); have hzA := Gl.zh (HG.out.below hB1 (Nat.le_refl _)); have hzB := Gl.zh' (HG.out.below hB1 (Nat.le_refl _)); clear hb1))
  refine wp_region_held_drew (S := fun w' => blk? w' (w.heap.size) = some (#[.int .u64 (0), .int .u64 (lo), .pointer (some ⟨b4, o4, none⟩)]) ∧ Zh ⟨b4, o4, none⟩ ⟨b6, o6, none⟩ w' ∧ Zh ⟨b6, o6, none⟩ ⟨b4, o4, none⟩ w') (by kernel_rfl) ?_ (fun hHeld0 => ?_)
  · ((try dsimp only); (refine ⟨?_, ?_, ?_⟩ <;> (first | (exact Gl.zh (HG.out.below (by repeat' (first | (with_reducible exact Below.refl _ _) | (with_reducible assumption) | (with_reducible refine Below.alloc ?_ ?_ _) | (with_reducible refine Below.drew ?_) | (with_reducible refine below_drewN ?_ _) | (with_reducible refine Below.setCell ?_ ?_ _) | (with_reducible refine below_setRow' ?_ ?_ _) | go_size)) (Nat.le_refl _))) | (exact Gl.zh' (HG.out.below (by repeat' (first | (with_reducible exact Below.refl _ _) | (with_reducible assumption) | (with_reducible refine Below.alloc ?_ ?_ _) | (with_reducible refine Below.drew ?_) | (with_reducible refine below_drewN ?_ _) | (with_reducible refine Below.setCell ?_ ?_ _) | (with_reducible refine below_setRow' ?_ ?_ _) | go_size)) (Nat.le_refl _))) | go_simp)))
  refine wpAnyH_take (i := 0) (oi := _) (v := ?_) rfl (by kernel_rfl) (by kernel_rfl) (by kernel_rfl) (fun _ _ _ h => h) (Or.inl ⟨by rfl, ?_⟩) (by assumption) ?_
  rotate_left 1
  · (intro w hSw; (try dsimp only at hSw); (try simp only [List.getElem_toArray, List.getElem_cons_succ, List.getElem_cons_zero]); first | (go_simp; done) | (go_simp; with_reducible rfl))
  (try simp only [Act.put, List.setIfInBounds_toArray, List.set_cons_zero, List.set_cons_succ, List.getElem_toArray, List.getElem_cons_succ, List.getElem_cons_zero])
  refine wpAnyH_ready (rs := [1]) (by kernel_rfl) (by simp) (AllReadyH.cons rfl (fun K hK => ?_) AllReadyH.nil)
  go_simp
  go_wp2_with (first
    | (go_at_call 134; (with_reducible refine (is4_4 (b4 := b4) (o4 := o4) _ _ _ ?_).mono ?_); (exact HG.out.g4.below (by repeat' (first | (with_reducible exact Below.refl _ _) | (with_reducible assumption) | (with_reducible refine Below.alloc ?_ ?_ _) | (with_reducible refine Below.drew ?_) | (with_reducible refine below_drewN ?_ _) | (with_reducible refine Below.setCell ?_ ?_ _) | (with_reducible refine below_setRow' ?_ ?_ _) | go_size)) (Nat.le_refl _)); rintro e w1 ⟨rfl, hb1⟩; have hk1 := blk?_below hb1; (try simp only [size_drew', size_drewN'] at hk1); have hB1 := below_via (w := w) (by repeat' (first | (with_reducible exact Below.refl _ _) | (with_reducible assumption) | (with_reducible refine Below.alloc ?_ ?_ _) | (with_reducible refine Below.drew ?_) | (with_reducible refine below_drewN ?_ _) | (with_reducible refine Below.setCell ?_ ?_ _) | (with_reducible refine below_setRow' ?_ ?_ _) | go_size)) hb1; have hL0 : w.heap.size < w1.heap.size := (by have hS0 := hb1.size; (try simp at hS0); omega); have hLe : w.heap.size ≤ w1.heap.size := hB1.size; obtain ⟨hc1, hf1⟩ := bcell hb1; (try simp only [size_drew', size_drewN'] at hc1); (try simp only [size_drew', size_drewN'] at hf1); have hzA := Gl.zh (HG.out.below hB1 (Nat.le_refl _)); have hzB := Gl.zh' (HG.out.below hB1 (Nat.le_refl _)); clear hb1))
  refine hK.out _ _ ?_ (fun hHeld1 => ?_)
  · ((try dsimp only); (refine ⟨?_, ?_, ?_⟩ <;> (first | (exact Gl.zh (HG.out.below (by repeat' (first | (with_reducible exact Below.refl _ _) | (with_reducible assumption) | (with_reducible refine Below.alloc ?_ ?_ _) | (with_reducible refine Below.drew ?_) | (with_reducible refine below_drewN ?_ _) | (with_reducible refine Below.setCell ?_ ?_ _) | (with_reducible refine below_setRow' ?_ ?_ _) | go_size)) (Nat.le_refl _))) | (exact Gl.zh' (HG.out.below (by repeat' (first | (with_reducible exact Below.refl _ _) | (with_reducible assumption) | (with_reducible refine Below.alloc ?_ ?_ _) | (with_reducible refine Below.drew ?_) | (with_reducible refine below_drewN ?_ _) | (with_reducible refine Below.setCell ?_ ?_ _) | (with_reducible refine below_setRow' ?_ ?_ _) | go_size)) (Nat.le_refl _))) | go_simp)))
  clear hK K hHeld0
  (try simp only [Act.put, List.setIfInBounds_toArray, List.set_cons_zero, List.set_cons_succ, List.getElem_toArray, List.getElem_cons_succ, List.getElem_cons_zero])
  refine wpAnyH_take (i := 2) (oi := _) (v := ?_) rfl (by kernel_rfl) (by kernel_rfl) (by kernel_rfl) (fun _ _ _ h => h) (Or.inl ⟨by rfl, ?_⟩) (by assumption) ?_
  rotate_left 1
  · (intro w hSw; (try dsimp only at hSw); (try simp only [List.getElem_toArray, List.getElem_cons_succ, List.getElem_cons_zero]); first | (go_simp; done) | (go_simp; with_reducible rfl))
  (try simp only [Act.put, List.setIfInBounds_toArray, List.set_cons_zero, List.set_cons_succ, List.getElem_toArray, List.getElem_cons_succ, List.getElem_cons_zero])
  refine wpAnyH_take (i := 3) (oi := _) (v := ?_) rfl (by kernel_rfl) (by kernel_rfl) (by kernel_rfl) (fun _ _ _ h => h) (Or.inl ⟨by rfl, ?_⟩) (by assumption) ?_
  rotate_left 1
  · (intro w hSw; (try dsimp only at hSw); (try simp only [List.getElem_toArray, List.getElem_cons_succ, List.getElem_cons_zero]); first | (go_simp; done) | (go_simp; with_reducible rfl))
  (try simp only [Act.put, List.setIfInBounds_toArray, List.set_cons_zero, List.set_cons_succ, List.getElem_toArray, List.getElem_cons_succ, List.getElem_cons_zero])
  refine wpAnyH_ready (rs := [4]) (by kernel_rfl) (by simp) (AllReadyH.cons rfl (fun K hK => ?_) AllReadyH.nil)
  go_simp
  go_wp2_with (first
    | (go_at_call 73; (with_reducible refine (unsp4 (b4 := b4) (o4 := o4) _ ?_).mono ?_); (exact HG.out.g4.below (by repeat' (first | (with_reducible exact Below.refl _ _) | (with_reducible assumption) | (with_reducible refine Below.alloc ?_ ?_ _) | (with_reducible refine Below.drew ?_) | (with_reducible refine below_drewN ?_ _) | (with_reducible refine Below.setCell ?_ ?_ _) | (with_reducible refine below_setRow' ?_ ?_ _) | go_size)) (Nat.le_refl _)); rintro e w1 ⟨rfl, hb1⟩; have hk1 := blk?_below hb1; (try simp only [size_drew', size_drewN'] at hk1); have hB1 := below_via (w := w) (by repeat' (first | (with_reducible exact Below.refl _ _) | (with_reducible assumption) | (with_reducible refine Below.alloc ?_ ?_ _) | (with_reducible refine Below.drew ?_) | (with_reducible refine below_drewN ?_ _) | (with_reducible refine Below.setCell ?_ ?_ _) | (with_reducible refine below_setRow' ?_ ?_ _) | go_size)) hb1; have hL0 : w.heap.size < w1.heap.size := (by have hS0 := hb1.size; (try simp at hS0); omega); have hLe : w.heap.size ≤ w1.heap.size := hB1.size; obtain ⟨hc1, hf1⟩ := bcell hb1; (try simp only [size_drew', size_drewN'] at hc1); (try simp only [size_drew', size_drewN'] at hf1); have hzA := Gl.zh (HG.out.below hB1 (Nat.le_refl _)); have hzB := Gl.zh' (HG.out.below hB1 (Nat.le_refl _)); clear hb1))
  refine hK.out _ _ ?_ (fun hHeld2 => ?_)
  · ((try dsimp only); (refine ⟨?_, ?_, ?_⟩ <;> (first | (exact Gl.zh (HG.out.below (by repeat' (first | (with_reducible exact Below.refl _ _) | (with_reducible assumption) | (with_reducible refine Below.alloc ?_ ?_ _) | (with_reducible refine Below.drew ?_) | (with_reducible refine below_drewN ?_ _) | (with_reducible refine Below.setCell ?_ ?_ _) | (with_reducible refine below_setRow' ?_ ?_ _) | go_size)) (Nat.le_refl _))) | (exact Gl.zh' (HG.out.below (by repeat' (first | (with_reducible exact Below.refl _ _) | (with_reducible assumption) | (with_reducible refine Below.alloc ?_ ?_ _) | (with_reducible refine Below.drew ?_) | (with_reducible refine below_drewN ?_ _) | (with_reducible refine Below.setCell ?_ ?_ _) | (with_reducible refine below_setRow' ?_ ?_ _) | go_size)) (Nat.le_refl _))) | go_simp)))
  clear hK K hHeld1
  (try simp only [Act.put, List.setIfInBounds_toArray, List.set_cons_zero, List.set_cons_succ, List.getElem_toArray, List.getElem_cons_succ, List.getElem_cons_zero])
  refine wpAnyH_take (i := 5) (oi := _) (v := ?_) rfl (by kernel_rfl) (by kernel_rfl) (by kernel_rfl) (fun _ _ _ h => h) (Or.inl ⟨by rfl, ?_⟩) (by assumption) ?_
  rotate_left 1
  · (intro w hSw; (try dsimp only at hSw); (try simp only [List.getElem_toArray, List.getElem_cons_succ, List.getElem_cons_zero]); first | (go_simp; done) | (go_simp; with_reducible rfl))
  (try simp only [Act.put, List.setIfInBounds_toArray, List.set_cons_zero, List.set_cons_succ, List.getElem_toArray, List.getElem_cons_succ, List.getElem_cons_zero])
  refine wpAnyH_take (i := 6) (oi := _) (v := ?_) rfl (by kernel_rfl) (by kernel_rfl) (by kernel_rfl) (fun _ _ _ h => h) (Or.inl ⟨by rfl, ?_⟩) (by assumption) ?_
  rotate_left 1
  · (intro w hSw; (try dsimp only at hSw); (try simp only [List.getElem_toArray, List.getElem_cons_succ, List.getElem_cons_zero]); first | (go_simp; done) | (go_simp; with_reducible rfl))
  (try simp only [Act.put, List.setIfInBounds_toArray, List.set_cons_zero, List.set_cons_succ, List.getElem_toArray, List.getElem_cons_succ, List.getElem_cons_zero])
  refine wpAnyH_take (i := 7) (oi := _) (v := ?_) rfl (by kernel_rfl) (by kernel_rfl) (by kernel_rfl) (fun _ _ _ h => h) (Or.inl ⟨by rfl, ?_⟩) (by assumption) ?_
  rotate_left 1
  · (intro w hSw; (try dsimp only at hSw); (try simp only [List.getElem_toArray, List.getElem_cons_succ, List.getElem_cons_zero]); first | (go_simp; done) | (go_simp; with_reducible rfl))
  (try simp only [Act.put, List.setIfInBounds_toArray, List.set_cons_zero, List.set_cons_succ, List.getElem_toArray, List.getElem_cons_succ, List.getElem_cons_zero])
  refine wpAnyH_take (i := 8) (oi := _) (v := ?_) rfl (by kernel_rfl) (by kernel_rfl) (by kernel_rfl) (fun _ _ _ h => h) (Or.inl ⟨by rfl, ?_⟩) (by assumption) ?_
  rotate_left 1
  · (intro w hSw; (try dsimp only at hSw); (try simp only [List.getElem_toArray, List.getElem_cons_succ, List.getElem_cons_zero]); first | (go_simp; done) | (go_simp; with_reducible rfl))
  (try simp only [Act.put, List.setIfInBounds_toArray, List.set_cons_zero, List.set_cons_succ, List.getElem_toArray, List.getElem_cons_succ, List.getElem_cons_zero])
  refine wpAnyH_ready (rs := [9]) (by kernel_rfl) (by simp) (AllReadyH.cons rfl (fun K hK => ?_) AllReadyH.nil)
  go_simp
  go_wp2_with (first
    | (go_at_call 70; (with_reducible refine (afr4_ff (b4 := b4) (o4 := o4) _ ?_).mono ?_); (exact HG.out.g4.below (by repeat' (first | (with_reducible exact Below.refl _ _) | (with_reducible assumption) | (with_reducible refine Below.alloc ?_ ?_ _) | (with_reducible refine Below.drew ?_) | (with_reducible refine below_drewN ?_ _) | (with_reducible refine Below.setCell ?_ ?_ _) | (with_reducible refine below_setRow' ?_ ?_ _) | go_size)) (Nat.le_refl _)); rintro e w1 ⟨rfl, hb1⟩; have hk1 := blk?_below hb1; (try simp only [size_drew', size_drewN'] at hk1); have hB1 := below_via (w := w) (by repeat' (first | (with_reducible exact Below.refl _ _) | (with_reducible assumption) | (with_reducible refine Below.alloc ?_ ?_ _) | (with_reducible refine Below.drew ?_) | (with_reducible refine below_drewN ?_ _) | (with_reducible refine Below.setCell ?_ ?_ _) | (with_reducible refine below_setRow' ?_ ?_ _) | go_size)) hb1; have hL0 : w.heap.size < w1.heap.size := (by have hS0 := hb1.size; (try simp at hS0); omega); have hLe : w.heap.size ≤ w1.heap.size := hB1.size; obtain ⟨hc1, hf1⟩ := bcell hb1; (try simp only [size_drew', size_drewN'] at hc1); (try simp only [size_drew', size_drewN'] at hf1); have hzA := Gl.zh (HG.out.below hB1 (Nat.le_refl _)); have hzB := Gl.zh' (HG.out.below hB1 (Nat.le_refl _)); clear hb1))
  refine hK.out _ _ ?_ (fun hHeld3 => ?_)
  · ((try dsimp only); (refine ⟨?_, ?_, ?_⟩ <;> (first | (exact Gl.zh (HG.out.below (by repeat' (first | (with_reducible exact Below.refl _ _) | (with_reducible assumption) | (with_reducible refine Below.alloc ?_ ?_ _) | (with_reducible refine Below.drew ?_) | (with_reducible refine below_drewN ?_ _) | (with_reducible refine Below.setCell ?_ ?_ _) | (with_reducible refine below_setRow' ?_ ?_ _) | go_size)) (Nat.le_refl _))) | (exact Gl.zh' (HG.out.below (by repeat' (first | (with_reducible exact Below.refl _ _) | (with_reducible assumption) | (with_reducible refine Below.alloc ?_ ?_ _) | (with_reducible refine Below.drew ?_) | (with_reducible refine below_drewN ?_ _) | (with_reducible refine Below.setCell ?_ ?_ _) | (with_reducible refine below_setRow' ?_ ?_ _) | go_size)) (Nat.le_refl _))) | go_simp)))
  clear hK K hHeld2
  (try simp only [Act.put, List.setIfInBounds_toArray, List.set_cons_zero, List.set_cons_succ, List.getElem_toArray, List.getElem_cons_succ, List.getElem_cons_zero])
  refine wpAnyH_take (i := 10) (oi := _) (v := ?_) rfl (by kernel_rfl) (by kernel_rfl) (by kernel_rfl) (fun _ _ _ h => h) (Or.inl ⟨by rfl, ?_⟩) (by assumption) ?_
  rotate_left 1
  · (intro w hSw; (try dsimp only at hSw); (try simp only [List.getElem_toArray, List.getElem_cons_succ, List.getElem_cons_zero]); first | (go_simp; done) | (go_simp; with_reducible rfl))
  (try simp only [Act.put, List.setIfInBounds_toArray, List.set_cons_zero, List.set_cons_succ, List.getElem_toArray, List.getElem_cons_succ, List.getElem_cons_zero])
  refine wpAnyH_take (i := 11) (oi := _) (v := ?_) rfl (by kernel_rfl) (by kernel_rfl) (by kernel_rfl) (fun _ _ _ h => h) (Or.inl ⟨by rfl, ?_⟩) (by assumption) ?_
  rotate_left 1
  · (intro w hSw; (try dsimp only at hSw); (try simp only [List.getElem_toArray, List.getElem_cons_succ, List.getElem_cons_zero]); first | (go_simp; done) | (go_simp; with_reducible rfl))
  (try simp only [Act.put, List.setIfInBounds_toArray, List.set_cons_zero, List.set_cons_succ, List.getElem_toArray, List.getElem_cons_succ, List.getElem_cons_zero])
  refine wpAnyH_take (i := 12) (oi := _) (v := ?_) rfl (by kernel_rfl) (by kernel_rfl) (by kernel_rfl) (fun _ _ _ h => h) (Or.inl ⟨by rfl, ?_⟩) (by assumption) ?_
  rotate_left 1
  · (intro w hSw; (try dsimp only at hSw); (try simp only [List.getElem_toArray, List.getElem_cons_succ, List.getElem_cons_zero]); first | (go_simp; done) | (go_simp; with_reducible rfl))
  (try simp only [Act.put, List.setIfInBounds_toArray, List.set_cons_zero, List.set_cons_succ, List.getElem_toArray, List.getElem_cons_succ, List.getElem_cons_zero])
  refine wpAnyH_done (by kernel_rfl) ?_ _
  go_wp2_with fail
  refine wp_region_held_drew (S := fun w' => blk? w' (w.heap.size) = some (#[.int .u64 (0), .int .u64 (lo), .pointer (some ⟨b4, o4, none⟩)]) ∧ Zh ⟨b4, o4, none⟩ ⟨b6, o6, none⟩ w' ∧ Zh ⟨b6, o6, none⟩ ⟨b4, o4, none⟩ w') (by kernel_rfl) ?_ (fun hHeld0 => ?_)
  · ((try dsimp only); (refine ⟨?_, ?_, ?_⟩ <;> (first | (exact Gl.zh (HG.out.below (by repeat' (first | (with_reducible exact Below.refl _ _) | (with_reducible assumption) | (with_reducible refine Below.alloc ?_ ?_ _) | (with_reducible refine Below.drew ?_) | (with_reducible refine below_drewN ?_ _) | (with_reducible refine Below.setCell ?_ ?_ _) | (with_reducible refine below_setRow' ?_ ?_ _) | go_size)) (Nat.le_refl _))) | (exact Gl.zh' (HG.out.below (by repeat' (first | (with_reducible exact Below.refl _ _) | (with_reducible assumption) | (with_reducible refine Below.alloc ?_ ?_ _) | (with_reducible refine Below.drew ?_) | (with_reducible refine below_drewN ?_ _) | (with_reducible refine Below.setCell ?_ ?_ _) | (with_reducible refine below_setRow' ?_ ?_ _) | go_size)) (Nat.le_refl _))) | go_simp)))
  refine wpAnyH_take (i := 0) (oi := _) (v := ?_) rfl (by kernel_rfl) (by kernel_rfl) (by kernel_rfl) (fun _ _ _ h => h) (Or.inl ⟨by rfl, ?_⟩) (by assumption) ?_
  rotate_left 1
  · (intro w hSw; (try dsimp only at hSw); (try simp only [List.getElem_toArray, List.getElem_cons_succ, List.getElem_cons_zero]); first | (go_simp; done) | (go_simp; with_reducible rfl))
  (try simp only [Act.put, List.setIfInBounds_toArray, List.set_cons_zero, List.set_cons_succ, List.getElem_toArray, List.getElem_cons_succ, List.getElem_cons_zero])
  refine wpAnyH_ready (rs := [1]) (by kernel_rfl) (by simp) (AllReadyH.cons rfl (fun K hK => ?_) AllReadyH.nil)
  go_simp
  go_wp2_with (first
    | (go_at_call 74; (with_reducible refine (unsp6 (b4 := b4) (o4 := o4) (b6 := b6) (o6 := o6) _ ?_).mono ?_); (exact HG.out.below (by repeat' (first | (with_reducible exact Below.refl _ _) | (with_reducible assumption) | (with_reducible refine Below.alloc ?_ ?_ _) | (with_reducible refine Below.drew ?_) | (with_reducible refine below_drewN ?_ _) | (with_reducible refine Below.setCell ?_ ?_ _) | (with_reducible refine below_setRow' ?_ ?_ _) | go_size)) (Nat.le_refl _)); rintro e w1 ⟨rfl, hb1⟩; have hk1 := blk?_below hb1; (try simp only [size_drew', size_drewN'] at hk1); have hB1 := below_via (w := w) (by repeat' (first | (with_reducible exact Below.refl _ _) | (with_reducible assumption) | (with_reducible refine Below.alloc ?_ ?_ _) | (with_reducible refine Below.drew ?_) | (with_reducible refine below_drewN ?_ _) | (with_reducible refine Below.setCell ?_ ?_ _) | (with_reducible refine below_setRow' ?_ ?_ _) | go_size)) hb1; have hL0 : w.heap.size < w1.heap.size := (by have hS0 := hb1.size; (try simp at hS0); omega); have hLe : w.heap.size ≤ w1.heap.size := hB1.size; obtain ⟨hc1, hf1⟩ := bcell hb1; (try simp only [size_drew', size_drewN'] at hc1); (try simp only [size_drew', size_drewN'] at hf1); have hzA := Gl.zh (HG.out.below hB1 (Nat.le_refl _)); have hzB := Gl.zh' (HG.out.below hB1 (Nat.le_refl _)); clear hb1))
  refine hK.out _ _ ?_ (fun hHeld1 => ?_)
  · ((try dsimp only); (refine ⟨?_, ?_, ?_⟩ <;> (first | (exact Gl.zh (HG.out.below (by repeat' (first | (with_reducible exact Below.refl _ _) | (with_reducible assumption) | (with_reducible refine Below.alloc ?_ ?_ _) | (with_reducible refine Below.drew ?_) | (with_reducible refine below_drewN ?_ _) | (with_reducible refine Below.setCell ?_ ?_ _) | (with_reducible refine below_setRow' ?_ ?_ _) | go_size)) (Nat.le_refl _))) | (exact Gl.zh' (HG.out.below (by repeat' (first | (with_reducible exact Below.refl _ _) | (with_reducible assumption) | (with_reducible refine Below.alloc ?_ ?_ _) | (with_reducible refine Below.drew ?_) | (with_reducible refine below_drewN ?_ _) | (with_reducible refine Below.setCell ?_ ?_ _) | (with_reducible refine below_setRow' ?_ ?_ _) | go_size)) (Nat.le_refl _))) | go_simp)))
  clear hK K hHeld0
  (try simp only [Act.put, List.setIfInBounds_toArray, List.set_cons_zero, List.set_cons_succ, List.getElem_toArray, List.getElem_cons_succ, List.getElem_cons_zero])
  refine wpAnyH_take (i := 2) (oi := _) (v := ?_) rfl (by kernel_rfl) (by kernel_rfl) (by kernel_rfl) (fun _ _ _ h => h) (Or.inl ⟨by rfl, ?_⟩) (by assumption) ?_
  rotate_left 1
  · (intro w hSw; (try dsimp only at hSw); (try simp only [List.getElem_toArray, List.getElem_cons_succ, List.getElem_cons_zero]); first | (go_simp; done) | (go_simp; with_reducible rfl))
  (try simp only [Act.put, List.setIfInBounds_toArray, List.set_cons_zero, List.set_cons_succ, List.getElem_toArray, List.getElem_cons_succ, List.getElem_cons_zero])
  refine wpAnyH_take (i := 3) (oi := _) (v := ?_) rfl (by kernel_rfl) (by kernel_rfl) (by kernel_rfl) (fun _ _ _ h => h) (Or.inl ⟨by rfl, ?_⟩) (by assumption) ?_
  rotate_left 1
  · (intro w hSw; (try dsimp only at hSw); (try simp only [List.getElem_toArray, List.getElem_cons_succ, List.getElem_cons_zero]); first | (go_simp; done) | (go_simp; with_reducible rfl))
  (try simp only [Act.put, List.setIfInBounds_toArray, List.set_cons_zero, List.set_cons_succ, List.getElem_toArray, List.getElem_cons_succ, List.getElem_cons_zero])
  refine wpAnyH_take (i := 4) (oi := _) (v := ?_) rfl (by kernel_rfl) (by kernel_rfl) (by kernel_rfl) (fun _ _ _ h => h) (Or.inl ⟨by rfl, ?_⟩) (by assumption) ?_
  rotate_left 1
  · (intro w hSw; (try dsimp only at hSw); (try simp only [List.getElem_toArray, List.getElem_cons_succ, List.getElem_cons_zero]); first | (go_simp; done) | (go_simp; with_reducible rfl))
  (try simp only [Act.put, List.setIfInBounds_toArray, List.set_cons_zero, List.set_cons_succ, List.getElem_toArray, List.getElem_cons_succ, List.getElem_cons_zero])
  refine wpAnyH_ready (rs := [5]) (by kernel_rfl) (by simp) (AllReadyH.cons rfl (fun K hK => ?_) AllReadyH.nil)
  go_simp
  go_wp2_with (first
    | (go_at_call 113; (with_reducible refine (kLoop_4v (b4 := b4) (o4 := o4) _ _ false HV0.out hhi hlo _ ?_).mono ?_); (exact HG.out.g4.below (by repeat' (first | (with_reducible exact Below.refl _ _) | (with_reducible assumption) | (with_reducible refine Below.alloc ?_ ?_ _) | (with_reducible refine Below.drew ?_) | (with_reducible refine below_drewN ?_ _) | (with_reducible refine Below.setCell ?_ ?_ _) | (with_reducible refine below_setRow' ?_ ?_ _) | go_size)) (Nat.le_refl _)); rintro e w1 ⟨rfl, hb1⟩; have hk1 := blk?_below hb1; (try simp only [size_drew', size_drewN'] at hk1); have hB1 := below_via (w := w) (by repeat' (first | (with_reducible exact Below.refl _ _) | (with_reducible assumption) | (with_reducible refine Below.alloc ?_ ?_ _) | (with_reducible refine Below.drew ?_) | (with_reducible refine below_drewN ?_ _) | (with_reducible refine Below.setCell ?_ ?_ _) | (with_reducible refine below_setRow' ?_ ?_ _) | go_size)) hb1; have hL0 : w.heap.size < w1.heap.size := (by have hS0 := hb1.size; (try simp at hS0); omega); have hLe : w.heap.size ≤ w1.heap.size := hB1.size; obtain ⟨hc1, hf1⟩ := bcell hb1; (try simp only [size_drew', size_drewN'] at hc1); (try simp only [size_drew', size_drewN'] at hf1); have hzA := Gl.zh (HG.out.below hB1 (Nat.le_refl _)); have hzB := Gl.zh' (HG.out.below hB1 (Nat.le_refl _)); clear hb1))
  refine hK.out _ _ ?_ (fun hHeld2 => ?_)
  · ((try dsimp only); (refine ⟨?_, ?_, ?_⟩ <;> (first | (exact Gl.zh (HG.out.below (by repeat' (first | (with_reducible exact Below.refl _ _) | (with_reducible assumption) | (with_reducible refine Below.alloc ?_ ?_ _) | (with_reducible refine Below.drew ?_) | (with_reducible refine below_drewN ?_ _) | (with_reducible refine Below.setCell ?_ ?_ _) | (with_reducible refine below_setRow' ?_ ?_ _) | go_size)) (Nat.le_refl _))) | (exact Gl.zh' (HG.out.below (by repeat' (first | (with_reducible exact Below.refl _ _) | (with_reducible assumption) | (with_reducible refine Below.alloc ?_ ?_ _) | (with_reducible refine Below.drew ?_) | (with_reducible refine below_drewN ?_ _) | (with_reducible refine Below.setCell ?_ ?_ _) | (with_reducible refine below_setRow' ?_ ?_ _) | go_size)) (Nat.le_refl _))) | go_simp)))
  clear hK K hHeld1
  (try simp only [Act.put, List.setIfInBounds_toArray, List.set_cons_zero, List.set_cons_succ, List.getElem_toArray, List.getElem_cons_succ, List.getElem_cons_zero])
  refine wpAnyH_take (i := 6) (oi := _) (v := ?_) rfl (by kernel_rfl) (by kernel_rfl) (by kernel_rfl) (fun _ _ _ h => h) (Or.inl ⟨by rfl, ?_⟩) (by assumption) ?_
  rotate_left 1
  · (intro w hSw; (try dsimp only at hSw); (try simp only [List.getElem_toArray, List.getElem_cons_succ, List.getElem_cons_zero]); first | (go_simp; done) | (go_simp; with_reducible rfl))
  (try simp only [Act.put, List.setIfInBounds_toArray, List.set_cons_zero, List.set_cons_succ, List.getElem_toArray, List.getElem_cons_succ, List.getElem_cons_zero])
  refine wpAnyH_take (i := 7) (oi := _) (v := ?_) rfl (by kernel_rfl) (by kernel_rfl) (by kernel_rfl) (fun _ _ _ h => h) (Or.inl ⟨by rfl, ?_⟩) (by assumption) ?_
  rotate_left 1
  · (intro w hSw; (try dsimp only at hSw); (try simp only [List.getElem_toArray, List.getElem_cons_succ, List.getElem_cons_zero]); first | (go_simp; done) | (go_simp; with_reducible rfl))
  (try simp only [Act.put, List.setIfInBounds_toArray, List.set_cons_zero, List.set_cons_succ, List.getElem_toArray, List.getElem_cons_succ, List.getElem_cons_zero])
  refine wpAnyH_take (i := 8) (oi := _) (v := ?_) rfl (by kernel_rfl) (by kernel_rfl) (by kernel_rfl) (fun _ _ _ h => h) (Or.inl ⟨by rfl, ?_⟩) (by assumption) ?_
  rotate_left 1
  · (intro w hSw; (try dsimp only at hSw); (try simp only [List.getElem_toArray, List.getElem_cons_succ, List.getElem_cons_zero]); first | (go_simp; done) | (go_simp; with_reducible rfl))
  (try simp only [Act.put, List.setIfInBounds_toArray, List.set_cons_zero, List.set_cons_succ, List.getElem_toArray, List.getElem_cons_succ, List.getElem_cons_zero])
  refine wpAnyH_take (i := 9) (oi := _) (v := ?_) rfl (by kernel_rfl) (by kernel_rfl) (by kernel_rfl) (fun _ _ _ h => h) (Or.inl ⟨by rfl, ?_⟩) (by assumption) ?_
  rotate_left 1
  · (intro w hSw; (try dsimp only at hSw); (try simp only [List.getElem_toArray, List.getElem_cons_succ, List.getElem_cons_zero]); first | (go_simp; done) | (go_simp; with_reducible rfl))
  (try simp only [Act.put, List.setIfInBounds_toArray, List.set_cons_zero, List.set_cons_succ, List.getElem_toArray, List.getElem_cons_succ, List.getElem_cons_zero])
  refine wpAnyH_ready (rs := [10]) (by kernel_rfl) (by simp) (AllReadyH.cons rfl (fun K hK => ?_) AllReadyH.nil)
  go_simp
  go_wp2_with (first
    | (go_at_call 140; (with_reducible refine (kMult_4v (b4 := b4) (o4 := o4) _ _ false HV1.out hhi hlo _ ?_).mono ?_); (exact HG.out.g4.below (by repeat' (first | (with_reducible exact Below.refl _ _) | (with_reducible assumption) | (with_reducible refine Below.alloc ?_ ?_ _) | (with_reducible refine Below.drew ?_) | (with_reducible refine below_drewN ?_ _) | (with_reducible refine Below.setCell ?_ ?_ _) | (with_reducible refine below_setRow' ?_ ?_ _) | go_size)) (Nat.le_refl _)); rintro e w1 ⟨rfl, hb1⟩; have hk1 := blk?_below hb1; (try simp only [size_drew', size_drewN'] at hk1); have hB1 := below_via (w := w) (by repeat' (first | (with_reducible exact Below.refl _ _) | (with_reducible assumption) | (with_reducible refine Below.alloc ?_ ?_ _) | (with_reducible refine Below.drew ?_) | (with_reducible refine below_drewN ?_ _) | (with_reducible refine Below.setCell ?_ ?_ _) | (with_reducible refine below_setRow' ?_ ?_ _) | go_size)) hb1; have hL0 : w.heap.size < w1.heap.size := (by have hS0 := hb1.size; (try simp at hS0); omega); have hLe : w.heap.size ≤ w1.heap.size := hB1.size; obtain ⟨hc1, hf1⟩ := bcell hb1; (try simp only [size_drew', size_drewN'] at hc1); (try simp only [size_drew', size_drewN'] at hf1); have hzA := Gl.zh (HG.out.below hB1 (Nat.le_refl _)); have hzB := Gl.zh' (HG.out.below hB1 (Nat.le_refl _)); clear hb1))
  refine hK.out _ _ ?_ (fun hHeld3 => ?_)
  · ((try dsimp only); (refine ⟨?_, ?_, ?_⟩ <;> (first | (exact Gl.zh (HG.out.below (by repeat' (first | (with_reducible exact Below.refl _ _) | (with_reducible assumption) | (with_reducible refine Below.alloc ?_ ?_ _) | (with_reducible refine Below.drew ?_) | (with_reducible refine below_drewN ?_ _) | (with_reducible refine Below.setCell ?_ ?_ _) | (with_reducible refine below_setRow' ?_ ?_ _) | go_size)) (Nat.le_refl _))) | (exact Gl.zh' (HG.out.below (by repeat' (first | (with_reducible exact Below.refl _ _) | (with_reducible assumption) | (with_reducible refine Below.alloc ?_ ?_ _) | (with_reducible refine Below.drew ?_) | (with_reducible refine below_drewN ?_ _) | (with_reducible refine Below.setCell ?_ ?_ _) | (with_reducible refine below_setRow' ?_ ?_ _) | go_size)) (Nat.le_refl _))) | go_simp)))
  clear hK K hHeld2
  (try simp only [Act.put, List.setIfInBounds_toArray, List.set_cons_zero, List.set_cons_succ, List.getElem_toArray, List.getElem_cons_succ, List.getElem_cons_zero])
  refine wpAnyH_take (i := 11) (oi := _) (v := ?_) rfl (by kernel_rfl) (by kernel_rfl) (by kernel_rfl) (fun _ _ _ h => h) (Or.inl ⟨by rfl, ?_⟩) (by assumption) ?_
  rotate_left 1
  · (intro w hSw; (try dsimp only at hSw); (try simp only [List.getElem_toArray, List.getElem_cons_succ, List.getElem_cons_zero]); first | (go_simp; done) | (go_simp; with_reducible rfl))
  (try simp only [Act.put, List.setIfInBounds_toArray, List.set_cons_zero, List.set_cons_succ, List.getElem_toArray, List.getElem_cons_succ, List.getElem_cons_zero])
  refine wpAnyH_take (i := 12) (oi := _) (v := ?_) rfl (by kernel_rfl) (by kernel_rfl) (by kernel_rfl) (fun _ _ _ h => h) (Or.inl ⟨by rfl, ?_⟩) (by assumption) ?_
  rotate_left 1
  · (intro w hSw; (try dsimp only at hSw); (try simp only [List.getElem_toArray, List.getElem_cons_succ, List.getElem_cons_zero]); first | (go_simp; done) | (go_simp; with_reducible rfl))
  (try simp only [Act.put, List.setIfInBounds_toArray, List.set_cons_zero, List.set_cons_succ, List.getElem_toArray, List.getElem_cons_succ, List.getElem_cons_zero])
  refine wpAnyH_take (i := 13) (oi := _) (v := ?_) rfl (by kernel_rfl) (by kernel_rfl) (by kernel_rfl) (fun _ _ _ h => h) (Or.inl ⟨by rfl, ?_⟩) (by assumption) ?_
  rotate_left 1
  · (intro w hSw; (try dsimp only at hSw); (try simp only [List.getElem_toArray, List.getElem_cons_succ, List.getElem_cons_zero]); first | (go_simp; done) | (go_simp; with_reducible rfl))
  (try simp only [Act.put, List.setIfInBounds_toArray, List.set_cons_zero, List.set_cons_succ, List.getElem_toArray, List.getElem_cons_succ, List.getElem_cons_zero])
  refine wpAnyH_take (i := 14) (oi := _) (v := ?_) rfl (by kernel_rfl) (by kernel_rfl) (by kernel_rfl) (fun _ _ _ h => h) (Or.inl ⟨by rfl, ?_⟩) (by assumption) ?_
  rotate_left 1
  · (intro w hSw; (try dsimp only at hSw); (try simp only [List.getElem_toArray, List.getElem_cons_succ, List.getElem_cons_zero]); first | (go_simp; done) | (go_simp; with_reducible rfl))
  (try simp only [Act.put, List.setIfInBounds_toArray, List.set_cons_zero, List.set_cons_succ, List.getElem_toArray, List.getElem_cons_succ, List.getElem_cons_zero])
  refine wpAnyH_ready (rs := [15]) (by kernel_rfl) (by simp) (AllReadyH.cons rfl (fun K hK => ?_) AllReadyH.nil)
  go_simp
  go_wp2_with (first
    | (go_at_call 142; (with_reducible refine (kLLU_4v (b4 := b4) (o4 := o4) _ _ false HV2.out hhi hlo _ ?_).mono ?_); (exact HG.out.g4.below (by repeat' (first | (with_reducible exact Below.refl _ _) | (with_reducible assumption) | (with_reducible refine Below.alloc ?_ ?_ _) | (with_reducible refine Below.drew ?_) | (with_reducible refine below_drewN ?_ _) | (with_reducible refine Below.setCell ?_ ?_ _) | (with_reducible refine below_setRow' ?_ ?_ _) | go_size)) (Nat.le_refl _)); rintro e w1 ⟨rfl, hb1⟩; have hk1 := blk?_below hb1; (try simp only [size_drew', size_drewN'] at hk1); have hB1 := below_via (w := w) (by repeat' (first | (with_reducible exact Below.refl _ _) | (with_reducible assumption) | (with_reducible refine Below.alloc ?_ ?_ _) | (with_reducible refine Below.drew ?_) | (with_reducible refine below_drewN ?_ _) | (with_reducible refine Below.setCell ?_ ?_ _) | (with_reducible refine below_setRow' ?_ ?_ _) | go_size)) hb1; have hL0 : w.heap.size < w1.heap.size := (by have hS0 := hb1.size; (try simp at hS0); omega); have hLe : w.heap.size ≤ w1.heap.size := hB1.size; obtain ⟨hc1, hf1⟩ := bcell hb1; (try simp only [size_drew', size_drewN'] at hc1); (try simp only [size_drew', size_drewN'] at hf1); have hzA := Gl.zh (HG.out.below hB1 (Nat.le_refl _)); have hzB := Gl.zh' (HG.out.below hB1 (Nat.le_refl _)); clear hb1))
  refine hK.out _ _ ?_ (fun hHeld4 => ?_)
  · ((try dsimp only); (refine ⟨?_, ?_, ?_⟩ <;> (first | (exact Gl.zh (HG.out.below (by repeat' (first | (with_reducible exact Below.refl _ _) | (with_reducible assumption) | (with_reducible refine Below.alloc ?_ ?_ _) | (with_reducible refine Below.drew ?_) | (with_reducible refine below_drewN ?_ _) | (with_reducible refine Below.setCell ?_ ?_ _) | (with_reducible refine below_setRow' ?_ ?_ _) | go_size)) (Nat.le_refl _))) | (exact Gl.zh' (HG.out.below (by repeat' (first | (with_reducible exact Below.refl _ _) | (with_reducible assumption) | (with_reducible refine Below.alloc ?_ ?_ _) | (with_reducible refine Below.drew ?_) | (with_reducible refine below_drewN ?_ _) | (with_reducible refine Below.setCell ?_ ?_ _) | (with_reducible refine below_setRow' ?_ ?_ _) | go_size)) (Nat.le_refl _))) | go_simp)))
  clear hK K hHeld3
  (try simp only [Act.put, List.setIfInBounds_toArray, List.set_cons_zero, List.set_cons_succ, List.getElem_toArray, List.getElem_cons_succ, List.getElem_cons_zero])
  refine wpAnyH_take (i := 16) (oi := _) (v := ?_) rfl (by kernel_rfl) (by kernel_rfl) (by kernel_rfl) (fun _ _ _ h => h) (Or.inl ⟨by rfl, ?_⟩) (by assumption) ?_
  rotate_left 1
  · (intro w hSw; (try dsimp only at hSw); (try simp only [List.getElem_toArray, List.getElem_cons_succ, List.getElem_cons_zero]); first | (go_simp; done) | (go_simp; with_reducible rfl))
  (try simp only [Act.put, List.setIfInBounds_toArray, List.set_cons_zero, List.set_cons_succ, List.getElem_toArray, List.getElem_cons_succ, List.getElem_cons_zero])
  refine wpAnyH_take (i := 17) (oi := _) (v := ?_) rfl (by kernel_rfl) (by kernel_rfl) (by kernel_rfl) (fun _ _ _ h => h) (Or.inl ⟨by rfl, ?_⟩) (by assumption) ?_
  rotate_left 1
  · (intro w hSw; (try dsimp only at hSw); (try simp only [List.getElem_toArray, List.getElem_cons_succ, List.getElem_cons_zero]); first | (go_simp; done) | (go_simp; with_reducible rfl))
  (try simp only [Act.put, List.setIfInBounds_toArray, List.set_cons_zero, List.set_cons_succ, List.getElem_toArray, List.getElem_cons_succ, List.getElem_cons_zero])
  refine wpAnyH_take (i := 18) (oi := _) (v := ?_) rfl (by kernel_rfl) (by kernel_rfl) (by kernel_rfl) (fun _ _ _ h => h) (Or.inl ⟨by rfl, ?_⟩) (by assumption) ?_
  rotate_left 1
  · (intro w hSw; (try dsimp only at hSw); (try simp only [List.getElem_toArray, List.getElem_cons_succ, List.getElem_cons_zero]); first | (go_simp; done) | (go_simp; with_reducible rfl))
  (try simp only [Act.put, List.setIfInBounds_toArray, List.set_cons_zero, List.set_cons_succ, List.getElem_toArray, List.getElem_cons_succ, List.getElem_cons_zero])
  refine wpAnyH_done (by kernel_rfl) ?_ _
  go_wp2_with fail
  go_ret
  exact ⟨rfl, (by repeat' (first | (with_reducible exact Below.refl _ _) | (with_reducible assumption) | (with_reducible refine Below.alloc ?_ ?_ _) | (with_reducible refine Below.drew ?_) | (with_reducible refine below_drewN ?_ _) | (with_reducible refine Below.setCell ?_ ?_ _) | (with_reducible refine below_setRow' ?_ ?_ _) | go_size))⟩
theorem gu_4 (lo : Int) (hlo : 0 ≤ lo ∧ lo < 18446744073709551616) {b4 o4 b6 o6 : Nat} (w : World) (hg : Gl b4 o4 b6 o6 w) :
    Calls Tryd.prog 127 #[.agg #[.int .u64 (0), .int .u64 (lo), .pointer (some ⟨b4, o4, none⟩)]] w fun e w' => e = .returned (.bool (gu4 lo)) ∧ Below w.heap.size w w' := by
  by_cases h : lo = 281470681743360
  · have e : gu4 lo = false := by simp [gu4, h]
    rw [e]; exact gu_4U lo hlo h w hg
  by_cases h' : lo = 281474976710655
  · have e : gu4 lo = false := by simp [gu4, h']
    rw [e]; exact gu_4F lo hlo h' w hg
  have e : gu4 lo = (!kLo4 lo && !kMu4 lo && !kLU4 lo) := by unfold gu4; rw [beq_eq_false_iff_ne.2 h, beq_eq_false_iff_ne.2 h']; simp
  rw [e]
  cases h0 : kLo4 lo
  · cases h2 : kMu4 lo
    · cases h3 : kLU4 lo
      · exact gu_4FFF lo hlo h h' h0 h2 h3 w hg
      · exact gu_4FFT lo hlo h h' h0 h2 h3 w hg
    · exact gu_4FT lo hlo h h' h0 h2 w hg
  · exact gu_4T lo hlo h h' h0 w hg
end Go.Proofs.YtmlkcgacneealaaDoor
