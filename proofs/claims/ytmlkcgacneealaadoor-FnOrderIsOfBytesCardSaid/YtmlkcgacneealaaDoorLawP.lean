/- FnOrderIsOfBytes returns true. Conditions: the listed variables as laid. -/
import Derived.Test.YtmlkcgacneealaaDoorBCmp
import Derived.Test.YtmlkcgacneealaaDoorLawD
import Derived.Test.YtmlkcgacneealaaDoorLawE
import Derived.Test.YtmlkcgacneealaaDoorAlike
import Derived.Test.YtmlkcgacneealaaDoorAlikeF
import Derived.Test.YtmlkcgacneealaaDoorLawF
import Derived.Deep.DeepCutAuto
import Derived.Deep.RegionHeld3
set_option linter.unusedVariables false
set_option linter.unusedSimpArgs false
namespace Go.Proofs.YtmlkcgacneealaaDoor
open Go.RowKit
theorem rowc4 {w : World} {g : Nat} {b : Nat → Int} (h : blk? w g = some (arr4 b)) : ∀ i, i < 4 → w.cell? ⟨g, i, none⟩ = some (.int .u8 (b i)) := fun i hi => by
  rw [blk?_cell h]
  match i, hi with
  | 0, _ => rfl
  | 1, _ => rfl
  | 2, _ => rfl
  | 3, _ => rfl
  | i + 4, hi => omega
theorem rowc16 {w : World} {g : Nat} {b : Nat → Int} (h : blk? w g = some (arr16 b)) : ∀ i, i < 16 → w.cell? ⟨g, i, none⟩ = some (.int .u8 (b i)) := fun i hi => by
  rw [blk?_cell h]
  match i, hi with
  | 0, _ => rfl
  | 1, _ => rfl
  | 2, _ => rfl
  | 3, _ => rfl
  | 4, _ => rfl
  | 5, _ => rfl
  | 6, _ => rfl
  | 7, _ => rfl
  | 8, _ => rfl
  | 9, _ => rfl
  | 10, _ => rfl
  | 11, _ => rfl
  | 12, _ => rfl
  | 13, _ => rfl
  | 14, _ => rfl
  | 15, _ => rfl
  | i + 16, hi => omega
theorem iCompareV4 (b b' : Nat → Int) (hb : Bt b) (hb' : Bt b') (z z' : ByteArray) (v : Int) (hv : cmpI (281470681743360 + be4f b 0) (281470681743360 + be4f b' 0) = v) {b4 o4 : Nat} (w : World) (hg : G4 b4 o4 w) : Calls Tryd.prog 45 #[.agg (adr 4 b z), .agg (adr 4 b' z')] w fun e w' => e = .returned (.int .i64 v) ∧ Below w.heap.size w w' := by
  rw [← hv]; exact iCompare_4 b b' hb hb' z z' w hg
set_option maxHeartbeats 4000000 in
set_option maxRecDepth 100000 in
theorem law10_4 (b b' : Nat → Int) (hb : Bt b) (hb' : Bt b') (z z' : ByteArray) (v : Int) (hv : cmpI (281470681743360 + be4f b 0) (281470681743360 + be4f b' 0) = v) (hv16 : cmpI (valF (b16of 0 (281470681743360 + be4f b 0)) 0 16) (valF (b16of 0 (281470681743360 + be4f b' 0)) 0 16) = v) (hvn : cmpI (valF b 0 4) (valF b' 0 4) = v) (hx : Bt (b16of 0 (281470681743360 + be4f b 0))) (hy : Bt (b16of 0 (281470681743360 + be4f b' 0))) {b4 o4 b6 o6 : Nat} (w : World) (hg : Gl b4 o4 b6 o6 w) :
    Calls Tryd.prog 10 #[.agg (adr 4 b z), .agg (adr 4 b' z')] w fun e w' => e = .returned (.bool true) ∧ Below w.heap.size w w' := by
  have HG := Lib.hid hg
  have HB := Lib.hid hb
  have HB' := Lib.hid hb'
  have HV := Lib.hid hv
  have HV16 := Lib.hid hv16
  have HVn := Lib.hid hvn
  have HX := Lib.hid hx
  have HY := Lib.hid hy
  clear hg hb hb' hv hv16 hvn hx hy
  go_enter Tryd.func10, Tryd.ntmps10
  go_upto_region 3 with (first
    | (go_at_call 43; (with_reducible refine (alike_4 _ _ _ _ _).mono ?_); rintro e w1 ⟨rfl, hb1⟩; have hk1 := blk?_below hb1; (try simp only [size_drew', size_drewN'] at hk1); have hB1 := below_via (w := w) (by repeat' (first | (with_reducible exact Below.refl _ _) | (with_reducible assumption) | (with_reducible refine Below.alloc ?_ ?_ _) | (with_reducible refine Below.drew ?_) | (with_reducible refine below_drewN ?_ _) | (with_reducible refine Below.setCell ?_ ?_ _) | (with_reducible refine below_setRow' ?_ ?_ _) | go_size)) hb1; have hL0 : w.heap.size < w1.heap.size := (by have hS0 := hb1.size; (try simp at hS0); omega); have hL1 : w.heap.size + 1 < w1.heap.size := (by have hS0 := hb1.size; (try simp at hS0); omega); have hLe : w.heap.size ≤ w1.heap.size := hB1.size; clear hb1))
  have k0 : blk? w1 w.heap.size = some (adr 4 b z) := by go_simp
  have k1 : blk? w1 (w.heap.size + 1) = some (adr 4 b' z') := by go_simp
  clear hk1
  have hQ0a : w.heap.size < w1.heap.size + 1 := by omega
  have hQ0b : w.heap.size < w1.heap.size + 1 + 1 := by omega
  have hQ1a : w.heap.size + 1 < w1.heap.size + 1 := by omega
  have hQ1b : w.heap.size + 1 < w1.heap.size + 1 + 1 := by omega
  go_cut [5, 6] (fun s5 s6 wx => ∃ g5 g6 : Nat, s5 = .pointer (some ⟨g5, 0, none⟩) ∧ s6 = .pointer (some ⟨g6, 0, none⟩) ∧ blk? wx w.heap.size = some (adr 4 b z) ∧ blk? wx (w.heap.size + 1) = some (adr 4 b' z') ∧ blk? wx g5 = some (arr16 (b16of 0 (281470681743360 + be4f b 0))) ∧ blk? wx g6 = some (arr16 (b16of 0 (281470681743360 + be4f b' 0))) ∧ Below w.heap.size w wx)
  case first =>
    refine wp_region_held_drew (S := fun w' => blk? w' (w.heap.size) = some (adr 4 b z) ∧ blk? w' (w.heap.size + 1) = some (adr 4 b' z')) (by kernel_rfl) ?_ (fun hHeld0 => ?_)
    · ((try dsimp only); (refine ⟨?_, ?_⟩ <;> go_simp))
    refine wpAnyH_take (i := 0) (oi := _) (v := ?_) rfl (by kernel_rfl) (by kernel_rfl) (by kernel_rfl) (fun _ _ _ h => h) (Or.inl ⟨by rfl, ?_⟩) (by assumption) ?_
    rotate_left 1
    · (intro w hSw; (try dsimp only at hSw); (try simp only [List.getElem_toArray, List.getElem_cons_succ, List.getElem_cons_zero]); first | (go_simp; done) | (go_simp; with_reducible rfl))
    (try simp only [Act.put, List.setIfInBounds_toArray, List.set_cons_zero, List.set_cons_succ, List.getElem_toArray, List.getElem_cons_succ, List.getElem_cons_zero])
    refine wpAnyH_take (i := 2) (oi := _) (v := ?_) rfl (by kernel_rfl) (by kernel_rfl) (by kernel_rfl) (fun _ _ _ h => h) (Or.inl ⟨by rfl, ?_⟩) (by assumption) ?_
    rotate_left 1
    · (intro w hSw; (try dsimp only at hSw); (try simp only [List.getElem_toArray, List.getElem_cons_succ, List.getElem_cons_zero]); first | (go_simp; done) | (go_simp; with_reducible rfl))
    (try simp only [Act.put, List.setIfInBounds_toArray, List.set_cons_zero, List.set_cons_succ, List.getElem_toArray, List.getElem_cons_succ, List.getElem_cons_zero])
    refine wpAnyH_ready (rs := [1, 4, 5]) (by kernel_rfl) (by simp) (AllReadyH.cons rfl (fun K hK => ?_) (AllReadyH.cons rfl (fun K hK => ?_) (AllReadyH.cons rfl (fun K hK => ?_) AllReadyH.nil)))
    · go_simp
      go_wp2_with (first
        | (go_at_call 44; (with_reducible refine (implAs16_4 (b4 := b4) (o4 := o4) b HB.out _ _ ?_).mono ?_); (exact HG.out.g4.below (by repeat' (first | (with_reducible exact Below.refl _ _) | (with_reducible assumption) | (with_reducible refine Below.alloc ?_ ?_ _) | (with_reducible refine Below.drew ?_) | (with_reducible refine below_drewN ?_ _) | (with_reducible refine Below.setCell ?_ ?_ _) | (with_reducible refine below_setRow' ?_ ?_ _) | go_size)) (Nat.le_refl _)); rintro e wN ⟨rfl, hb1⟩; have hk1 := blk?_below hb1; (try simp only [size_drew', size_drewN'] at hk1); have hB1 := below_via (w := w) (by repeat' (first | (with_reducible exact Below.refl _ _) | (with_reducible assumption) | (with_reducible refine Below.alloc ?_ ?_ _) | (with_reducible refine Below.drew ?_) | (with_reducible refine below_drewN ?_ _) | (with_reducible refine Below.setCell ?_ ?_ _) | (with_reducible refine below_setRow' ?_ ?_ _) | go_size)) hb1; have hL0 : w.heap.size < wN.heap.size := (by have hS0 := hb1.size; (try simp at hS0); omega); have hL1 : w.heap.size + 1 < wN.heap.size := (by have hS0 := hb1.size; (try simp at hS0); omega); have hLe : w.heap.size ≤ wN.heap.size := hB1.size; have hS9 := hb1.size; (try simp [Nat.add_one_le_iff] at hS9); (try (have hS8 := Nat.lt_of_succ_lt hS9)); have hQ0a : w.heap.size < wN.heap.size + 1 := (by omega); have hQ0b : w.heap.size < wN.heap.size + 1 + 1 := (by omega); have hQ1a : w.heap.size + 1 < wN.heap.size + 1 := (by omega); have hQ1b : w.heap.size + 1 < wN.heap.size + 1 + 1 := (by omega); clear hb1))
      refine hK.out _ _ ?_ (fun hHeld1 => ?_)
      · ((try dsimp only); (refine ⟨?_, ?_⟩ <;> go_simp))
      clear hK K hHeld0
      (try simp only [Act.put, List.setIfInBounds_toArray, List.set_cons_zero, List.set_cons_succ, List.getElem_toArray, List.getElem_cons_succ, List.getElem_cons_zero])
      refine wpAnyH_ready (rs := [3, 4, 5]) (by kernel_rfl) (by simp) (AllReadyH.cons rfl (fun K hK => ?_) (AllReadyH.cons rfl (fun K hK => ?_) (AllReadyH.cons rfl (fun K hK => ?_) AllReadyH.nil)))
      · go_simp
        go_wp2_with (first
          | (go_at_call 44; (with_reducible refine (implAs16_4 (b4 := b4) (o4 := o4) b' HB'.out _ _ ?_).mono ?_); (exact HG.out.g4.below (by repeat' (first | (with_reducible exact Below.refl _ _) | (with_reducible assumption) | (with_reducible refine Below.alloc ?_ ?_ _) | (with_reducible refine Below.drew ?_) | (with_reducible refine below_drewN ?_ _) | (with_reducible refine Below.setCell ?_ ?_ _) | (with_reducible refine below_setRow' ?_ ?_ _) | go_size)) (Nat.le_refl _)); rintro e wP ⟨rfl, hb1⟩; have hk1 := blk?_below hb1; (try simp only [size_drew', size_drewN'] at hk1); have hB1 := below_via (w := w) (by repeat' (first | (with_reducible exact Below.refl _ _) | (with_reducible assumption) | (with_reducible refine Below.alloc ?_ ?_ _) | (with_reducible refine Below.drew ?_) | (with_reducible refine below_drewN ?_ _) | (with_reducible refine Below.setCell ?_ ?_ _) | (with_reducible refine below_setRow' ?_ ?_ _) | go_size)) hb1; have hL0 : w.heap.size < wP.heap.size := (by have hS0 := hb1.size; (try simp at hS0); omega); have hL1 : w.heap.size + 1 < wP.heap.size := (by have hS0 := hb1.size; (try simp at hS0); omega); have hLe : w.heap.size ≤ wP.heap.size := hB1.size; have hS9 := hb1.size; (try simp [Nat.add_one_le_iff] at hS9); (try (have hS8 := Nat.lt_of_succ_lt hS9)); (try (have hT0 : w1.heap.size < wP.heap.size := (by have hS0 := hb1.size; (try simp at hS0); omega))); (try (have hT1 : w1.heap.size + 1 < wP.heap.size := (by have hS0 := hb1.size; (try simp at hS0); omega))); (try (have hT2 : wN.heap.size < wP.heap.size := (by have hS0 := hb1.size; (try simp at hS0); omega))); (try (have hT3 : wN.heap.size + 1 < wP.heap.size := (by have hS0 := hb1.size; (try simp at hS0); omega))); have hQ0a : w.heap.size < wP.heap.size + 1 := (by omega); have hQ0b : w.heap.size < wP.heap.size + 1 + 1 := (by omega); have hQ1a : w.heap.size + 1 < wP.heap.size + 1 := (by omega); have hQ1b : w.heap.size + 1 < wP.heap.size + 1 + 1 := (by omega); clear hb1))
        refine hK.out _ _ ?_ (fun hHeld2 => ?_)
        · ((try dsimp only); (refine ⟨?_, ?_⟩ <;> go_simp))
        clear hK K hHeld1
        (try simp only [Act.put, List.setIfInBounds_toArray, List.set_cons_zero, List.set_cons_succ, List.getElem_toArray, List.getElem_cons_succ, List.getElem_cons_zero])
        refine wpAnyH_ready (rs := [4, 5]) (by kernel_rfl) (by simp) (AllReadyH.cons rfl (fun K hK => ?_) (AllReadyH.cons rfl (fun K hK => ?_) AllReadyH.nil))
        · go_simp
          refine hK.out _ _ ?_ (fun hHeld3 => ?_)
          · ((try dsimp only); (refine ⟨?_, ?_⟩ <;> go_simp))
          clear hK K hHeld2
          (try simp only [Act.put, List.setIfInBounds_toArray, List.set_cons_zero, List.set_cons_succ, List.getElem_toArray, List.getElem_cons_succ, List.getElem_cons_zero])
          refine wpAnyH_ready (rs := [5]) (by kernel_rfl) (by simp) (AllReadyH.cons rfl (fun K hK => ?_) AllReadyH.nil)
          · go_simp
            refine hK.out _ _ ?_ (fun hHeld4 => ?_)
            · ((try dsimp only); (refine ⟨?_, ?_⟩ <;> go_simp))
            clear hK K hHeld3
            (try simp only [Act.put, List.setIfInBounds_toArray, List.set_cons_zero, List.set_cons_succ, List.getElem_toArray, List.getElem_cons_succ, List.getElem_cons_zero])
            refine wpAnyH_ready (rs := [6]) (by kernel_rfl) (by simp) (AllReadyH.cons rfl (fun K hK => ?_) AllReadyH.nil)
            · go_simp
              refine hK.out _ _ ?_ (fun hHeld5 => ?_)
              · ((try dsimp only); (refine ⟨?_, ?_⟩ <;> go_simp))
              clear hK K hHeld4
              (try simp only [Act.put, List.setIfInBounds_toArray, List.set_cons_zero, List.set_cons_succ, List.getElem_toArray, List.getElem_cons_succ, List.getElem_cons_zero])
              refine wpAnyH_ready (rs := [7]) (by kernel_rfl) (by simp) (AllReadyH.cons rfl (fun K hK => ?_) AllReadyH.nil)
              · go_simp
                refine hK.out _ _ ?_ (fun hHeld6 => ?_)
                · ((try dsimp only); (refine ⟨?_, ?_⟩ <;> go_simp))
                clear hK K hHeld5
                (try simp only [Act.put, List.setIfInBounds_toArray, List.set_cons_zero, List.set_cons_succ, List.getElem_toArray, List.getElem_cons_succ, List.getElem_cons_zero])
                refine wpAnyH_done (by kernel_rfl) ?_ _
                go_wp2_with fail
                go_meet
                refine ⟨_, _, rfl, rfl, ?_, ?_, ?_, ?_, (by repeat' (first | (with_reducible exact Below.refl _ _) | (with_reducible assumption) | (with_reducible refine Below.alloc ?_ ?_ _) | (with_reducible refine Below.drew ?_) | (with_reducible refine below_drewN ?_ _) | (with_reducible refine Below.setCell ?_ ?_ _) | (with_reducible refine below_setRow' ?_ ?_ _) | go_size))⟩
                all_goals go_simp
        · go_simp
          refine hK.out _ _ ?_ (fun hHeld3 => ?_)
          · ((try dsimp only); (refine ⟨?_, ?_⟩ <;> go_simp))
          clear hK K hHeld2
          (try simp only [Act.put, List.setIfInBounds_toArray, List.set_cons_zero, List.set_cons_succ, List.getElem_toArray, List.getElem_cons_succ, List.getElem_cons_zero])
          refine wpAnyH_ready (rs := [4]) (by kernel_rfl) (by simp) (AllReadyH.cons rfl (fun K hK => ?_) AllReadyH.nil)
          · go_simp
            refine hK.out _ _ ?_ (fun hHeld4 => ?_)
            · ((try dsimp only); (refine ⟨?_, ?_⟩ <;> go_simp))
            clear hK K hHeld3
            (try simp only [Act.put, List.setIfInBounds_toArray, List.set_cons_zero, List.set_cons_succ, List.getElem_toArray, List.getElem_cons_succ, List.getElem_cons_zero])
            refine wpAnyH_ready (rs := [6]) (by kernel_rfl) (by simp) (AllReadyH.cons rfl (fun K hK => ?_) AllReadyH.nil)
            · go_simp
              refine hK.out _ _ ?_ (fun hHeld5 => ?_)
              · ((try dsimp only); (refine ⟨?_, ?_⟩ <;> go_simp))
              clear hK K hHeld4
              (try simp only [Act.put, List.setIfInBounds_toArray, List.set_cons_zero, List.set_cons_succ, List.getElem_toArray, List.getElem_cons_succ, List.getElem_cons_zero])
              refine wpAnyH_ready (rs := [7]) (by kernel_rfl) (by simp) (AllReadyH.cons rfl (fun K hK => ?_) AllReadyH.nil)
              · go_simp
                refine hK.out _ _ ?_ (fun hHeld6 => ?_)
                · ((try dsimp only); (refine ⟨?_, ?_⟩ <;> go_simp))
                clear hK K hHeld5
                (try simp only [Act.put, List.setIfInBounds_toArray, List.set_cons_zero, List.set_cons_succ, List.getElem_toArray, List.getElem_cons_succ, List.getElem_cons_zero])
                refine wpAnyH_done (by kernel_rfl) ?_ _
                go_wp2_with fail
                go_meet
                refine ⟨_, _, rfl, rfl, ?_, ?_, ?_, ?_, (by repeat' (first | (with_reducible exact Below.refl _ _) | (with_reducible assumption) | (with_reducible refine Below.alloc ?_ ?_ _) | (with_reducible refine Below.drew ?_) | (with_reducible refine below_drewN ?_ _) | (with_reducible refine Below.setCell ?_ ?_ _) | (with_reducible refine below_setRow' ?_ ?_ _) | go_size))⟩
                all_goals go_simp
      · go_simp
        refine hK.out _ _ ?_ (fun hHeld2 => ?_)
        · ((try dsimp only); (refine ⟨?_, ?_⟩ <;> go_simp))
        clear hK K hHeld1
        (try simp only [Act.put, List.setIfInBounds_toArray, List.set_cons_zero, List.set_cons_succ, List.getElem_toArray, List.getElem_cons_succ, List.getElem_cons_zero])
        refine wpAnyH_ready (rs := [3, 5]) (by kernel_rfl) (by simp) (AllReadyH.cons rfl (fun K hK => ?_) (AllReadyH.cons rfl (fun K hK => ?_) AllReadyH.nil))
        · go_simp
          go_wp2_with (first
            | (go_at_call 44; (with_reducible refine (implAs16_4 (b4 := b4) (o4 := o4) b' HB'.out _ _ ?_).mono ?_); (exact HG.out.g4.below (by repeat' (first | (with_reducible exact Below.refl _ _) | (with_reducible assumption) | (with_reducible refine Below.alloc ?_ ?_ _) | (with_reducible refine Below.drew ?_) | (with_reducible refine below_drewN ?_ _) | (with_reducible refine Below.setCell ?_ ?_ _) | (with_reducible refine below_setRow' ?_ ?_ _) | go_size)) (Nat.le_refl _)); rintro e wP ⟨rfl, hb1⟩; have hk1 := blk?_below hb1; (try simp only [size_drew', size_drewN'] at hk1); have hB1 := below_via (w := w) (by repeat' (first | (with_reducible exact Below.refl _ _) | (with_reducible assumption) | (with_reducible refine Below.alloc ?_ ?_ _) | (with_reducible refine Below.drew ?_) | (with_reducible refine below_drewN ?_ _) | (with_reducible refine Below.setCell ?_ ?_ _) | (with_reducible refine below_setRow' ?_ ?_ _) | go_size)) hb1; have hL0 : w.heap.size < wP.heap.size := (by have hS0 := hb1.size; (try simp at hS0); omega); have hL1 : w.heap.size + 1 < wP.heap.size := (by have hS0 := hb1.size; (try simp at hS0); omega); have hLe : w.heap.size ≤ wP.heap.size := hB1.size; have hS9 := hb1.size; (try simp [Nat.add_one_le_iff] at hS9); (try (have hS8 := Nat.lt_of_succ_lt hS9)); (try (have hT0 : w1.heap.size < wP.heap.size := (by have hS0 := hb1.size; (try simp at hS0); omega))); (try (have hT1 : w1.heap.size + 1 < wP.heap.size := (by have hS0 := hb1.size; (try simp at hS0); omega))); (try (have hT2 : wN.heap.size < wP.heap.size := (by have hS0 := hb1.size; (try simp at hS0); omega))); (try (have hT3 : wN.heap.size + 1 < wP.heap.size := (by have hS0 := hb1.size; (try simp at hS0); omega))); have hQ0a : w.heap.size < wP.heap.size + 1 := (by omega); have hQ0b : w.heap.size < wP.heap.size + 1 + 1 := (by omega); have hQ1a : w.heap.size + 1 < wP.heap.size + 1 := (by omega); have hQ1b : w.heap.size + 1 < wP.heap.size + 1 + 1 := (by omega); clear hb1))
          refine hK.out _ _ ?_ (fun hHeld3 => ?_)
          · ((try dsimp only); (refine ⟨?_, ?_⟩ <;> go_simp))
          clear hK K hHeld2
          (try simp only [Act.put, List.setIfInBounds_toArray, List.set_cons_zero, List.set_cons_succ, List.getElem_toArray, List.getElem_cons_succ, List.getElem_cons_zero])
          refine wpAnyH_ready (rs := [5]) (by kernel_rfl) (by simp) (AllReadyH.cons rfl (fun K hK => ?_) AllReadyH.nil)
          · go_simp
            refine hK.out _ _ ?_ (fun hHeld4 => ?_)
            · ((try dsimp only); (refine ⟨?_, ?_⟩ <;> go_simp))
            clear hK K hHeld3
            (try simp only [Act.put, List.setIfInBounds_toArray, List.set_cons_zero, List.set_cons_succ, List.getElem_toArray, List.getElem_cons_succ, List.getElem_cons_zero])
            refine wpAnyH_ready (rs := [6]) (by kernel_rfl) (by simp) (AllReadyH.cons rfl (fun K hK => ?_) AllReadyH.nil)
            · go_simp
              refine hK.out _ _ ?_ (fun hHeld5 => ?_)
              · ((try dsimp only); (refine ⟨?_, ?_⟩ <;> go_simp))
              clear hK K hHeld4
              (try simp only [Act.put, List.setIfInBounds_toArray, List.set_cons_zero, List.set_cons_succ, List.getElem_toArray, List.getElem_cons_succ, List.getElem_cons_zero])
              refine wpAnyH_ready (rs := [7]) (by kernel_rfl) (by simp) (AllReadyH.cons rfl (fun K hK => ?_) AllReadyH.nil)
              · go_simp
                refine hK.out _ _ ?_ (fun hHeld6 => ?_)
                · ((try dsimp only); (refine ⟨?_, ?_⟩ <;> go_simp))
                clear hK K hHeld5
                (try simp only [Act.put, List.setIfInBounds_toArray, List.set_cons_zero, List.set_cons_succ, List.getElem_toArray, List.getElem_cons_succ, List.getElem_cons_zero])
                refine wpAnyH_done (by kernel_rfl) ?_ _
                go_wp2_with fail
                go_meet
                refine ⟨_, _, rfl, rfl, ?_, ?_, ?_, ?_, (by repeat' (first | (with_reducible exact Below.refl _ _) | (with_reducible assumption) | (with_reducible refine Below.alloc ?_ ?_ _) | (with_reducible refine Below.drew ?_) | (with_reducible refine below_drewN ?_ _) | (with_reducible refine Below.setCell ?_ ?_ _) | (with_reducible refine below_setRow' ?_ ?_ _) | go_size))⟩
                all_goals go_simp
        · go_simp
          refine hK.out _ _ ?_ (fun hHeld3 => ?_)
          · ((try dsimp only); (refine ⟨?_, ?_⟩ <;> go_simp))
          clear hK K hHeld2
          (try simp only [Act.put, List.setIfInBounds_toArray, List.set_cons_zero, List.set_cons_succ, List.getElem_toArray, List.getElem_cons_succ, List.getElem_cons_zero])
          refine wpAnyH_ready (rs := [3]) (by kernel_rfl) (by simp) (AllReadyH.cons rfl (fun K hK => ?_) AllReadyH.nil)
          · go_simp
            go_wp2_with (first
              | (go_at_call 44; (with_reducible refine (implAs16_4 (b4 := b4) (o4 := o4) b' HB'.out _ _ ?_).mono ?_); (exact HG.out.g4.below (by repeat' (first | (with_reducible exact Below.refl _ _) | (with_reducible assumption) | (with_reducible refine Below.alloc ?_ ?_ _) | (with_reducible refine Below.drew ?_) | (with_reducible refine below_drewN ?_ _) | (with_reducible refine Below.setCell ?_ ?_ _) | (with_reducible refine below_setRow' ?_ ?_ _) | go_size)) (Nat.le_refl _)); rintro e wP ⟨rfl, hb1⟩; have hk1 := blk?_below hb1; (try simp only [size_drew', size_drewN'] at hk1); have hB1 := below_via (w := w) (by repeat' (first | (with_reducible exact Below.refl _ _) | (with_reducible assumption) | (with_reducible refine Below.alloc ?_ ?_ _) | (with_reducible refine Below.drew ?_) | (with_reducible refine below_drewN ?_ _) | (with_reducible refine Below.setCell ?_ ?_ _) | (with_reducible refine below_setRow' ?_ ?_ _) | go_size)) hb1; have hL0 : w.heap.size < wP.heap.size := (by have hS0 := hb1.size; (try simp at hS0); omega); have hL1 : w.heap.size + 1 < wP.heap.size := (by have hS0 := hb1.size; (try simp at hS0); omega); have hLe : w.heap.size ≤ wP.heap.size := hB1.size; have hS9 := hb1.size; (try simp [Nat.add_one_le_iff] at hS9); (try (have hS8 := Nat.lt_of_succ_lt hS9)); (try (have hT0 : w1.heap.size < wP.heap.size := (by have hS0 := hb1.size; (try simp at hS0); omega))); (try (have hT1 : w1.heap.size + 1 < wP.heap.size := (by have hS0 := hb1.size; (try simp at hS0); omega))); (try (have hT2 : wN.heap.size < wP.heap.size := (by have hS0 := hb1.size; (try simp at hS0); omega))); (try (have hT3 : wN.heap.size + 1 < wP.heap.size := (by have hS0 := hb1.size; (try simp at hS0); omega))); have hQ0a : w.heap.size < wP.heap.size + 1 := (by omega); have hQ0b : w.heap.size < wP.heap.size + 1 + 1 := (by omega); have hQ1a : w.heap.size + 1 < wP.heap.size + 1 := (by omega); have hQ1b : w.heap.size + 1 < wP.heap.size + 1 + 1 := (by omega); clear hb1))
            refine hK.out _ _ ?_ (fun hHeld4 => ?_)
            · ((try dsimp only); (refine ⟨?_, ?_⟩ <;> go_simp))
            clear hK K hHeld3
            (try simp only [Act.put, List.setIfInBounds_toArray, List.set_cons_zero, List.set_cons_succ, List.getElem_toArray, List.getElem_cons_succ, List.getElem_cons_zero])
            refine wpAnyH_ready (rs := [6]) (by kernel_rfl) (by simp) (AllReadyH.cons rfl (fun K hK => ?_) AllReadyH.nil)
            · go_simp
              refine hK.out _ _ ?_ (fun hHeld5 => ?_)
              · ((try dsimp only); (refine ⟨?_, ?_⟩ <;> go_simp))
              clear hK K hHeld4
              (try simp only [Act.put, List.setIfInBounds_toArray, List.set_cons_zero, List.set_cons_succ, List.getElem_toArray, List.getElem_cons_succ, List.getElem_cons_zero])
              refine wpAnyH_ready (rs := [7]) (by kernel_rfl) (by simp) (AllReadyH.cons rfl (fun K hK => ?_) AllReadyH.nil)
              · go_simp
                refine hK.out _ _ ?_ (fun hHeld6 => ?_)
                · ((try dsimp only); (refine ⟨?_, ?_⟩ <;> go_simp))
                clear hK K hHeld5
                (try simp only [Act.put, List.setIfInBounds_toArray, List.set_cons_zero, List.set_cons_succ, List.getElem_toArray, List.getElem_cons_succ, List.getElem_cons_zero])
                refine wpAnyH_done (by kernel_rfl) ?_ _
                go_wp2_with fail
                go_meet
                refine ⟨_, _, rfl, rfl, ?_, ?_, ?_, ?_, (by repeat' (first | (with_reducible exact Below.refl _ _) | (with_reducible assumption) | (with_reducible refine Below.alloc ?_ ?_ _) | (with_reducible refine Below.drew ?_) | (with_reducible refine below_drewN ?_ _) | (with_reducible refine Below.setCell ?_ ?_ _) | (with_reducible refine below_setRow' ?_ ?_ _) | go_size))⟩
                all_goals go_simp
      · go_simp
        refine hK.out _ _ ?_ (fun hHeld2 => ?_)
        · ((try dsimp only); (refine ⟨?_, ?_⟩ <;> go_simp))
        clear hK K hHeld1
        (try simp only [Act.put, List.setIfInBounds_toArray, List.set_cons_zero, List.set_cons_succ, List.getElem_toArray, List.getElem_cons_succ, List.getElem_cons_zero])
        refine wpAnyH_ready (rs := [3, 4]) (by kernel_rfl) (by simp) (AllReadyH.cons rfl (fun K hK => ?_) (AllReadyH.cons rfl (fun K hK => ?_) AllReadyH.nil))
        · go_simp
          go_wp2_with (first
            | (go_at_call 44; (with_reducible refine (implAs16_4 (b4 := b4) (o4 := o4) b' HB'.out _ _ ?_).mono ?_); (exact HG.out.g4.below (by repeat' (first | (with_reducible exact Below.refl _ _) | (with_reducible assumption) | (with_reducible refine Below.alloc ?_ ?_ _) | (with_reducible refine Below.drew ?_) | (with_reducible refine below_drewN ?_ _) | (with_reducible refine Below.setCell ?_ ?_ _) | (with_reducible refine below_setRow' ?_ ?_ _) | go_size)) (Nat.le_refl _)); rintro e wP ⟨rfl, hb1⟩; have hk1 := blk?_below hb1; (try simp only [size_drew', size_drewN'] at hk1); have hB1 := below_via (w := w) (by repeat' (first | (with_reducible exact Below.refl _ _) | (with_reducible assumption) | (with_reducible refine Below.alloc ?_ ?_ _) | (with_reducible refine Below.drew ?_) | (with_reducible refine below_drewN ?_ _) | (with_reducible refine Below.setCell ?_ ?_ _) | (with_reducible refine below_setRow' ?_ ?_ _) | go_size)) hb1; have hL0 : w.heap.size < wP.heap.size := (by have hS0 := hb1.size; (try simp at hS0); omega); have hL1 : w.heap.size + 1 < wP.heap.size := (by have hS0 := hb1.size; (try simp at hS0); omega); have hLe : w.heap.size ≤ wP.heap.size := hB1.size; have hS9 := hb1.size; (try simp [Nat.add_one_le_iff] at hS9); (try (have hS8 := Nat.lt_of_succ_lt hS9)); (try (have hT0 : w1.heap.size < wP.heap.size := (by have hS0 := hb1.size; (try simp at hS0); omega))); (try (have hT1 : w1.heap.size + 1 < wP.heap.size := (by have hS0 := hb1.size; (try simp at hS0); omega))); (try (have hT2 : wN.heap.size < wP.heap.size := (by have hS0 := hb1.size; (try simp at hS0); omega))); (try (have hT3 : wN.heap.size + 1 < wP.heap.size := (by have hS0 := hb1.size; (try simp at hS0); omega))); have hQ0a : w.heap.size < wP.heap.size + 1 := (by omega); have hQ0b : w.heap.size < wP.heap.size + 1 + 1 := (by omega); have hQ1a : w.heap.size + 1 < wP.heap.size + 1 := (by omega); have hQ1b : w.heap.size + 1 < wP.heap.size + 1 + 1 := (by omega); clear hb1))
          refine hK.out _ _ ?_ (fun hHeld3 => ?_)
          · ((try dsimp only); (refine ⟨?_, ?_⟩ <;> go_simp))
          clear hK K hHeld2
          (try simp only [Act.put, List.setIfInBounds_toArray, List.set_cons_zero, List.set_cons_succ, List.getElem_toArray, List.getElem_cons_succ, List.getElem_cons_zero])
          refine wpAnyH_ready (rs := [4]) (by kernel_rfl) (by simp) (AllReadyH.cons rfl (fun K hK => ?_) AllReadyH.nil)
          · go_simp
            refine hK.out _ _ ?_ (fun hHeld4 => ?_)
            · ((try dsimp only); (refine ⟨?_, ?_⟩ <;> go_simp))
            clear hK K hHeld3
            (try simp only [Act.put, List.setIfInBounds_toArray, List.set_cons_zero, List.set_cons_succ, List.getElem_toArray, List.getElem_cons_succ, List.getElem_cons_zero])
            refine wpAnyH_ready (rs := [6]) (by kernel_rfl) (by simp) (AllReadyH.cons rfl (fun K hK => ?_) AllReadyH.nil)
            · go_simp
              refine hK.out _ _ ?_ (fun hHeld5 => ?_)
              · ((try dsimp only); (refine ⟨?_, ?_⟩ <;> go_simp))
              clear hK K hHeld4
              (try simp only [Act.put, List.setIfInBounds_toArray, List.set_cons_zero, List.set_cons_succ, List.getElem_toArray, List.getElem_cons_succ, List.getElem_cons_zero])
              refine wpAnyH_ready (rs := [7]) (by kernel_rfl) (by simp) (AllReadyH.cons rfl (fun K hK => ?_) AllReadyH.nil)
              · go_simp
                refine hK.out _ _ ?_ (fun hHeld6 => ?_)
                · ((try dsimp only); (refine ⟨?_, ?_⟩ <;> go_simp))
                clear hK K hHeld5
                (try simp only [Act.put, List.setIfInBounds_toArray, List.set_cons_zero, List.set_cons_succ, List.getElem_toArray, List.getElem_cons_succ, List.getElem_cons_zero])
                refine wpAnyH_done (by kernel_rfl) ?_ _
                go_wp2_with fail
                go_meet
                refine ⟨_, _, rfl, rfl, ?_, ?_, ?_, ?_, (by repeat' (first | (with_reducible exact Below.refl _ _) | (with_reducible assumption) | (with_reducible refine Below.alloc ?_ ?_ _) | (with_reducible refine Below.drew ?_) | (with_reducible refine below_drewN ?_ _) | (with_reducible refine Below.setCell ?_ ?_ _) | (with_reducible refine below_setRow' ?_ ?_ _) | go_size))⟩
                all_goals go_simp
        · go_simp
          refine hK.out _ _ ?_ (fun hHeld3 => ?_)
          · ((try dsimp only); (refine ⟨?_, ?_⟩ <;> go_simp))
          clear hK K hHeld2
          (try simp only [Act.put, List.setIfInBounds_toArray, List.set_cons_zero, List.set_cons_succ, List.getElem_toArray, List.getElem_cons_succ, List.getElem_cons_zero])
          refine wpAnyH_ready (rs := [3]) (by kernel_rfl) (by simp) (AllReadyH.cons rfl (fun K hK => ?_) AllReadyH.nil)
          · go_simp
            go_wp2_with (first
              | (go_at_call 44; (with_reducible refine (implAs16_4 (b4 := b4) (o4 := o4) b' HB'.out _ _ ?_).mono ?_); (exact HG.out.g4.below (by repeat' (first | (with_reducible exact Below.refl _ _) | (with_reducible assumption) | (with_reducible refine Below.alloc ?_ ?_ _) | (with_reducible refine Below.drew ?_) | (with_reducible refine below_drewN ?_ _) | (with_reducible refine Below.setCell ?_ ?_ _) | (with_reducible refine below_setRow' ?_ ?_ _) | go_size)) (Nat.le_refl _)); rintro e wP ⟨rfl, hb1⟩; have hk1 := blk?_below hb1; (try simp only [size_drew', size_drewN'] at hk1); have hB1 := below_via (w := w) (by repeat' (first | (with_reducible exact Below.refl _ _) | (with_reducible assumption) | (with_reducible refine Below.alloc ?_ ?_ _) | (with_reducible refine Below.drew ?_) | (with_reducible refine below_drewN ?_ _) | (with_reducible refine Below.setCell ?_ ?_ _) | (with_reducible refine below_setRow' ?_ ?_ _) | go_size)) hb1; have hL0 : w.heap.size < wP.heap.size := (by have hS0 := hb1.size; (try simp at hS0); omega); have hL1 : w.heap.size + 1 < wP.heap.size := (by have hS0 := hb1.size; (try simp at hS0); omega); have hLe : w.heap.size ≤ wP.heap.size := hB1.size; have hS9 := hb1.size; (try simp [Nat.add_one_le_iff] at hS9); (try (have hS8 := Nat.lt_of_succ_lt hS9)); (try (have hT0 : w1.heap.size < wP.heap.size := (by have hS0 := hb1.size; (try simp at hS0); omega))); (try (have hT1 : w1.heap.size + 1 < wP.heap.size := (by have hS0 := hb1.size; (try simp at hS0); omega))); (try (have hT2 : wN.heap.size < wP.heap.size := (by have hS0 := hb1.size; (try simp at hS0); omega))); (try (have hT3 : wN.heap.size + 1 < wP.heap.size := (by have hS0 := hb1.size; (try simp at hS0); omega))); have hQ0a : w.heap.size < wP.heap.size + 1 := (by omega); have hQ0b : w.heap.size < wP.heap.size + 1 + 1 := (by omega); have hQ1a : w.heap.size + 1 < wP.heap.size + 1 := (by omega); have hQ1b : w.heap.size + 1 < wP.heap.size + 1 + 1 := (by omega); clear hb1))
            refine hK.out _ _ ?_ (fun hHeld4 => ?_)
            · ((try dsimp only); (refine ⟨?_, ?_⟩ <;> go_simp))
            clear hK K hHeld3
            (try simp only [Act.put, List.setIfInBounds_toArray, List.set_cons_zero, List.set_cons_succ, List.getElem_toArray, List.getElem_cons_succ, List.getElem_cons_zero])
            refine wpAnyH_ready (rs := [6]) (by kernel_rfl) (by simp) (AllReadyH.cons rfl (fun K hK => ?_) AllReadyH.nil)
            · go_simp
              refine hK.out _ _ ?_ (fun hHeld5 => ?_)
              · ((try dsimp only); (refine ⟨?_, ?_⟩ <;> go_simp))
              clear hK K hHeld4
              (try simp only [Act.put, List.setIfInBounds_toArray, List.set_cons_zero, List.set_cons_succ, List.getElem_toArray, List.getElem_cons_succ, List.getElem_cons_zero])
              refine wpAnyH_ready (rs := [7]) (by kernel_rfl) (by simp) (AllReadyH.cons rfl (fun K hK => ?_) AllReadyH.nil)
              · go_simp
                refine hK.out _ _ ?_ (fun hHeld6 => ?_)
                · ((try dsimp only); (refine ⟨?_, ?_⟩ <;> go_simp))
                clear hK K hHeld5
                (try simp only [Act.put, List.setIfInBounds_toArray, List.set_cons_zero, List.set_cons_succ, List.getElem_toArray, List.getElem_cons_succ, List.getElem_cons_zero])
                refine wpAnyH_done (by kernel_rfl) ?_ _
                go_wp2_with fail
                go_meet
                refine ⟨_, _, rfl, rfl, ?_, ?_, ?_, ?_, (by repeat' (first | (with_reducible exact Below.refl _ _) | (with_reducible assumption) | (with_reducible refine Below.alloc ?_ ?_ _) | (with_reducible refine Below.drew ?_) | (with_reducible refine below_drewN ?_ _) | (with_reducible refine Below.setCell ?_ ?_ _) | (with_reducible refine below_setRow' ?_ ?_ _) | go_size))⟩
                all_goals go_simp
    · go_simp
      refine hK.out _ _ ?_ (fun hHeld1 => ?_)
      · ((try dsimp only); (refine ⟨?_, ?_⟩ <;> go_simp))
      clear hK K hHeld0
      (try simp only [Act.put, List.setIfInBounds_toArray, List.set_cons_zero, List.set_cons_succ, List.getElem_toArray, List.getElem_cons_succ, List.getElem_cons_zero])
      refine wpAnyH_ready (rs := [1, 5]) (by kernel_rfl) (by simp) (AllReadyH.cons rfl (fun K hK => ?_) (AllReadyH.cons rfl (fun K hK => ?_) AllReadyH.nil))
      · go_simp
        go_wp2_with (first
          | (go_at_call 44; (with_reducible refine (implAs16_4 (b4 := b4) (o4 := o4) b HB.out _ _ ?_).mono ?_); (exact HG.out.g4.below (by repeat' (first | (with_reducible exact Below.refl _ _) | (with_reducible assumption) | (with_reducible refine Below.alloc ?_ ?_ _) | (with_reducible refine Below.drew ?_) | (with_reducible refine below_drewN ?_ _) | (with_reducible refine Below.setCell ?_ ?_ _) | (with_reducible refine below_setRow' ?_ ?_ _) | go_size)) (Nat.le_refl _)); rintro e wN ⟨rfl, hb1⟩; have hk1 := blk?_below hb1; (try simp only [size_drew', size_drewN'] at hk1); have hB1 := below_via (w := w) (by repeat' (first | (with_reducible exact Below.refl _ _) | (with_reducible assumption) | (with_reducible refine Below.alloc ?_ ?_ _) | (with_reducible refine Below.drew ?_) | (with_reducible refine below_drewN ?_ _) | (with_reducible refine Below.setCell ?_ ?_ _) | (with_reducible refine below_setRow' ?_ ?_ _) | go_size)) hb1; have hL0 : w.heap.size < wN.heap.size := (by have hS0 := hb1.size; (try simp at hS0); omega); have hL1 : w.heap.size + 1 < wN.heap.size := (by have hS0 := hb1.size; (try simp at hS0); omega); have hLe : w.heap.size ≤ wN.heap.size := hB1.size; have hS9 := hb1.size; (try simp [Nat.add_one_le_iff] at hS9); (try (have hS8 := Nat.lt_of_succ_lt hS9)); have hQ0a : w.heap.size < wN.heap.size + 1 := (by omega); have hQ0b : w.heap.size < wN.heap.size + 1 + 1 := (by omega); have hQ1a : w.heap.size + 1 < wN.heap.size + 1 := (by omega); have hQ1b : w.heap.size + 1 < wN.heap.size + 1 + 1 := (by omega); clear hb1))
        refine hK.out _ _ ?_ (fun hHeld2 => ?_)
        · ((try dsimp only); (refine ⟨?_, ?_⟩ <;> go_simp))
        clear hK K hHeld1
        (try simp only [Act.put, List.setIfInBounds_toArray, List.set_cons_zero, List.set_cons_succ, List.getElem_toArray, List.getElem_cons_succ, List.getElem_cons_zero])
        refine wpAnyH_ready (rs := [3, 5]) (by kernel_rfl) (by simp) (AllReadyH.cons rfl (fun K hK => ?_) (AllReadyH.cons rfl (fun K hK => ?_) AllReadyH.nil))
        · go_simp
          go_wp2_with (first
            | (go_at_call 44; (with_reducible refine (implAs16_4 (b4 := b4) (o4 := o4) b' HB'.out _ _ ?_).mono ?_); (exact HG.out.g4.below (by repeat' (first | (with_reducible exact Below.refl _ _) | (with_reducible assumption) | (with_reducible refine Below.alloc ?_ ?_ _) | (with_reducible refine Below.drew ?_) | (with_reducible refine below_drewN ?_ _) | (with_reducible refine Below.setCell ?_ ?_ _) | (with_reducible refine below_setRow' ?_ ?_ _) | go_size)) (Nat.le_refl _)); rintro e wP ⟨rfl, hb1⟩; have hk1 := blk?_below hb1; (try simp only [size_drew', size_drewN'] at hk1); have hB1 := below_via (w := w) (by repeat' (first | (with_reducible exact Below.refl _ _) | (with_reducible assumption) | (with_reducible refine Below.alloc ?_ ?_ _) | (with_reducible refine Below.drew ?_) | (with_reducible refine below_drewN ?_ _) | (with_reducible refine Below.setCell ?_ ?_ _) | (with_reducible refine below_setRow' ?_ ?_ _) | go_size)) hb1; have hL0 : w.heap.size < wP.heap.size := (by have hS0 := hb1.size; (try simp at hS0); omega); have hL1 : w.heap.size + 1 < wP.heap.size := (by have hS0 := hb1.size; (try simp at hS0); omega); have hLe : w.heap.size ≤ wP.heap.size := hB1.size; have hS9 := hb1.size; (try simp [Nat.add_one_le_iff] at hS9); (try (have hS8 := Nat.lt_of_succ_lt hS9)); (try (have hT0 : w1.heap.size < wP.heap.size := (by have hS0 := hb1.size; (try simp at hS0); omega))); (try (have hT1 : w1.heap.size + 1 < wP.heap.size := (by have hS0 := hb1.size; (try simp at hS0); omega))); (try (have hT2 : wN.heap.size < wP.heap.size := (by have hS0 := hb1.size; (try simp at hS0); omega))); (try (have hT3 : wN.heap.size + 1 < wP.heap.size := (by have hS0 := hb1.size; (try simp at hS0); omega))); have hQ0a : w.heap.size < wP.heap.size + 1 := (by omega); have hQ0b : w.heap.size < wP.heap.size + 1 + 1 := (by omega); have hQ1a : w.heap.size + 1 < wP.heap.size + 1 := (by omega); have hQ1b : w.heap.size + 1 < wP.heap.size + 1 + 1 := (by omega); clear hb1))
          refine hK.out _ _ ?_ (fun hHeld3 => ?_)
          · ((try dsimp only); (refine ⟨?_, ?_⟩ <;> go_simp))
          clear hK K hHeld2
          (try simp only [Act.put, List.setIfInBounds_toArray, List.set_cons_zero, List.set_cons_succ, List.getElem_toArray, List.getElem_cons_succ, List.getElem_cons_zero])
          refine wpAnyH_ready (rs := [5]) (by kernel_rfl) (by simp) (AllReadyH.cons rfl (fun K hK => ?_) AllReadyH.nil)
          · go_simp
            refine hK.out _ _ ?_ (fun hHeld4 => ?_)
            · ((try dsimp only); (refine ⟨?_, ?_⟩ <;> go_simp))
            clear hK K hHeld3
            (try simp only [Act.put, List.setIfInBounds_toArray, List.set_cons_zero, List.set_cons_succ, List.getElem_toArray, List.getElem_cons_succ, List.getElem_cons_zero])
            refine wpAnyH_ready (rs := [6]) (by kernel_rfl) (by simp) (AllReadyH.cons rfl (fun K hK => ?_) AllReadyH.nil)
            · go_simp
              refine hK.out _ _ ?_ (fun hHeld5 => ?_)
              · ((try dsimp only); (refine ⟨?_, ?_⟩ <;> go_simp))
              clear hK K hHeld4
              (try simp only [Act.put, List.setIfInBounds_toArray, List.set_cons_zero, List.set_cons_succ, List.getElem_toArray, List.getElem_cons_succ, List.getElem_cons_zero])
              refine wpAnyH_ready (rs := [7]) (by kernel_rfl) (by simp) (AllReadyH.cons rfl (fun K hK => ?_) AllReadyH.nil)
              · go_simp
                refine hK.out _ _ ?_ (fun hHeld6 => ?_)
                · ((try dsimp only); (refine ⟨?_, ?_⟩ <;> go_simp))
                clear hK K hHeld5
                (try simp only [Act.put, List.setIfInBounds_toArray, List.set_cons_zero, List.set_cons_succ, List.getElem_toArray, List.getElem_cons_succ, List.getElem_cons_zero])
                refine wpAnyH_done (by kernel_rfl) ?_ _
                go_wp2_with fail
                go_meet
                refine ⟨_, _, rfl, rfl, ?_, ?_, ?_, ?_, (by repeat' (first | (with_reducible exact Below.refl _ _) | (with_reducible assumption) | (with_reducible refine Below.alloc ?_ ?_ _) | (with_reducible refine Below.drew ?_) | (with_reducible refine below_drewN ?_ _) | (with_reducible refine Below.setCell ?_ ?_ _) | (with_reducible refine below_setRow' ?_ ?_ _) | go_size))⟩
                all_goals go_simp
        · go_simp
          refine hK.out _ _ ?_ (fun hHeld3 => ?_)
          · ((try dsimp only); (refine ⟨?_, ?_⟩ <;> go_simp))
          clear hK K hHeld2
          (try simp only [Act.put, List.setIfInBounds_toArray, List.set_cons_zero, List.set_cons_succ, List.getElem_toArray, List.getElem_cons_succ, List.getElem_cons_zero])
          refine wpAnyH_ready (rs := [3]) (by kernel_rfl) (by simp) (AllReadyH.cons rfl (fun K hK => ?_) AllReadyH.nil)
          · go_simp
            go_wp2_with (first
              | (go_at_call 44; (with_reducible refine (implAs16_4 (b4 := b4) (o4 := o4) b' HB'.out _ _ ?_).mono ?_); (exact HG.out.g4.below (by repeat' (first | (with_reducible exact Below.refl _ _) | (with_reducible assumption) | (with_reducible refine Below.alloc ?_ ?_ _) | (with_reducible refine Below.drew ?_) | (with_reducible refine below_drewN ?_ _) | (with_reducible refine Below.setCell ?_ ?_ _) | (with_reducible refine below_setRow' ?_ ?_ _) | go_size)) (Nat.le_refl _)); rintro e wP ⟨rfl, hb1⟩; have hk1 := blk?_below hb1; (try simp only [size_drew', size_drewN'] at hk1); have hB1 := below_via (w := w) (by repeat' (first | (with_reducible exact Below.refl _ _) | (with_reducible assumption) | (with_reducible refine Below.alloc ?_ ?_ _) | (with_reducible refine Below.drew ?_) | (with_reducible refine below_drewN ?_ _) | (with_reducible refine Below.setCell ?_ ?_ _) | (with_reducible refine below_setRow' ?_ ?_ _) | go_size)) hb1; have hL0 : w.heap.size < wP.heap.size := (by have hS0 := hb1.size; (try simp at hS0); omega); have hL1 : w.heap.size + 1 < wP.heap.size := (by have hS0 := hb1.size; (try simp at hS0); omega); have hLe : w.heap.size ≤ wP.heap.size := hB1.size; have hS9 := hb1.size; (try simp [Nat.add_one_le_iff] at hS9); (try (have hS8 := Nat.lt_of_succ_lt hS9)); (try (have hT0 : w1.heap.size < wP.heap.size := (by have hS0 := hb1.size; (try simp at hS0); omega))); (try (have hT1 : w1.heap.size + 1 < wP.heap.size := (by have hS0 := hb1.size; (try simp at hS0); omega))); (try (have hT2 : wN.heap.size < wP.heap.size := (by have hS0 := hb1.size; (try simp at hS0); omega))); (try (have hT3 : wN.heap.size + 1 < wP.heap.size := (by have hS0 := hb1.size; (try simp at hS0); omega))); have hQ0a : w.heap.size < wP.heap.size + 1 := (by omega); have hQ0b : w.heap.size < wP.heap.size + 1 + 1 := (by omega); have hQ1a : w.heap.size + 1 < wP.heap.size + 1 := (by omega); have hQ1b : w.heap.size + 1 < wP.heap.size + 1 + 1 := (by omega); clear hb1))
            refine hK.out _ _ ?_ (fun hHeld4 => ?_)
            · ((try dsimp only); (refine ⟨?_, ?_⟩ <;> go_simp))
            clear hK K hHeld3
            (try simp only [Act.put, List.setIfInBounds_toArray, List.set_cons_zero, List.set_cons_succ, List.getElem_toArray, List.getElem_cons_succ, List.getElem_cons_zero])
            refine wpAnyH_ready (rs := [6]) (by kernel_rfl) (by simp) (AllReadyH.cons rfl (fun K hK => ?_) AllReadyH.nil)
            · go_simp
              refine hK.out _ _ ?_ (fun hHeld5 => ?_)
              · ((try dsimp only); (refine ⟨?_, ?_⟩ <;> go_simp))
              clear hK K hHeld4
              (try simp only [Act.put, List.setIfInBounds_toArray, List.set_cons_zero, List.set_cons_succ, List.getElem_toArray, List.getElem_cons_succ, List.getElem_cons_zero])
              refine wpAnyH_ready (rs := [7]) (by kernel_rfl) (by simp) (AllReadyH.cons rfl (fun K hK => ?_) AllReadyH.nil)
              · go_simp
                refine hK.out _ _ ?_ (fun hHeld6 => ?_)
                · ((try dsimp only); (refine ⟨?_, ?_⟩ <;> go_simp))
                clear hK K hHeld5
                (try simp only [Act.put, List.setIfInBounds_toArray, List.set_cons_zero, List.set_cons_succ, List.getElem_toArray, List.getElem_cons_succ, List.getElem_cons_zero])
                refine wpAnyH_done (by kernel_rfl) ?_ _
                go_wp2_with fail
                go_meet
                refine ⟨_, _, rfl, rfl, ?_, ?_, ?_, ?_, (by repeat' (first | (with_reducible exact Below.refl _ _) | (with_reducible assumption) | (with_reducible refine Below.alloc ?_ ?_ _) | (with_reducible refine Below.drew ?_) | (with_reducible refine below_drewN ?_ _) | (with_reducible refine Below.setCell ?_ ?_ _) | (with_reducible refine below_setRow' ?_ ?_ _) | go_size))⟩
                all_goals go_simp
      · go_simp
        refine hK.out _ _ ?_ (fun hHeld2 => ?_)
        · ((try dsimp only); (refine ⟨?_, ?_⟩ <;> go_simp))
        clear hK K hHeld1
        (try simp only [Act.put, List.setIfInBounds_toArray, List.set_cons_zero, List.set_cons_succ, List.getElem_toArray, List.getElem_cons_succ, List.getElem_cons_zero])
        refine wpAnyH_ready (rs := [1]) (by kernel_rfl) (by simp) (AllReadyH.cons rfl (fun K hK => ?_) AllReadyH.nil)
        · go_simp
          go_wp2_with (first
            | (go_at_call 44; (with_reducible refine (implAs16_4 (b4 := b4) (o4 := o4) b HB.out _ _ ?_).mono ?_); (exact HG.out.g4.below (by repeat' (first | (with_reducible exact Below.refl _ _) | (with_reducible assumption) | (with_reducible refine Below.alloc ?_ ?_ _) | (with_reducible refine Below.drew ?_) | (with_reducible refine below_drewN ?_ _) | (with_reducible refine Below.setCell ?_ ?_ _) | (with_reducible refine below_setRow' ?_ ?_ _) | go_size)) (Nat.le_refl _)); rintro e wN ⟨rfl, hb1⟩; have hk1 := blk?_below hb1; (try simp only [size_drew', size_drewN'] at hk1); have hB1 := below_via (w := w) (by repeat' (first | (with_reducible exact Below.refl _ _) | (with_reducible assumption) | (with_reducible refine Below.alloc ?_ ?_ _) | (with_reducible refine Below.drew ?_) | (with_reducible refine below_drewN ?_ _) | (with_reducible refine Below.setCell ?_ ?_ _) | (with_reducible refine below_setRow' ?_ ?_ _) | go_size)) hb1; have hL0 : w.heap.size < wN.heap.size := (by have hS0 := hb1.size; (try simp at hS0); omega); have hL1 : w.heap.size + 1 < wN.heap.size := (by have hS0 := hb1.size; (try simp at hS0); omega); have hLe : w.heap.size ≤ wN.heap.size := hB1.size; have hS9 := hb1.size; (try simp [Nat.add_one_le_iff] at hS9); (try (have hS8 := Nat.lt_of_succ_lt hS9)); have hQ0a : w.heap.size < wN.heap.size + 1 := (by omega); have hQ0b : w.heap.size < wN.heap.size + 1 + 1 := (by omega); have hQ1a : w.heap.size + 1 < wN.heap.size + 1 := (by omega); have hQ1b : w.heap.size + 1 < wN.heap.size + 1 + 1 := (by omega); clear hb1))
          refine hK.out _ _ ?_ (fun hHeld3 => ?_)
          · ((try dsimp only); (refine ⟨?_, ?_⟩ <;> go_simp))
          clear hK K hHeld2
          (try simp only [Act.put, List.setIfInBounds_toArray, List.set_cons_zero, List.set_cons_succ, List.getElem_toArray, List.getElem_cons_succ, List.getElem_cons_zero])
          refine wpAnyH_ready (rs := [3]) (by kernel_rfl) (by simp) (AllReadyH.cons rfl (fun K hK => ?_) AllReadyH.nil)
          · go_simp
            go_wp2_with (first
              | (go_at_call 44; (with_reducible refine (implAs16_4 (b4 := b4) (o4 := o4) b' HB'.out _ _ ?_).mono ?_); (exact HG.out.g4.below (by repeat' (first | (with_reducible exact Below.refl _ _) | (with_reducible assumption) | (with_reducible refine Below.alloc ?_ ?_ _) | (with_reducible refine Below.drew ?_) | (with_reducible refine below_drewN ?_ _) | (with_reducible refine Below.setCell ?_ ?_ _) | (with_reducible refine below_setRow' ?_ ?_ _) | go_size)) (Nat.le_refl _)); rintro e wP ⟨rfl, hb1⟩; have hk1 := blk?_below hb1; (try simp only [size_drew', size_drewN'] at hk1); have hB1 := below_via (w := w) (by repeat' (first | (with_reducible exact Below.refl _ _) | (with_reducible assumption) | (with_reducible refine Below.alloc ?_ ?_ _) | (with_reducible refine Below.drew ?_) | (with_reducible refine below_drewN ?_ _) | (with_reducible refine Below.setCell ?_ ?_ _) | (with_reducible refine below_setRow' ?_ ?_ _) | go_size)) hb1; have hL0 : w.heap.size < wP.heap.size := (by have hS0 := hb1.size; (try simp at hS0); omega); have hL1 : w.heap.size + 1 < wP.heap.size := (by have hS0 := hb1.size; (try simp at hS0); omega); have hLe : w.heap.size ≤ wP.heap.size := hB1.size; have hS9 := hb1.size; (try simp [Nat.add_one_le_iff] at hS9); (try (have hS8 := Nat.lt_of_succ_lt hS9)); (try (have hT0 : w1.heap.size < wP.heap.size := (by have hS0 := hb1.size; (try simp at hS0); omega))); (try (have hT1 : w1.heap.size + 1 < wP.heap.size := (by have hS0 := hb1.size; (try simp at hS0); omega))); (try (have hT2 : wN.heap.size < wP.heap.size := (by have hS0 := hb1.size; (try simp at hS0); omega))); (try (have hT3 : wN.heap.size + 1 < wP.heap.size := (by have hS0 := hb1.size; (try simp at hS0); omega))); have hQ0a : w.heap.size < wP.heap.size + 1 := (by omega); have hQ0b : w.heap.size < wP.heap.size + 1 + 1 := (by omega); have hQ1a : w.heap.size + 1 < wP.heap.size + 1 := (by omega); have hQ1b : w.heap.size + 1 < wP.heap.size + 1 + 1 := (by omega); clear hb1))
            refine hK.out _ _ ?_ (fun hHeld4 => ?_)
            · ((try dsimp only); (refine ⟨?_, ?_⟩ <;> go_simp))
            clear hK K hHeld3
            (try simp only [Act.put, List.setIfInBounds_toArray, List.set_cons_zero, List.set_cons_succ, List.getElem_toArray, List.getElem_cons_succ, List.getElem_cons_zero])
            refine wpAnyH_ready (rs := [6]) (by kernel_rfl) (by simp) (AllReadyH.cons rfl (fun K hK => ?_) AllReadyH.nil)
            · go_simp
              refine hK.out _ _ ?_ (fun hHeld5 => ?_)
              · ((try dsimp only); (refine ⟨?_, ?_⟩ <;> go_simp))
              clear hK K hHeld4
              (try simp only [Act.put, List.setIfInBounds_toArray, List.set_cons_zero, List.set_cons_succ, List.getElem_toArray, List.getElem_cons_succ, List.getElem_cons_zero])
              refine wpAnyH_ready (rs := [7]) (by kernel_rfl) (by simp) (AllReadyH.cons rfl (fun K hK => ?_) AllReadyH.nil)
              · go_simp
                refine hK.out _ _ ?_ (fun hHeld6 => ?_)
                · ((try dsimp only); (refine ⟨?_, ?_⟩ <;> go_simp))
                clear hK K hHeld5
                (try simp only [Act.put, List.setIfInBounds_toArray, List.set_cons_zero, List.set_cons_succ, List.getElem_toArray, List.getElem_cons_succ, List.getElem_cons_zero])
                refine wpAnyH_done (by kernel_rfl) ?_ _
                go_wp2_with fail
                go_meet
                refine ⟨_, _, rfl, rfl, ?_, ?_, ?_, ?_, (by repeat' (first | (with_reducible exact Below.refl _ _) | (with_reducible assumption) | (with_reducible refine Below.alloc ?_ ?_ _) | (with_reducible refine Below.drew ?_) | (with_reducible refine below_drewN ?_ _) | (with_reducible refine Below.setCell ?_ ?_ _) | (with_reducible refine below_setRow' ?_ ?_ _) | go_size))⟩
                all_goals go_simp
    · go_simp
      refine hK.out _ _ ?_ (fun hHeld1 => ?_)
      · ((try dsimp only); (refine ⟨?_, ?_⟩ <;> go_simp))
      clear hK K hHeld0
      (try simp only [Act.put, List.setIfInBounds_toArray, List.set_cons_zero, List.set_cons_succ, List.getElem_toArray, List.getElem_cons_succ, List.getElem_cons_zero])
      refine wpAnyH_ready (rs := [1, 4]) (by kernel_rfl) (by simp) (AllReadyH.cons rfl (fun K hK => ?_) (AllReadyH.cons rfl (fun K hK => ?_) AllReadyH.nil))
      · go_simp
        go_wp2_with (first
          | (go_at_call 44; (with_reducible refine (implAs16_4 (b4 := b4) (o4 := o4) b HB.out _ _ ?_).mono ?_); (exact HG.out.g4.below (by repeat' (first | (with_reducible exact Below.refl _ _) | (with_reducible assumption) | (with_reducible refine Below.alloc ?_ ?_ _) | (with_reducible refine Below.drew ?_) | (with_reducible refine below_drewN ?_ _) | (with_reducible refine Below.setCell ?_ ?_ _) | (with_reducible refine below_setRow' ?_ ?_ _) | go_size)) (Nat.le_refl _)); rintro e wN ⟨rfl, hb1⟩; have hk1 := blk?_below hb1; (try simp only [size_drew', size_drewN'] at hk1); have hB1 := below_via (w := w) (by repeat' (first | (with_reducible exact Below.refl _ _) | (with_reducible assumption) | (with_reducible refine Below.alloc ?_ ?_ _) | (with_reducible refine Below.drew ?_) | (with_reducible refine below_drewN ?_ _) | (with_reducible refine Below.setCell ?_ ?_ _) | (with_reducible refine below_setRow' ?_ ?_ _) | go_size)) hb1; have hL0 : w.heap.size < wN.heap.size := (by have hS0 := hb1.size; (try simp at hS0); omega); have hL1 : w.heap.size + 1 < wN.heap.size := (by have hS0 := hb1.size; (try simp at hS0); omega); have hLe : w.heap.size ≤ wN.heap.size := hB1.size; have hS9 := hb1.size; (try simp [Nat.add_one_le_iff] at hS9); (try (have hS8 := Nat.lt_of_succ_lt hS9)); have hQ0a : w.heap.size < wN.heap.size + 1 := (by omega); have hQ0b : w.heap.size < wN.heap.size + 1 + 1 := (by omega); have hQ1a : w.heap.size + 1 < wN.heap.size + 1 := (by omega); have hQ1b : w.heap.size + 1 < wN.heap.size + 1 + 1 := (by omega); clear hb1))
        refine hK.out _ _ ?_ (fun hHeld2 => ?_)
        · ((try dsimp only); (refine ⟨?_, ?_⟩ <;> go_simp))
        clear hK K hHeld1
        (try simp only [Act.put, List.setIfInBounds_toArray, List.set_cons_zero, List.set_cons_succ, List.getElem_toArray, List.getElem_cons_succ, List.getElem_cons_zero])
        refine wpAnyH_ready (rs := [3, 4]) (by kernel_rfl) (by simp) (AllReadyH.cons rfl (fun K hK => ?_) (AllReadyH.cons rfl (fun K hK => ?_) AllReadyH.nil))
        · go_simp
          go_wp2_with (first
            | (go_at_call 44; (with_reducible refine (implAs16_4 (b4 := b4) (o4 := o4) b' HB'.out _ _ ?_).mono ?_); (exact HG.out.g4.below (by repeat' (first | (with_reducible exact Below.refl _ _) | (with_reducible assumption) | (with_reducible refine Below.alloc ?_ ?_ _) | (with_reducible refine Below.drew ?_) | (with_reducible refine below_drewN ?_ _) | (with_reducible refine Below.setCell ?_ ?_ _) | (with_reducible refine below_setRow' ?_ ?_ _) | go_size)) (Nat.le_refl _)); rintro e wP ⟨rfl, hb1⟩; have hk1 := blk?_below hb1; (try simp only [size_drew', size_drewN'] at hk1); have hB1 := below_via (w := w) (by repeat' (first | (with_reducible exact Below.refl _ _) | (with_reducible assumption) | (with_reducible refine Below.alloc ?_ ?_ _) | (with_reducible refine Below.drew ?_) | (with_reducible refine below_drewN ?_ _) | (with_reducible refine Below.setCell ?_ ?_ _) | (with_reducible refine below_setRow' ?_ ?_ _) | go_size)) hb1; have hL0 : w.heap.size < wP.heap.size := (by have hS0 := hb1.size; (try simp at hS0); omega); have hL1 : w.heap.size + 1 < wP.heap.size := (by have hS0 := hb1.size; (try simp at hS0); omega); have hLe : w.heap.size ≤ wP.heap.size := hB1.size; have hS9 := hb1.size; (try simp [Nat.add_one_le_iff] at hS9); (try (have hS8 := Nat.lt_of_succ_lt hS9)); (try (have hT0 : w1.heap.size < wP.heap.size := (by have hS0 := hb1.size; (try simp at hS0); omega))); (try (have hT1 : w1.heap.size + 1 < wP.heap.size := (by have hS0 := hb1.size; (try simp at hS0); omega))); (try (have hT2 : wN.heap.size < wP.heap.size := (by have hS0 := hb1.size; (try simp at hS0); omega))); (try (have hT3 : wN.heap.size + 1 < wP.heap.size := (by have hS0 := hb1.size; (try simp at hS0); omega))); have hQ0a : w.heap.size < wP.heap.size + 1 := (by omega); have hQ0b : w.heap.size < wP.heap.size + 1 + 1 := (by omega); have hQ1a : w.heap.size + 1 < wP.heap.size + 1 := (by omega); have hQ1b : w.heap.size + 1 < wP.heap.size + 1 + 1 := (by omega); clear hb1))
          refine hK.out _ _ ?_ (fun hHeld3 => ?_)
          · ((try dsimp only); (refine ⟨?_, ?_⟩ <;> go_simp))
          clear hK K hHeld2
          (try simp only [Act.put, List.setIfInBounds_toArray, List.set_cons_zero, List.set_cons_succ, List.getElem_toArray, List.getElem_cons_succ, List.getElem_cons_zero])
          refine wpAnyH_ready (rs := [4]) (by kernel_rfl) (by simp) (AllReadyH.cons rfl (fun K hK => ?_) AllReadyH.nil)
          · go_simp
            refine hK.out _ _ ?_ (fun hHeld4 => ?_)
            · ((try dsimp only); (refine ⟨?_, ?_⟩ <;> go_simp))
            clear hK K hHeld3
            (try simp only [Act.put, List.setIfInBounds_toArray, List.set_cons_zero, List.set_cons_succ, List.getElem_toArray, List.getElem_cons_succ, List.getElem_cons_zero])
            refine wpAnyH_ready (rs := [6]) (by kernel_rfl) (by simp) (AllReadyH.cons rfl (fun K hK => ?_) AllReadyH.nil)
            · go_simp
              refine hK.out _ _ ?_ (fun hHeld5 => ?_)
              · ((try dsimp only); (refine ⟨?_, ?_⟩ <;> go_simp))
              clear hK K hHeld4
              (try simp only [Act.put, List.setIfInBounds_toArray, List.set_cons_zero, List.set_cons_succ, List.getElem_toArray, List.getElem_cons_succ, List.getElem_cons_zero])
              refine wpAnyH_ready (rs := [7]) (by kernel_rfl) (by simp) (AllReadyH.cons rfl (fun K hK => ?_) AllReadyH.nil)
              · go_simp
                refine hK.out _ _ ?_ (fun hHeld6 => ?_)
                · ((try dsimp only); (refine ⟨?_, ?_⟩ <;> go_simp))
                clear hK K hHeld5
                (try simp only [Act.put, List.setIfInBounds_toArray, List.set_cons_zero, List.set_cons_succ, List.getElem_toArray, List.getElem_cons_succ, List.getElem_cons_zero])
                refine wpAnyH_done (by kernel_rfl) ?_ _
                go_wp2_with fail
                go_meet
                refine ⟨_, _, rfl, rfl, ?_, ?_, ?_, ?_, (by repeat' (first | (with_reducible exact Below.refl _ _) | (with_reducible assumption) | (with_reducible refine Below.alloc ?_ ?_ _) | (with_reducible refine Below.drew ?_) | (with_reducible refine below_drewN ?_ _) | (with_reducible refine Below.setCell ?_ ?_ _) | (with_reducible refine below_setRow' ?_ ?_ _) | go_size))⟩
                all_goals go_simp
        · go_simp
          refine hK.out _ _ ?_ (fun hHeld3 => ?_)
          · ((try dsimp only); (refine ⟨?_, ?_⟩ <;> go_simp))
          clear hK K hHeld2
          (try simp only [Act.put, List.setIfInBounds_toArray, List.set_cons_zero, List.set_cons_succ, List.getElem_toArray, List.getElem_cons_succ, List.getElem_cons_zero])
          refine wpAnyH_ready (rs := [3]) (by kernel_rfl) (by simp) (AllReadyH.cons rfl (fun K hK => ?_) AllReadyH.nil)
          · go_simp
            go_wp2_with (first
              | (go_at_call 44; (with_reducible refine (implAs16_4 (b4 := b4) (o4 := o4) b' HB'.out _ _ ?_).mono ?_); (exact HG.out.g4.below (by repeat' (first | (with_reducible exact Below.refl _ _) | (with_reducible assumption) | (with_reducible refine Below.alloc ?_ ?_ _) | (with_reducible refine Below.drew ?_) | (with_reducible refine below_drewN ?_ _) | (with_reducible refine Below.setCell ?_ ?_ _) | (with_reducible refine below_setRow' ?_ ?_ _) | go_size)) (Nat.le_refl _)); rintro e wP ⟨rfl, hb1⟩; have hk1 := blk?_below hb1; (try simp only [size_drew', size_drewN'] at hk1); have hB1 := below_via (w := w) (by repeat' (first | (with_reducible exact Below.refl _ _) | (with_reducible assumption) | (with_reducible refine Below.alloc ?_ ?_ _) | (with_reducible refine Below.drew ?_) | (with_reducible refine below_drewN ?_ _) | (with_reducible refine Below.setCell ?_ ?_ _) | (with_reducible refine below_setRow' ?_ ?_ _) | go_size)) hb1; have hL0 : w.heap.size < wP.heap.size := (by have hS0 := hb1.size; (try simp at hS0); omega); have hL1 : w.heap.size + 1 < wP.heap.size := (by have hS0 := hb1.size; (try simp at hS0); omega); have hLe : w.heap.size ≤ wP.heap.size := hB1.size; have hS9 := hb1.size; (try simp [Nat.add_one_le_iff] at hS9); (try (have hS8 := Nat.lt_of_succ_lt hS9)); (try (have hT0 : w1.heap.size < wP.heap.size := (by have hS0 := hb1.size; (try simp at hS0); omega))); (try (have hT1 : w1.heap.size + 1 < wP.heap.size := (by have hS0 := hb1.size; (try simp at hS0); omega))); (try (have hT2 : wN.heap.size < wP.heap.size := (by have hS0 := hb1.size; (try simp at hS0); omega))); (try (have hT3 : wN.heap.size + 1 < wP.heap.size := (by have hS0 := hb1.size; (try simp at hS0); omega))); have hQ0a : w.heap.size < wP.heap.size + 1 := (by omega); have hQ0b : w.heap.size < wP.heap.size + 1 + 1 := (by omega); have hQ1a : w.heap.size + 1 < wP.heap.size + 1 := (by omega); have hQ1b : w.heap.size + 1 < wP.heap.size + 1 + 1 := (by omega); clear hb1))
            refine hK.out _ _ ?_ (fun hHeld4 => ?_)
            · ((try dsimp only); (refine ⟨?_, ?_⟩ <;> go_simp))
            clear hK K hHeld3
            (try simp only [Act.put, List.setIfInBounds_toArray, List.set_cons_zero, List.set_cons_succ, List.getElem_toArray, List.getElem_cons_succ, List.getElem_cons_zero])
            refine wpAnyH_ready (rs := [6]) (by kernel_rfl) (by simp) (AllReadyH.cons rfl (fun K hK => ?_) AllReadyH.nil)
            · go_simp
              refine hK.out _ _ ?_ (fun hHeld5 => ?_)
              · ((try dsimp only); (refine ⟨?_, ?_⟩ <;> go_simp))
              clear hK K hHeld4
              (try simp only [Act.put, List.setIfInBounds_toArray, List.set_cons_zero, List.set_cons_succ, List.getElem_toArray, List.getElem_cons_succ, List.getElem_cons_zero])
              refine wpAnyH_ready (rs := [7]) (by kernel_rfl) (by simp) (AllReadyH.cons rfl (fun K hK => ?_) AllReadyH.nil)
              · go_simp
                refine hK.out _ _ ?_ (fun hHeld6 => ?_)
                · ((try dsimp only); (refine ⟨?_, ?_⟩ <;> go_simp))
                clear hK K hHeld5
                (try simp only [Act.put, List.setIfInBounds_toArray, List.set_cons_zero, List.set_cons_succ, List.getElem_toArray, List.getElem_cons_succ, List.getElem_cons_zero])
                refine wpAnyH_done (by kernel_rfl) ?_ _
                go_wp2_with fail
                go_meet
                refine ⟨_, _, rfl, rfl, ?_, ?_, ?_, ?_, (by repeat' (first | (with_reducible exact Below.refl _ _) | (with_reducible assumption) | (with_reducible refine Below.alloc ?_ ?_ _) | (with_reducible refine Below.drew ?_) | (with_reducible refine below_drewN ?_ _) | (with_reducible refine Below.setCell ?_ ?_ _) | (with_reducible refine below_setRow' ?_ ?_ _) | go_size))⟩
                all_goals go_simp
      · go_simp
        refine hK.out _ _ ?_ (fun hHeld2 => ?_)
        · ((try dsimp only); (refine ⟨?_, ?_⟩ <;> go_simp))
        clear hK K hHeld1
        (try simp only [Act.put, List.setIfInBounds_toArray, List.set_cons_zero, List.set_cons_succ, List.getElem_toArray, List.getElem_cons_succ, List.getElem_cons_zero])
        refine wpAnyH_ready (rs := [1]) (by kernel_rfl) (by simp) (AllReadyH.cons rfl (fun K hK => ?_) AllReadyH.nil)
        · go_simp
          go_wp2_with (first
            | (go_at_call 44; (with_reducible refine (implAs16_4 (b4 := b4) (o4 := o4) b HB.out _ _ ?_).mono ?_); (exact HG.out.g4.below (by repeat' (first | (with_reducible exact Below.refl _ _) | (with_reducible assumption) | (with_reducible refine Below.alloc ?_ ?_ _) | (with_reducible refine Below.drew ?_) | (with_reducible refine below_drewN ?_ _) | (with_reducible refine Below.setCell ?_ ?_ _) | (with_reducible refine below_setRow' ?_ ?_ _) | go_size)) (Nat.le_refl _)); rintro e wN ⟨rfl, hb1⟩; have hk1 := blk?_below hb1; (try simp only [size_drew', size_drewN'] at hk1); have hB1 := below_via (w := w) (by repeat' (first | (with_reducible exact Below.refl _ _) | (with_reducible assumption) | (with_reducible refine Below.alloc ?_ ?_ _) | (with_reducible refine Below.drew ?_) | (with_reducible refine below_drewN ?_ _) | (with_reducible refine Below.setCell ?_ ?_ _) | (with_reducible refine below_setRow' ?_ ?_ _) | go_size)) hb1; have hL0 : w.heap.size < wN.heap.size := (by have hS0 := hb1.size; (try simp at hS0); omega); have hL1 : w.heap.size + 1 < wN.heap.size := (by have hS0 := hb1.size; (try simp at hS0); omega); have hLe : w.heap.size ≤ wN.heap.size := hB1.size; have hS9 := hb1.size; (try simp [Nat.add_one_le_iff] at hS9); (try (have hS8 := Nat.lt_of_succ_lt hS9)); have hQ0a : w.heap.size < wN.heap.size + 1 := (by omega); have hQ0b : w.heap.size < wN.heap.size + 1 + 1 := (by omega); have hQ1a : w.heap.size + 1 < wN.heap.size + 1 := (by omega); have hQ1b : w.heap.size + 1 < wN.heap.size + 1 + 1 := (by omega); clear hb1))
          refine hK.out _ _ ?_ (fun hHeld3 => ?_)
          · ((try dsimp only); (refine ⟨?_, ?_⟩ <;> go_simp))
          clear hK K hHeld2
          (try simp only [Act.put, List.setIfInBounds_toArray, List.set_cons_zero, List.set_cons_succ, List.getElem_toArray, List.getElem_cons_succ, List.getElem_cons_zero])
          refine wpAnyH_ready (rs := [3]) (by kernel_rfl) (by simp) (AllReadyH.cons rfl (fun K hK => ?_) AllReadyH.nil)
          · go_simp
            go_wp2_with (first
              | (go_at_call 44; (with_reducible refine (implAs16_4 (b4 := b4) (o4 := o4) b' HB'.out _ _ ?_).mono ?_); (exact HG.out.g4.below (by repeat' (first | (with_reducible exact Below.refl _ _) | (with_reducible assumption) | (with_reducible refine Below.alloc ?_ ?_ _) | (with_reducible refine Below.drew ?_) | (with_reducible refine below_drewN ?_ _) | (with_reducible refine Below.setCell ?_ ?_ _) | (with_reducible refine below_setRow' ?_ ?_ _) | go_size)) (Nat.le_refl _)); rintro e wP ⟨rfl, hb1⟩; have hk1 := blk?_below hb1; (try simp only [size_drew', size_drewN'] at hk1); have hB1 := below_via (w := w) (by repeat' (first | (with_reducible exact Below.refl _ _) | (with_reducible assumption) | (with_reducible refine Below.alloc ?_ ?_ _) | (with_reducible refine Below.drew ?_) | (with_reducible refine below_drewN ?_ _) | (with_reducible refine Below.setCell ?_ ?_ _) | (with_reducible refine below_setRow' ?_ ?_ _) | go_size)) hb1; have hL0 : w.heap.size < wP.heap.size := (by have hS0 := hb1.size; (try simp at hS0); omega); have hL1 : w.heap.size + 1 < wP.heap.size := (by have hS0 := hb1.size; (try simp at hS0); omega); have hLe : w.heap.size ≤ wP.heap.size := hB1.size; have hS9 := hb1.size; (try simp [Nat.add_one_le_iff] at hS9); (try (have hS8 := Nat.lt_of_succ_lt hS9)); (try (have hT0 : w1.heap.size < wP.heap.size := (by have hS0 := hb1.size; (try simp at hS0); omega))); (try (have hT1 : w1.heap.size + 1 < wP.heap.size := (by have hS0 := hb1.size; (try simp at hS0); omega))); (try (have hT2 : wN.heap.size < wP.heap.size := (by have hS0 := hb1.size; (try simp at hS0); omega))); (try (have hT3 : wN.heap.size + 1 < wP.heap.size := (by have hS0 := hb1.size; (try simp at hS0); omega))); have hQ0a : w.heap.size < wP.heap.size + 1 := (by omega); have hQ0b : w.heap.size < wP.heap.size + 1 + 1 := (by omega); have hQ1a : w.heap.size + 1 < wP.heap.size + 1 := (by omega); have hQ1b : w.heap.size + 1 < wP.heap.size + 1 + 1 := (by omega); clear hb1))
            refine hK.out _ _ ?_ (fun hHeld4 => ?_)
            · ((try dsimp only); (refine ⟨?_, ?_⟩ <;> go_simp))
            clear hK K hHeld3
            (try simp only [Act.put, List.setIfInBounds_toArray, List.set_cons_zero, List.set_cons_succ, List.getElem_toArray, List.getElem_cons_succ, List.getElem_cons_zero])
            refine wpAnyH_ready (rs := [6]) (by kernel_rfl) (by simp) (AllReadyH.cons rfl (fun K hK => ?_) AllReadyH.nil)
            · go_simp
              refine hK.out _ _ ?_ (fun hHeld5 => ?_)
              · ((try dsimp only); (refine ⟨?_, ?_⟩ <;> go_simp))
              clear hK K hHeld4
              (try simp only [Act.put, List.setIfInBounds_toArray, List.set_cons_zero, List.set_cons_succ, List.getElem_toArray, List.getElem_cons_succ, List.getElem_cons_zero])
              refine wpAnyH_ready (rs := [7]) (by kernel_rfl) (by simp) (AllReadyH.cons rfl (fun K hK => ?_) AllReadyH.nil)
              · go_simp
                refine hK.out _ _ ?_ (fun hHeld6 => ?_)
                · ((try dsimp only); (refine ⟨?_, ?_⟩ <;> go_simp))
                clear hK K hHeld5
                (try simp only [Act.put, List.setIfInBounds_toArray, List.set_cons_zero, List.set_cons_succ, List.getElem_toArray, List.getElem_cons_succ, List.getElem_cons_zero])
                refine wpAnyH_done (by kernel_rfl) ?_ _
                go_wp2_with fail
                go_meet
                refine ⟨_, _, rfl, rfl, ?_, ?_, ?_, ?_, (by repeat' (first | (with_reducible exact Below.refl _ _) | (with_reducible assumption) | (with_reducible refine Below.alloc ?_ ?_ _) | (with_reducible refine Below.drew ?_) | (with_reducible refine below_drewN ?_ _) | (with_reducible refine Below.setCell ?_ ?_ _) | (with_reducible refine below_setRow' ?_ ?_ _) | go_size))⟩
                all_goals go_simp
  case rest =>
    obtain ⟨g5, g6, rfl, rfl, k0, k1, k5, k6, hB⟩ := hcut
    have hl0 := blk?_lt k0
    have hl1 := blk?_lt k1
    have hl5 := blk?_lt k5
    have hl6 := blk?_lt k6
    go_wp2_with (first
      | (go_at_call 45; (with_reducible refine (iCompareV4 (b4 := b4) (o4 := o4) b b' HB.out HB'.out z z' v HV.out _ ?_).mono ?_); (exact HG.out.g4.below (by repeat' (first | (with_reducible exact Below.refl _ _) | (with_reducible assumption) | (with_reducible refine Below.alloc ?_ ?_ _) | (with_reducible refine Below.drew ?_) | (with_reducible refine below_drewN ?_ _) | (with_reducible refine Below.setCell ?_ ?_ _) | (with_reducible refine below_setRow' ?_ ?_ _) | go_size)) (Nat.le_refl _)); rintro e w1 ⟨rfl, hb1⟩; have hk1 := blk?_below hb1; (try simp only [size_drew', size_drewN'] at hk1); have hB1 := below_via (w := w) (by repeat' (first | (with_reducible exact Below.refl _ _) | (with_reducible assumption) | (with_reducible refine Below.alloc ?_ ?_ _) | (with_reducible refine Below.drew ?_) | (with_reducible refine below_drewN ?_ _) | (with_reducible refine Below.setCell ?_ ?_ _) | (with_reducible refine below_setRow' ?_ ?_ _) | go_size)) hb1; have hL0 : w.heap.size < w1.heap.size := (by have hS0 := hb1.size; (try simp at hS0); omega); have hL1 : w.heap.size + 1 < w1.heap.size := (by have hS0 := hb1.size; (try simp at hS0); omega); have hL2 : g5 < w1.heap.size := (by have hS0 := hb1.size; (try simp at hS0); omega); have hL3 : g6 < w1.heap.size := (by have hS0 := hb1.size; (try simp at hS0); omega); have hLe : w.heap.size ≤ w1.heap.size := hB1.size; clear hb1))
    refine wp_region_held_drew (S := fun w' => blk? w' (w.heap.size) = some (adr 4 b z) ∧ blk? w' (w.heap.size + 1) = some (adr 4 b' z') ∧ blk? w' (g5) = some (arr16 (b16of 0 (281470681743360 + be4f b 0))) ∧ blk? w' (g6) = some (arr16 (b16of 0 (281470681743360 + be4f b' 0)))) (by kernel_rfl) ?_ (fun hHeld0 => ?_)
    · ((try dsimp only); (refine ⟨?_, ?_, ?_, ?_⟩ <;> go_simp))
    refine wpAnyH_take (i := 0) (oi := _) (v := ?_) rfl (by kernel_rfl) (by kernel_rfl) (by kernel_rfl) (fun _ _ _ h => h) (Or.inl ⟨by rfl, ?_⟩) (by assumption) ?_
    rotate_left 1
    · (intro w hSw; (try dsimp only at hSw); (try simp only [List.getElem_toArray, List.getElem_cons_succ, List.getElem_cons_zero]); first | (go_simp; done) | (go_simp; with_reducible rfl))
    (try simp only [Act.put, List.setIfInBounds_toArray, List.set_cons_zero, List.set_cons_succ, List.getElem_toArray, List.getElem_cons_succ, List.getElem_cons_zero])
    refine wpAnyH_take (i := 1) (oi := _) (v := ?_) rfl (by kernel_rfl) (by kernel_rfl) (by kernel_rfl) (fun _ _ _ h => h) (Or.inl ⟨by rfl, ?_⟩) (by assumption) ?_
    rotate_left 1
    · (intro w hSw; (try dsimp only at hSw); (try simp only [List.getElem_toArray, List.getElem_cons_succ, List.getElem_cons_zero]); first | (go_simp; done) | (go_simp; with_reducible rfl))
    (try simp only [Act.put, List.setIfInBounds_toArray, List.set_cons_zero, List.set_cons_succ, List.getElem_toArray, List.getElem_cons_succ, List.getElem_cons_zero])
    refine wpAnyH_take (i := 2) (oi := _) (v := ?_) rfl (by kernel_rfl) (by kernel_rfl) (by kernel_rfl) (fun _ _ _ h => h) (Or.inl ⟨by rfl, ?_⟩) (by assumption) ?_
    rotate_left 1
    · (intro w hSw; (try dsimp only at hSw); (try simp only [List.getElem_toArray, List.getElem_cons_succ, List.getElem_cons_zero]); first | (go_simp; done) | (go_simp; with_reducible rfl))
    (try simp only [Act.put, List.setIfInBounds_toArray, List.set_cons_zero, List.set_cons_succ, List.getElem_toArray, List.getElem_cons_succ, List.getElem_cons_zero])
    refine wpAnyH_ready (rs := [3]) (by kernel_rfl) (by simp) (AllReadyH.cons rfl (fun K hK => ?_) AllReadyH.nil)
    go_simp
    go_wp2_with (first
      | (go_at_call 46; (with_reducible refine (bcmp (b16of 0 (281470681743360 + be4f b 0)) (b16of 0 (281470681743360 + be4f b' 0)) HX.out HY.out g5 g6 16 _ _ v HV16.out _ (rowc16 ?_) (rowc16 ?_)).mono ?_); (go_simp); (go_simp); rintro e w1 ⟨rfl, hb1⟩; have hk1 := blk?_below hb1; (try simp only [size_drew', size_drewN'] at hk1); have hB1 := below_via (w := w) (by repeat' (first | (with_reducible exact Below.refl _ _) | (with_reducible assumption) | (with_reducible refine Below.alloc ?_ ?_ _) | (with_reducible refine Below.drew ?_) | (with_reducible refine below_drewN ?_ _) | (with_reducible refine Below.setCell ?_ ?_ _) | (with_reducible refine below_setRow' ?_ ?_ _) | go_size)) hb1; have hL0 : w.heap.size < w1.heap.size := (by have hS0 := hb1.size; (try simp at hS0); omega); have hL1 : w.heap.size + 1 < w1.heap.size := (by have hS0 := hb1.size; (try simp at hS0); omega); have hL2 : g5 < w1.heap.size := (by have hS0 := hb1.size; (try simp at hS0); omega); have hL3 : g6 < w1.heap.size := (by have hS0 := hb1.size; (try simp at hS0); omega); have hLe : w.heap.size ≤ w1.heap.size := hB1.size; clear hb1))
    refine hK.out _ _ ?_ (fun hHeld1 => ?_)
    · ((try dsimp only); (refine ⟨?_, ?_, ?_, ?_⟩ <;> go_simp))
    clear hK K hHeld0
    (try simp only [Act.put, List.setIfInBounds_toArray, List.set_cons_zero, List.set_cons_succ, List.getElem_toArray, List.getElem_cons_succ, List.getElem_cons_zero])
    refine wpAnyH_take (i := 4) (oi := _) (v := ?_) rfl (by kernel_rfl) (by kernel_rfl) (by kernel_rfl) (fun _ _ _ h => h) (Or.inl ⟨by rfl, ?_⟩) (by assumption) ?_
    rotate_left 1
    · (intro w hSw; (try dsimp only at hSw); (try simp only [List.getElem_toArray, List.getElem_cons_succ, List.getElem_cons_zero]); first | (go_simp; done) | (go_simp; with_reducible rfl))
    (try simp only [Act.put, List.setIfInBounds_toArray, List.set_cons_zero, List.set_cons_succ, List.getElem_toArray, List.getElem_cons_succ, List.getElem_cons_zero])
    refine wpAnyH_take (i := 5) (oi := _) (v := ?_) rfl (by kernel_rfl) (by kernel_rfl) (by kernel_rfl) (fun _ _ _ h => h) (Or.inl ⟨by rfl, ?_⟩) (by assumption) ?_
    rotate_left 1
    · (intro w hSw; (try dsimp only at hSw); (try simp only [List.getElem_toArray, List.getElem_cons_succ, List.getElem_cons_zero]); first | (go_simp; done) | (go_simp; with_reducible rfl))
    (try simp only [Act.put, List.setIfInBounds_toArray, List.set_cons_zero, List.set_cons_succ, List.getElem_toArray, List.getElem_cons_succ, List.getElem_cons_zero])
    refine wpAnyH_take (i := 6) (oi := _) (v := ?_) rfl (by kernel_rfl) (by kernel_rfl) (by kernel_rfl) (fun _ _ _ h => h) (Or.inl ⟨by rfl, ?_⟩) (by assumption) ?_
    rotate_left 1
    · (intro w hSw; (try dsimp only at hSw); (try simp only [List.getElem_toArray, List.getElem_cons_succ, List.getElem_cons_zero]); first | (go_simp; done) | (go_simp; with_reducible rfl))
    (try simp only [Act.put, List.setIfInBounds_toArray, List.set_cons_zero, List.set_cons_succ, List.getElem_toArray, List.getElem_cons_succ, List.getElem_cons_zero])
    refine wpAnyH_take (i := 7) (oi := _) (v := ?_) rfl (by kernel_rfl) (by kernel_rfl) (by kernel_rfl) (fun _ _ _ h => h) (Or.inl ⟨by rfl, ?_⟩) (by assumption) ?_
    rotate_left 1
    · (intro w hSw; (try dsimp only at hSw); (try simp only [List.getElem_toArray, List.getElem_cons_succ, List.getElem_cons_zero]); first | (go_simp; done) | (go_simp; with_reducible rfl))
    (try simp only [Act.put, List.setIfInBounds_toArray, List.set_cons_zero, List.set_cons_succ, List.getElem_toArray, List.getElem_cons_succ, List.getElem_cons_zero])
    refine wpAnyH_take (i := 9) (oi := _) (v := ?_) rfl (by kernel_rfl) (by kernel_rfl) (by kernel_rfl) (fun _ _ _ h => h) (Or.inl ⟨by rfl, ?_⟩) (by assumption) ?_
    rotate_left 1
    · (intro w hSw; (try dsimp only at hSw); (try simp only [List.getElem_toArray, List.getElem_cons_succ, List.getElem_cons_zero]); first | (go_simp; done) | (go_simp; with_reducible rfl))
    (try simp only [Act.put, List.setIfInBounds_toArray, List.set_cons_zero, List.set_cons_succ, List.getElem_toArray, List.getElem_cons_succ, List.getElem_cons_zero])
    refine wpAnyH_ready (rs := [8]) (by kernel_rfl) (by simp) (AllReadyH.cons rfl (fun K hK => ?_) AllReadyH.nil)
    go_simp
    go_wp2_with (first
      | (go_at_call 35; (with_reducible refine (implAsSlice_4 (b4 := b4) (o4 := o4) b HB.out _ _ ?_).mono ?_); (exact HG.out.g4.below (by repeat' (first | (with_reducible exact Below.refl _ _) | (with_reducible assumption) | (with_reducible refine Below.alloc ?_ ?_ _) | (with_reducible refine Below.drew ?_) | (with_reducible refine below_drewN ?_ _) | (with_reducible refine Below.setCell ?_ ?_ _) | (with_reducible refine below_setRow' ?_ ?_ _) | go_size)) (Nat.le_refl _)); rintro e wA ⟨ga, hga, rfl, kga, hb1⟩; have hk1 := blk?_below hb1; (try simp only [size_drew', size_drewN'] at hk1); have hB1 := below_via (w := w) (by repeat' (first | (with_reducible exact Below.refl _ _) | (with_reducible assumption) | (with_reducible refine Below.alloc ?_ ?_ _) | (with_reducible refine Below.drew ?_) | (with_reducible refine below_drewN ?_ _) | (with_reducible refine Below.setCell ?_ ?_ _) | (with_reducible refine below_setRow' ?_ ?_ _) | go_size)) hb1; have hL0 : w.heap.size < wA.heap.size := (by have hS0 := hb1.size; (try simp at hS0); omega); have hL1 : w.heap.size + 1 < wA.heap.size := (by have hS0 := hb1.size; (try simp at hS0); omega); have hL2 : g5 < wA.heap.size := (by have hS0 := hb1.size; (try simp at hS0); omega); have hL3 : g6 < wA.heap.size := (by have hS0 := hb1.size; (try simp at hS0); omega); have hLe : w.heap.size ≤ wA.heap.size := hB1.size; have hlga := blk?_lt kga; clear hb1))
    refine hK.out _ _ ?_ (fun hHeld2 => ?_)
    · ((try dsimp only); (refine ⟨?_, ?_, ?_, ?_⟩ <;> go_simp))
    clear hK K hHeld1
    (try simp only [Act.put, List.setIfInBounds_toArray, List.set_cons_zero, List.set_cons_succ, List.getElem_toArray, List.getElem_cons_succ, List.getElem_cons_zero])
    refine wpAnyH_ready (rs := [10]) (by kernel_rfl) (by simp) (AllReadyH.cons rfl (fun K hK => ?_) AllReadyH.nil)
    go_simp
    go_wp2_with (first
      | (go_at_call 35; (with_reducible refine (implAsSlice_4 (b4 := b4) (o4 := o4) b' HB'.out _ _ ?_).mono ?_); (exact HG.out.g4.below (by repeat' (first | (with_reducible exact Below.refl _ _) | (with_reducible assumption) | (with_reducible refine Below.alloc ?_ ?_ _) | (with_reducible refine Below.drew ?_) | (with_reducible refine below_drewN ?_ _) | (with_reducible refine Below.setCell ?_ ?_ _) | (with_reducible refine below_setRow' ?_ ?_ _) | go_size)) (Nat.le_refl _)); rintro e wB ⟨gb, hgb, rfl, kgb, hb1⟩; have hk1 := blk?_below hb1; (try simp only [size_drew', size_drewN'] at hk1); have hB1 := below_via (w := w) (by repeat' (first | (with_reducible exact Below.refl _ _) | (with_reducible assumption) | (with_reducible refine Below.alloc ?_ ?_ _) | (with_reducible refine Below.drew ?_) | (with_reducible refine below_drewN ?_ _) | (with_reducible refine Below.setCell ?_ ?_ _) | (with_reducible refine below_setRow' ?_ ?_ _) | go_size)) hb1; have hL0 : w.heap.size < wB.heap.size := (by have hS0 := hb1.size; (try simp at hS0); omega); have hL1 : w.heap.size + 1 < wB.heap.size := (by have hS0 := hb1.size; (try simp at hS0); omega); have hL2 : g5 < wB.heap.size := (by have hS0 := hb1.size; (try simp at hS0); omega); have hL3 : g6 < wB.heap.size := (by have hS0 := hb1.size; (try simp at hS0); omega); have hL4 : ga < wB.heap.size := (by have hS0 := hb1.size; (try simp at hS0); omega); have hLe : w.heap.size ≤ wB.heap.size := hB1.size; have hlgb := blk?_lt kgb; clear hb1))
    refine hK.out _ _ ?_ (fun hHeld3 => ?_)
    · ((try dsimp only); (refine ⟨?_, ?_, ?_, ?_⟩ <;> go_simp))
    clear hK K hHeld2
    (try simp only [Act.put, List.setIfInBounds_toArray, List.set_cons_zero, List.set_cons_succ, List.getElem_toArray, List.getElem_cons_succ, List.getElem_cons_zero])
    refine wpAnyH_ready (rs := [11]) (by kernel_rfl) (by simp) (AllReadyH.cons rfl (fun K hK => ?_) AllReadyH.nil)
    go_simp
    go_wp2_with (first
      | (go_at_call 46; (with_reducible refine (bcmp b b' HB.out HB'.out ga gb 4 _ _ v HVn.out _ (rowc4 ?_) (rowc4 ?_)).mono ?_); (go_simp); (go_simp); rintro e w1 ⟨rfl, hb1⟩; have hk1 := blk?_below hb1; (try simp only [size_drew', size_drewN'] at hk1); have hB1 := below_via (w := w) (by repeat' (first | (with_reducible exact Below.refl _ _) | (with_reducible assumption) | (with_reducible refine Below.alloc ?_ ?_ _) | (with_reducible refine Below.drew ?_) | (with_reducible refine below_drewN ?_ _) | (with_reducible refine Below.setCell ?_ ?_ _) | (with_reducible refine below_setRow' ?_ ?_ _) | go_size)) hb1; have hL0 : w.heap.size < w1.heap.size := (by have hS0 := hb1.size; (try simp at hS0); omega); have hL1 : w.heap.size + 1 < w1.heap.size := (by have hS0 := hb1.size; (try simp at hS0); omega); have hL2 : g5 < w1.heap.size := (by have hS0 := hb1.size; (try simp at hS0); omega); have hL3 : g6 < w1.heap.size := (by have hS0 := hb1.size; (try simp at hS0); omega); have hL4 : ga < w1.heap.size := (by have hS0 := hb1.size; (try simp at hS0); omega); have hL5 : gb < w1.heap.size := (by have hS0 := hb1.size; (try simp at hS0); omega); have hLe : w.heap.size ≤ w1.heap.size := hB1.size; clear hb1))
    refine hK.out _ _ ?_ (fun hHeld4 => ?_)
    · ((try dsimp only); (refine ⟨?_, ?_, ?_, ?_⟩ <;> go_simp))
    clear hK K hHeld3
    (try simp only [Act.put, List.setIfInBounds_toArray, List.set_cons_zero, List.set_cons_succ, List.getElem_toArray, List.getElem_cons_succ, List.getElem_cons_zero])
    refine wpAnyH_take (i := 12) (oi := _) (v := ?_) rfl (by kernel_rfl) (by kernel_rfl) (by kernel_rfl) (fun _ _ _ h => h) (Or.inl ⟨by rfl, ?_⟩) (by assumption) ?_
    rotate_left 1
    · (intro w hSw; (try dsimp only at hSw); (try simp only [List.getElem_toArray, List.getElem_cons_succ, List.getElem_cons_zero]); first | (go_simp; done) | (go_simp; with_reducible rfl))
    (try simp only [Act.put, List.setIfInBounds_toArray, List.set_cons_zero, List.set_cons_succ, List.getElem_toArray, List.getElem_cons_succ, List.getElem_cons_zero])
    refine wpAnyH_take (i := 13) (oi := _) (v := ?_) rfl (by kernel_rfl) (by kernel_rfl) (by kernel_rfl) (fun _ _ _ h => h) (Or.inl ⟨by rfl, ?_⟩) (by assumption) ?_
    rotate_left 1
    · (intro w hSw; (try dsimp only at hSw); (try simp only [List.getElem_toArray, List.getElem_cons_succ, List.getElem_cons_zero]); first | (go_simp; done) | (go_simp; with_reducible rfl))
    (try simp only [Act.put, List.setIfInBounds_toArray, List.set_cons_zero, List.set_cons_succ, List.getElem_toArray, List.getElem_cons_succ, List.getElem_cons_zero])
    refine wpAnyH_take (i := 14) (oi := _) (v := ?_) rfl (by kernel_rfl) (by kernel_rfl) (by kernel_rfl) (fun _ _ _ h => h) (Or.inl ⟨by rfl, ?_⟩) (by assumption) ?_
    rotate_left 1
    · (intro w hSw; (try dsimp only at hSw); (try simp only [List.getElem_toArray, List.getElem_cons_succ, List.getElem_cons_zero]); first | (go_simp; done) | (go_simp; with_reducible rfl))
    (try simp only [Act.put, List.setIfInBounds_toArray, List.set_cons_zero, List.set_cons_succ, List.getElem_toArray, List.getElem_cons_succ, List.getElem_cons_zero])
    refine wpAnyH_take (i := 15) (oi := _) (v := ?_) rfl (by kernel_rfl) (by kernel_rfl) (by kernel_rfl) (fun _ _ _ h => h) (Or.inl ⟨by rfl, ?_⟩) (by assumption) ?_
    rotate_left 1
    · (intro w hSw; (try dsimp only at hSw); (try simp only [List.getElem_toArray, List.getElem_cons_succ, List.getElem_cons_zero]); first | (go_simp; done) | (go_simp; with_reducible rfl))
    (try simp only [Act.put, List.setIfInBounds_toArray, List.set_cons_zero, List.set_cons_succ, List.getElem_toArray, List.getElem_cons_succ, List.getElem_cons_zero])
    refine wpAnyH_take (i := 18) (oi := _) (v := ?_) rfl (by kernel_rfl) (by kernel_rfl) (by kernel_rfl) (fun _ _ _ h => h) (Or.inl ⟨by rfl, ?_⟩) (by assumption) ?_
    rotate_left 1
    · (intro w hSw; (try dsimp only at hSw); (try simp only [List.getElem_toArray, List.getElem_cons_succ, List.getElem_cons_zero]); first | (go_simp; done) | (go_simp; with_reducible rfl))
    (try simp only [Act.put, List.setIfInBounds_toArray, List.set_cons_zero, List.set_cons_succ, List.getElem_toArray, List.getElem_cons_succ, List.getElem_cons_zero])
    refine wpAnyH_ready (rs := [16]) (by kernel_rfl) (by simp) (AllReadyH.cons rfl (fun K hK => ?_) AllReadyH.nil)
    go_simp
    go_wp2_with (first
      | (go_at_call 35; (with_reducible refine (implAsSlice_4 (b4 := b4) (o4 := o4) b HB.out _ _ ?_).mono ?_); (exact HG.out.g4.below (by repeat' (first | (with_reducible exact Below.refl _ _) | (with_reducible assumption) | (with_reducible refine Below.alloc ?_ ?_ _) | (with_reducible refine Below.drew ?_) | (with_reducible refine below_drewN ?_ _) | (with_reducible refine Below.setCell ?_ ?_ _) | (with_reducible refine below_setRow' ?_ ?_ _) | go_size)) (Nat.le_refl _)); rintro e wD ⟨gc, hgc, rfl, kgc, hb1⟩; have hk1 := blk?_below hb1; (try simp only [size_drew', size_drewN'] at hk1); have hB1 := below_via (w := w) (by repeat' (first | (with_reducible exact Below.refl _ _) | (with_reducible assumption) | (with_reducible refine Below.alloc ?_ ?_ _) | (with_reducible refine Below.drew ?_) | (with_reducible refine below_drewN ?_ _) | (with_reducible refine Below.setCell ?_ ?_ _) | (with_reducible refine below_setRow' ?_ ?_ _) | go_size)) hb1; have hL0 : w.heap.size < wD.heap.size := (by have hS0 := hb1.size; (try simp at hS0); omega); have hL1 : w.heap.size + 1 < wD.heap.size := (by have hS0 := hb1.size; (try simp at hS0); omega); have hL2 : g5 < wD.heap.size := (by have hS0 := hb1.size; (try simp at hS0); omega); have hL3 : g6 < wD.heap.size := (by have hS0 := hb1.size; (try simp at hS0); omega); have hLe : w.heap.size ≤ wD.heap.size := hB1.size; have hlgc := blk?_lt kgc; clear hb1))
    refine hK.out _ _ ?_ (fun hHeld5 => ?_)
    · ((try dsimp only); (refine ⟨?_, ?_, ?_, ?_⟩ <;> go_simp))
    clear hK K hHeld4
    (try simp only [Act.put, List.setIfInBounds_toArray, List.set_cons_zero, List.set_cons_succ, List.getElem_toArray, List.getElem_cons_succ, List.getElem_cons_zero])
    refine wpAnyH_take (i := 17) (oi := _) (v := ?_) rfl (by kernel_rfl) (by kernel_rfl) (by kernel_rfl) (fun _ _ _ h => h) (Or.inl ⟨by rfl, ?_⟩) (by assumption) ?_
    rotate_left 1
    · (intro w hSw; (try dsimp only at hSw); (try simp only [List.getElem_toArray, List.getElem_cons_succ, List.getElem_cons_zero]); first | (go_simp; done) | (go_simp; with_reducible rfl))
    (try simp only [Act.put, List.setIfInBounds_toArray, List.set_cons_zero, List.set_cons_succ, List.getElem_toArray, List.getElem_cons_succ, List.getElem_cons_zero])
    refine wpAnyH_ready (rs := [19]) (by kernel_rfl) (by simp) (AllReadyH.cons rfl (fun K hK => ?_) AllReadyH.nil)
    go_simp
    go_wp2_with (first
      | (go_at_call 47; (with_reducible refine (lsame_4 _ _ _).mono ?_); rintro e w1 ⟨rfl, hb1⟩; have hk1 := blk?_below hb1; (try simp only [size_drew', size_drewN'] at hk1); have hB1 := below_via (w := w) (by repeat' (first | (with_reducible exact Below.refl _ _) | (with_reducible assumption) | (with_reducible refine Below.alloc ?_ ?_ _) | (with_reducible refine Below.drew ?_) | (with_reducible refine below_drewN ?_ _) | (with_reducible refine Below.setCell ?_ ?_ _) | (with_reducible refine below_setRow' ?_ ?_ _) | go_size)) hb1; have hL0 : w.heap.size < w1.heap.size := (by have hS0 := hb1.size; (try simp at hS0); omega); have hL1 : w.heap.size + 1 < w1.heap.size := (by have hS0 := hb1.size; (try simp at hS0); omega); have hL2 : g5 < w1.heap.size := (by have hS0 := hb1.size; (try simp at hS0); omega); have hL3 : g6 < w1.heap.size := (by have hS0 := hb1.size; (try simp at hS0); omega); have hLe : w.heap.size ≤ w1.heap.size := hB1.size; clear hb1))
    refine hK.out _ _ ?_ (fun hHeld6 => ?_)
    · ((try dsimp only); (refine ⟨?_, ?_, ?_, ?_⟩ <;> go_simp))
    clear hK K hHeld5
    (try simp only [Act.put, List.setIfInBounds_toArray, List.set_cons_zero, List.set_cons_succ, List.getElem_toArray, List.getElem_cons_succ, List.getElem_cons_zero])
    refine wpAnyH_take (i := 20) (oi := _) (v := ?_) rfl (by kernel_rfl) (by kernel_rfl) (by kernel_rfl) (fun _ _ _ h => h) (Or.inl ⟨by rfl, ?_⟩) (by assumption) ?_
    rotate_left 1
    · (intro w hSw; (try dsimp only at hSw); (try simp only [List.getElem_toArray, List.getElem_cons_succ, List.getElem_cons_zero]); first | (go_simp; done) | (go_simp; with_reducible rfl))
    (try simp only [Act.put, List.setIfInBounds_toArray, List.set_cons_zero, List.set_cons_succ, List.getElem_toArray, List.getElem_cons_succ, List.getElem_cons_zero])
    refine wpAnyH_take (i := 21) (oi := _) (v := ?_) rfl (by kernel_rfl) (by kernel_rfl) (by kernel_rfl) (fun _ _ _ h => h) (Or.inl ⟨by rfl, ?_⟩) (by assumption) ?_
    rotate_left 1
    · (intro w hSw; (try dsimp only at hSw); (try simp only [List.getElem_toArray, List.getElem_cons_succ, List.getElem_cons_zero]); first | (go_simp; done) | (go_simp; with_reducible rfl))
    (try simp only [Act.put, List.setIfInBounds_toArray, List.set_cons_zero, List.set_cons_succ, List.getElem_toArray, List.getElem_cons_succ, List.getElem_cons_zero])
    refine wpAnyH_take (i := 22) (oi := _) (v := ?_) rfl (by kernel_rfl) (by kernel_rfl) (by kernel_rfl) (fun _ _ _ h => h) (Or.inl ⟨by rfl, ?_⟩) (by assumption) ?_
    rotate_left 1
    · (intro w hSw; (try dsimp only at hSw); (try simp only [List.getElem_toArray, List.getElem_cons_succ, List.getElem_cons_zero]); first | (go_simp; done) | (go_simp; with_reducible rfl))
    (try simp only [Act.put, List.setIfInBounds_toArray, List.set_cons_zero, List.set_cons_succ, List.getElem_toArray, List.getElem_cons_succ, List.getElem_cons_zero])
    refine wpAnyH_take (i := 23) (oi := _) (v := ?_) rfl (by kernel_rfl) (by kernel_rfl) (by kernel_rfl) (fun _ _ _ h => h) (Or.inl ⟨by rfl, ?_⟩) (by assumption) ?_
    rotate_left 1
    · (intro w hSw; (try dsimp only at hSw); (try simp only [List.getElem_toArray, List.getElem_cons_succ, List.getElem_cons_zero]); first | (go_simp; done) | (go_simp; with_reducible rfl))
    (try simp only [Act.put, List.setIfInBounds_toArray, List.set_cons_zero, List.set_cons_succ, List.getElem_toArray, List.getElem_cons_succ, List.getElem_cons_zero])
    refine wpAnyH_done (by kernel_rfl) ?_ _
    go_wp2
    go_ret
    exact ⟨rfl, (by repeat' (first | (with_reducible exact Below.refl _ _) | (with_reducible assumption) | (with_reducible refine Below.alloc ?_ ?_ _) | (with_reducible refine Below.drew ?_) | (with_reducible refine below_drewN ?_ _) | (with_reducible refine Below.setCell ?_ ?_ _) | (with_reducible refine below_setRow' ?_ ?_ _) | go_size))⟩
theorem iCompareV16 (b b' : Nat → Int) (hb : Bt b) (hb' : Bt b') (v : Int) (hv : cmpI (v16 b) (v16 b') = v) {b4 o4 b6 o6 : Nat} (w : World) (hg : Gl b4 o4 b6 o6 w) : Calls Tryd.prog 45 #[.agg (adr 16 b ⟨#[]⟩), .agg (adr 16 b' ⟨#[]⟩)] w fun e w' => e = .returned (.int .i64 v) ∧ Below w.heap.size w w' := by
  rw [← hv]; exact iCompare_16 b b' hb hb' w hg
set_option maxHeartbeats 4000000 in
set_option maxRecDepth 100000 in
theorem law10_16 (b b' : Nat → Int) (hb : Bt b) (hb' : Bt b') (v : Int) (hv : cmpI (v16 b) (v16 b') = v) (hv16 : cmpI (valF (b16of (be8f b 0) (be8f b 8)) 0 16) (valF (b16of (be8f b' 0) (be8f b' 8)) 0 16) = v) (hvn : cmpI (valF b 0 16) (valF b' 0 16) = v) (hx : Bt (b16of (be8f b 0) (be8f b 8))) (hy : Bt (b16of (be8f b' 0) (be8f b' 8))) {b4 o4 b6 o6 : Nat} (w : World) (hg : Gl b4 o4 b6 o6 w) :
    Calls Tryd.prog 10 #[.agg (adr 16 b ⟨#[]⟩), .agg (adr 16 b' ⟨#[]⟩)] w fun e w' => e = .returned (.bool true) ∧ Below w.heap.size w w' := by
  have HG := Lib.hid hg
  have HB := Lib.hid hb
  have HB' := Lib.hid hb'
  have HV := Lib.hid hv
  have HV16 := Lib.hid hv16
  have HVn := Lib.hid hvn
  have HX := Lib.hid hx
  have HY := Lib.hid hy
  clear hg hb hb' hv hv16 hvn hx hy
  go_enter Tryd.func10, Tryd.ntmps10
  go_upto_region 3 with (first
    | (go_at_call 43; (with_reducible refine (alike_16 _ _ _).mono ?_); rintro e w1 ⟨rfl, hb1⟩; have hk1 := blk?_below hb1; (try simp only [size_drew', size_drewN'] at hk1); have hB1 := below_via (w := w) (by repeat' (first | (with_reducible exact Below.refl _ _) | (with_reducible assumption) | (with_reducible refine Below.alloc ?_ ?_ _) | (with_reducible refine Below.drew ?_) | (with_reducible refine below_drewN ?_ _) | (with_reducible refine Below.setCell ?_ ?_ _) | (with_reducible refine below_setRow' ?_ ?_ _) | go_size)) hb1; have hL0 : w.heap.size < w1.heap.size := (by have hS0 := hb1.size; (try simp at hS0); omega); have hL1 : w.heap.size + 1 < w1.heap.size := (by have hS0 := hb1.size; (try simp at hS0); omega); have hLe : w.heap.size ≤ w1.heap.size := hB1.size; clear hb1))
  have k0 : blk? w1 w.heap.size = some (adr 16 b ⟨#[]⟩) := by go_simp
  have k1 : blk? w1 (w.heap.size + 1) = some (adr 16 b' ⟨#[]⟩) := by go_simp
  clear hk1
  have hQ0a : w.heap.size < w1.heap.size + 1 := by omega
  have hQ0b : w.heap.size < w1.heap.size + 1 + 1 := by omega
  have hQ1a : w.heap.size + 1 < w1.heap.size + 1 := by omega
  have hQ1b : w.heap.size + 1 < w1.heap.size + 1 + 1 := by omega
  go_cut [5, 6] (fun s5 s6 wx => ∃ g5 g6 : Nat, s5 = .pointer (some ⟨g5, 0, none⟩) ∧ s6 = .pointer (some ⟨g6, 0, none⟩) ∧ blk? wx w.heap.size = some (adr 16 b ⟨#[]⟩) ∧ blk? wx (w.heap.size + 1) = some (adr 16 b' ⟨#[]⟩) ∧ blk? wx g5 = some (arr16 (b16of (be8f b 0) (be8f b 8))) ∧ blk? wx g6 = some (arr16 (b16of (be8f b' 0) (be8f b' 8))) ∧ Below w.heap.size w wx)
  case first =>
    refine wp_region_held_drew (S := fun w' => blk? w' (w.heap.size) = some (adr 16 b ⟨#[]⟩) ∧ blk? w' (w.heap.size + 1) = some (adr 16 b' ⟨#[]⟩)) (by kernel_rfl) ?_ (fun hHeld0 => ?_)
    · ((try dsimp only); (refine ⟨?_, ?_⟩ <;> go_simp))
    refine wpAnyH_take (i := 0) (oi := _) (v := ?_) rfl (by kernel_rfl) (by kernel_rfl) (by kernel_rfl) (fun _ _ _ h => h) (Or.inl ⟨by rfl, ?_⟩) (by assumption) ?_
    rotate_left 1
    · (intro w hSw; (try dsimp only at hSw); (try simp only [List.getElem_toArray, List.getElem_cons_succ, List.getElem_cons_zero]); first | (go_simp; done) | (go_simp; with_reducible rfl))
    (try simp only [Act.put, List.setIfInBounds_toArray, List.set_cons_zero, List.set_cons_succ, List.getElem_toArray, List.getElem_cons_succ, List.getElem_cons_zero])
    refine wpAnyH_take (i := 2) (oi := _) (v := ?_) rfl (by kernel_rfl) (by kernel_rfl) (by kernel_rfl) (fun _ _ _ h => h) (Or.inl ⟨by rfl, ?_⟩) (by assumption) ?_
    rotate_left 1
    · (intro w hSw; (try dsimp only at hSw); (try simp only [List.getElem_toArray, List.getElem_cons_succ, List.getElem_cons_zero]); first | (go_simp; done) | (go_simp; with_reducible rfl))
    (try simp only [Act.put, List.setIfInBounds_toArray, List.set_cons_zero, List.set_cons_succ, List.getElem_toArray, List.getElem_cons_succ, List.getElem_cons_zero])
    refine wpAnyH_ready (rs := [1, 4, 5]) (by kernel_rfl) (by simp) (AllReadyH.cons rfl (fun K hK => ?_) (AllReadyH.cons rfl (fun K hK => ?_) (AllReadyH.cons rfl (fun K hK => ?_) AllReadyH.nil)))
    · go_simp
      go_wp2_with (first
        | (go_at_call 44; (with_reducible refine (implAs16_16 (b4 := b4) (o4 := o4) (b6 := b6) (o6 := o6) b HB.out _ ?_).mono ?_); (exact HG.out.below (by repeat' (first | (with_reducible exact Below.refl _ _) | (with_reducible assumption) | (with_reducible refine Below.alloc ?_ ?_ _) | (with_reducible refine Below.drew ?_) | (with_reducible refine below_drewN ?_ _) | (with_reducible refine Below.setCell ?_ ?_ _) | (with_reducible refine below_setRow' ?_ ?_ _) | go_size)) (Nat.le_refl _)); rintro e wN ⟨rfl, hb1⟩; have hk1 := blk?_below hb1; (try simp only [size_drew', size_drewN'] at hk1); have hB1 := below_via (w := w) (by repeat' (first | (with_reducible exact Below.refl _ _) | (with_reducible assumption) | (with_reducible refine Below.alloc ?_ ?_ _) | (with_reducible refine Below.drew ?_) | (with_reducible refine below_drewN ?_ _) | (with_reducible refine Below.setCell ?_ ?_ _) | (with_reducible refine below_setRow' ?_ ?_ _) | go_size)) hb1; have hL0 : w.heap.size < wN.heap.size := (by have hS0 := hb1.size; (try simp at hS0); omega); have hL1 : w.heap.size + 1 < wN.heap.size := (by have hS0 := hb1.size; (try simp at hS0); omega); have hLe : w.heap.size ≤ wN.heap.size := hB1.size; have hS9 := hb1.size; (try simp [Nat.add_one_le_iff] at hS9); (try (have hS8 := Nat.lt_of_succ_lt hS9)); have hQ0a : w.heap.size < wN.heap.size + 1 := (by omega); have hQ0b : w.heap.size < wN.heap.size + 1 + 1 := (by omega); have hQ1a : w.heap.size + 1 < wN.heap.size + 1 := (by omega); have hQ1b : w.heap.size + 1 < wN.heap.size + 1 + 1 := (by omega); clear hb1))
      refine hK.out _ _ ?_ (fun hHeld1 => ?_)
      · ((try dsimp only); (refine ⟨?_, ?_⟩ <;> go_simp))
      clear hK K hHeld0
      (try simp only [Act.put, List.setIfInBounds_toArray, List.set_cons_zero, List.set_cons_succ, List.getElem_toArray, List.getElem_cons_succ, List.getElem_cons_zero])
      refine wpAnyH_ready (rs := [3, 4, 5]) (by kernel_rfl) (by simp) (AllReadyH.cons rfl (fun K hK => ?_) (AllReadyH.cons rfl (fun K hK => ?_) (AllReadyH.cons rfl (fun K hK => ?_) AllReadyH.nil)))
      · go_simp
        go_wp2_with (first
          | (go_at_call 44; (with_reducible refine (implAs16_16 (b4 := b4) (o4 := o4) (b6 := b6) (o6 := o6) b' HB'.out _ ?_).mono ?_); (exact HG.out.below (by repeat' (first | (with_reducible exact Below.refl _ _) | (with_reducible assumption) | (with_reducible refine Below.alloc ?_ ?_ _) | (with_reducible refine Below.drew ?_) | (with_reducible refine below_drewN ?_ _) | (with_reducible refine Below.setCell ?_ ?_ _) | (with_reducible refine below_setRow' ?_ ?_ _) | go_size)) (Nat.le_refl _)); rintro e wP ⟨rfl, hb1⟩; have hk1 := blk?_below hb1; (try simp only [size_drew', size_drewN'] at hk1); have hB1 := below_via (w := w) (by repeat' (first | (with_reducible exact Below.refl _ _) | (with_reducible assumption) | (with_reducible refine Below.alloc ?_ ?_ _) | (with_reducible refine Below.drew ?_) | (with_reducible refine below_drewN ?_ _) | (with_reducible refine Below.setCell ?_ ?_ _) | (with_reducible refine below_setRow' ?_ ?_ _) | go_size)) hb1; have hL0 : w.heap.size < wP.heap.size := (by have hS0 := hb1.size; (try simp at hS0); omega); have hL1 : w.heap.size + 1 < wP.heap.size := (by have hS0 := hb1.size; (try simp at hS0); omega); have hLe : w.heap.size ≤ wP.heap.size := hB1.size; have hS9 := hb1.size; (try simp [Nat.add_one_le_iff] at hS9); (try (have hS8 := Nat.lt_of_succ_lt hS9)); (try (have hT0 : w1.heap.size < wP.heap.size := (by have hS0 := hb1.size; (try simp at hS0); omega))); (try (have hT1 : w1.heap.size + 1 < wP.heap.size := (by have hS0 := hb1.size; (try simp at hS0); omega))); (try (have hT2 : wN.heap.size < wP.heap.size := (by have hS0 := hb1.size; (try simp at hS0); omega))); (try (have hT3 : wN.heap.size + 1 < wP.heap.size := (by have hS0 := hb1.size; (try simp at hS0); omega))); have hQ0a : w.heap.size < wP.heap.size + 1 := (by omega); have hQ0b : w.heap.size < wP.heap.size + 1 + 1 := (by omega); have hQ1a : w.heap.size + 1 < wP.heap.size + 1 := (by omega); have hQ1b : w.heap.size + 1 < wP.heap.size + 1 + 1 := (by omega); clear hb1))
        refine hK.out _ _ ?_ (fun hHeld2 => ?_)
        · ((try dsimp only); (refine ⟨?_, ?_⟩ <;> go_simp))
        clear hK K hHeld1
        (try simp only [Act.put, List.setIfInBounds_toArray, List.set_cons_zero, List.set_cons_succ, List.getElem_toArray, List.getElem_cons_succ, List.getElem_cons_zero])
        refine wpAnyH_ready (rs := [4, 5]) (by kernel_rfl) (by simp) (AllReadyH.cons rfl (fun K hK => ?_) (AllReadyH.cons rfl (fun K hK => ?_) AllReadyH.nil))
        · go_simp
          refine hK.out _ _ ?_ (fun hHeld3 => ?_)
          · ((try dsimp only); (refine ⟨?_, ?_⟩ <;> go_simp))
          clear hK K hHeld2
          (try simp only [Act.put, List.setIfInBounds_toArray, List.set_cons_zero, List.set_cons_succ, List.getElem_toArray, List.getElem_cons_succ, List.getElem_cons_zero])
          refine wpAnyH_ready (rs := [5]) (by kernel_rfl) (by simp) (AllReadyH.cons rfl (fun K hK => ?_) AllReadyH.nil)
          · go_simp
            refine hK.out _ _ ?_ (fun hHeld4 => ?_)
            · ((try dsimp only); (refine ⟨?_, ?_⟩ <;> go_simp))
            clear hK K hHeld3
            (try simp only [Act.put, List.setIfInBounds_toArray, List.set_cons_zero, List.set_cons_succ, List.getElem_toArray, List.getElem_cons_succ, List.getElem_cons_zero])
            refine wpAnyH_ready (rs := [6]) (by kernel_rfl) (by simp) (AllReadyH.cons rfl (fun K hK => ?_) AllReadyH.nil)
            · go_simp
              refine hK.out _ _ ?_ (fun hHeld5 => ?_)
              · ((try dsimp only); (refine ⟨?_, ?_⟩ <;> go_simp))
              clear hK K hHeld4
              (try simp only [Act.put, List.setIfInBounds_toArray, List.set_cons_zero, List.set_cons_succ, List.getElem_toArray, List.getElem_cons_succ, List.getElem_cons_zero])
              refine wpAnyH_ready (rs := [7]) (by kernel_rfl) (by simp) (AllReadyH.cons rfl (fun K hK => ?_) AllReadyH.nil)
              · go_simp
                refine hK.out _ _ ?_ (fun hHeld6 => ?_)
                · ((try dsimp only); (refine ⟨?_, ?_⟩ <;> go_simp))
                clear hK K hHeld5
                (try simp only [Act.put, List.setIfInBounds_toArray, List.set_cons_zero, List.set_cons_succ, List.getElem_toArray, List.getElem_cons_succ, List.getElem_cons_zero])
                refine wpAnyH_done (by kernel_rfl) ?_ _
                go_wp2_with fail
                go_meet
                refine ⟨_, _, rfl, rfl, ?_, ?_, ?_, ?_, (by repeat' (first | (with_reducible exact Below.refl _ _) | (with_reducible assumption) | (with_reducible refine Below.alloc ?_ ?_ _) | (with_reducible refine Below.drew ?_) | (with_reducible refine below_drewN ?_ _) | (with_reducible refine Below.setCell ?_ ?_ _) | (with_reducible refine below_setRow' ?_ ?_ _) | go_size))⟩
                all_goals go_simp
        · go_simp
          refine hK.out _ _ ?_ (fun hHeld3 => ?_)
          · ((try dsimp only); (refine ⟨?_, ?_⟩ <;> go_simp))
          clear hK K hHeld2
          (try simp only [Act.put, List.setIfInBounds_toArray, List.set_cons_zero, List.set_cons_succ, List.getElem_toArray, List.getElem_cons_succ, List.getElem_cons_zero])
          refine wpAnyH_ready (rs := [4]) (by kernel_rfl) (by simp) (AllReadyH.cons rfl (fun K hK => ?_) AllReadyH.nil)
          · go_simp
            refine hK.out _ _ ?_ (fun hHeld4 => ?_)
            · ((try dsimp only); (refine ⟨?_, ?_⟩ <;> go_simp))
            clear hK K hHeld3
            (try simp only [Act.put, List.setIfInBounds_toArray, List.set_cons_zero, List.set_cons_succ, List.getElem_toArray, List.getElem_cons_succ, List.getElem_cons_zero])
            refine wpAnyH_ready (rs := [6]) (by kernel_rfl) (by simp) (AllReadyH.cons rfl (fun K hK => ?_) AllReadyH.nil)
            · go_simp
              refine hK.out _ _ ?_ (fun hHeld5 => ?_)
              · ((try dsimp only); (refine ⟨?_, ?_⟩ <;> go_simp))
              clear hK K hHeld4
              (try simp only [Act.put, List.setIfInBounds_toArray, List.set_cons_zero, List.set_cons_succ, List.getElem_toArray, List.getElem_cons_succ, List.getElem_cons_zero])
              refine wpAnyH_ready (rs := [7]) (by kernel_rfl) (by simp) (AllReadyH.cons rfl (fun K hK => ?_) AllReadyH.nil)
              · go_simp
                refine hK.out _ _ ?_ (fun hHeld6 => ?_)
                · ((try dsimp only); (refine ⟨?_, ?_⟩ <;> go_simp))
                clear hK K hHeld5
                (try simp only [Act.put, List.setIfInBounds_toArray, List.set_cons_zero, List.set_cons_succ, List.getElem_toArray, List.getElem_cons_succ, List.getElem_cons_zero])
                refine wpAnyH_done (by kernel_rfl) ?_ _
                go_wp2_with fail
                go_meet
                refine ⟨_, _, rfl, rfl, ?_, ?_, ?_, ?_, (by repeat' (first | (with_reducible exact Below.refl _ _) | (with_reducible assumption) | (with_reducible refine Below.alloc ?_ ?_ _) | (with_reducible refine Below.drew ?_) | (with_reducible refine below_drewN ?_ _) | (with_reducible refine Below.setCell ?_ ?_ _) | (with_reducible refine below_setRow' ?_ ?_ _) | go_size))⟩
                all_goals go_simp
      · go_simp
        refine hK.out _ _ ?_ (fun hHeld2 => ?_)
        · ((try dsimp only); (refine ⟨?_, ?_⟩ <;> go_simp))
        clear hK K hHeld1
        (try simp only [Act.put, List.setIfInBounds_toArray, List.set_cons_zero, List.set_cons_succ, List.getElem_toArray, List.getElem_cons_succ, List.getElem_cons_zero])
        refine wpAnyH_ready (rs := [3, 5]) (by kernel_rfl) (by simp) (AllReadyH.cons rfl (fun K hK => ?_) (AllReadyH.cons rfl (fun K hK => ?_) AllReadyH.nil))
        · go_simp
          go_wp2_with (first
            | (go_at_call 44; (with_reducible refine (implAs16_16 (b4 := b4) (o4 := o4) (b6 := b6) (o6 := o6) b' HB'.out _ ?_).mono ?_); (exact HG.out.below (by repeat' (first | (with_reducible exact Below.refl _ _) | (with_reducible assumption) | (with_reducible refine Below.alloc ?_ ?_ _) | (with_reducible refine Below.drew ?_) | (with_reducible refine below_drewN ?_ _) | (with_reducible refine Below.setCell ?_ ?_ _) | (with_reducible refine below_setRow' ?_ ?_ _) | go_size)) (Nat.le_refl _)); rintro e wP ⟨rfl, hb1⟩; have hk1 := blk?_below hb1; (try simp only [size_drew', size_drewN'] at hk1); have hB1 := below_via (w := w) (by repeat' (first | (with_reducible exact Below.refl _ _) | (with_reducible assumption) | (with_reducible refine Below.alloc ?_ ?_ _) | (with_reducible refine Below.drew ?_) | (with_reducible refine below_drewN ?_ _) | (with_reducible refine Below.setCell ?_ ?_ _) | (with_reducible refine below_setRow' ?_ ?_ _) | go_size)) hb1; have hL0 : w.heap.size < wP.heap.size := (by have hS0 := hb1.size; (try simp at hS0); omega); have hL1 : w.heap.size + 1 < wP.heap.size := (by have hS0 := hb1.size; (try simp at hS0); omega); have hLe : w.heap.size ≤ wP.heap.size := hB1.size; have hS9 := hb1.size; (try simp [Nat.add_one_le_iff] at hS9); (try (have hS8 := Nat.lt_of_succ_lt hS9)); (try (have hT0 : w1.heap.size < wP.heap.size := (by have hS0 := hb1.size; (try simp at hS0); omega))); (try (have hT1 : w1.heap.size + 1 < wP.heap.size := (by have hS0 := hb1.size; (try simp at hS0); omega))); (try (have hT2 : wN.heap.size < wP.heap.size := (by have hS0 := hb1.size; (try simp at hS0); omega))); (try (have hT3 : wN.heap.size + 1 < wP.heap.size := (by have hS0 := hb1.size; (try simp at hS0); omega))); have hQ0a : w.heap.size < wP.heap.size + 1 := (by omega); have hQ0b : w.heap.size < wP.heap.size + 1 + 1 := (by omega); have hQ1a : w.heap.size + 1 < wP.heap.size + 1 := (by omega); have hQ1b : w.heap.size + 1 < wP.heap.size + 1 + 1 := (by omega); clear hb1))
          refine hK.out _ _ ?_ (fun hHeld3 => ?_)
          · ((try dsimp only); (refine ⟨?_, ?_⟩ <;> go_simp))
          clear hK K hHeld2
          (try simp only [Act.put, List.setIfInBounds_toArray, List.set_cons_zero, List.set_cons_succ, List.getElem_toArray, List.getElem_cons_succ, List.getElem_cons_zero])
          refine wpAnyH_ready (rs := [5]) (by kernel_rfl) (by simp) (AllReadyH.cons rfl (fun K hK => ?_) AllReadyH.nil)
          · go_simp
            refine hK.out _ _ ?_ (fun hHeld4 => ?_)
            · ((try dsimp only); (refine ⟨?_, ?_⟩ <;> go_simp))
            clear hK K hHeld3
            (try simp only [Act.put, List.setIfInBounds_toArray, List.set_cons_zero, List.set_cons_succ, List.getElem_toArray, List.getElem_cons_succ, List.getElem_cons_zero])
            refine wpAnyH_ready (rs := [6]) (by kernel_rfl) (by simp) (AllReadyH.cons rfl (fun K hK => ?_) AllReadyH.nil)
            · go_simp
              refine hK.out _ _ ?_ (fun hHeld5 => ?_)
              · ((try dsimp only); (refine ⟨?_, ?_⟩ <;> go_simp))
              clear hK K hHeld4
              (try simp only [Act.put, List.setIfInBounds_toArray, List.set_cons_zero, List.set_cons_succ, List.getElem_toArray, List.getElem_cons_succ, List.getElem_cons_zero])
              refine wpAnyH_ready (rs := [7]) (by kernel_rfl) (by simp) (AllReadyH.cons rfl (fun K hK => ?_) AllReadyH.nil)
              · go_simp
                refine hK.out _ _ ?_ (fun hHeld6 => ?_)
                · ((try dsimp only); (refine ⟨?_, ?_⟩ <;> go_simp))
                clear hK K hHeld5
                (try simp only [Act.put, List.setIfInBounds_toArray, List.set_cons_zero, List.set_cons_succ, List.getElem_toArray, List.getElem_cons_succ, List.getElem_cons_zero])
                refine wpAnyH_done (by kernel_rfl) ?_ _
                go_wp2_with fail
                go_meet
                refine ⟨_, _, rfl, rfl, ?_, ?_, ?_, ?_, (by repeat' (first | (with_reducible exact Below.refl _ _) | (with_reducible assumption) | (with_reducible refine Below.alloc ?_ ?_ _) | (with_reducible refine Below.drew ?_) | (with_reducible refine below_drewN ?_ _) | (with_reducible refine Below.setCell ?_ ?_ _) | (with_reducible refine below_setRow' ?_ ?_ _) | go_size))⟩
                all_goals go_simp
        · go_simp
          refine hK.out _ _ ?_ (fun hHeld3 => ?_)
          · ((try dsimp only); (refine ⟨?_, ?_⟩ <;> go_simp))
          clear hK K hHeld2
          (try simp only [Act.put, List.setIfInBounds_toArray, List.set_cons_zero, List.set_cons_succ, List.getElem_toArray, List.getElem_cons_succ, List.getElem_cons_zero])
          refine wpAnyH_ready (rs := [3]) (by kernel_rfl) (by simp) (AllReadyH.cons rfl (fun K hK => ?_) AllReadyH.nil)
          · go_simp
            go_wp2_with (first
              | (go_at_call 44; (with_reducible refine (implAs16_16 (b4 := b4) (o4 := o4) (b6 := b6) (o6 := o6) b' HB'.out _ ?_).mono ?_); (exact HG.out.below (by repeat' (first | (with_reducible exact Below.refl _ _) | (with_reducible assumption) | (with_reducible refine Below.alloc ?_ ?_ _) | (with_reducible refine Below.drew ?_) | (with_reducible refine below_drewN ?_ _) | (with_reducible refine Below.setCell ?_ ?_ _) | (with_reducible refine below_setRow' ?_ ?_ _) | go_size)) (Nat.le_refl _)); rintro e wP ⟨rfl, hb1⟩; have hk1 := blk?_below hb1; (try simp only [size_drew', size_drewN'] at hk1); have hB1 := below_via (w := w) (by repeat' (first | (with_reducible exact Below.refl _ _) | (with_reducible assumption) | (with_reducible refine Below.alloc ?_ ?_ _) | (with_reducible refine Below.drew ?_) | (with_reducible refine below_drewN ?_ _) | (with_reducible refine Below.setCell ?_ ?_ _) | (with_reducible refine below_setRow' ?_ ?_ _) | go_size)) hb1; have hL0 : w.heap.size < wP.heap.size := (by have hS0 := hb1.size; (try simp at hS0); omega); have hL1 : w.heap.size + 1 < wP.heap.size := (by have hS0 := hb1.size; (try simp at hS0); omega); have hLe : w.heap.size ≤ wP.heap.size := hB1.size; have hS9 := hb1.size; (try simp [Nat.add_one_le_iff] at hS9); (try (have hS8 := Nat.lt_of_succ_lt hS9)); (try (have hT0 : w1.heap.size < wP.heap.size := (by have hS0 := hb1.size; (try simp at hS0); omega))); (try (have hT1 : w1.heap.size + 1 < wP.heap.size := (by have hS0 := hb1.size; (try simp at hS0); omega))); (try (have hT2 : wN.heap.size < wP.heap.size := (by have hS0 := hb1.size; (try simp at hS0); omega))); (try (have hT3 : wN.heap.size + 1 < wP.heap.size := (by have hS0 := hb1.size; (try simp at hS0); omega))); have hQ0a : w.heap.size < wP.heap.size + 1 := (by omega); have hQ0b : w.heap.size < wP.heap.size + 1 + 1 := (by omega); have hQ1a : w.heap.size + 1 < wP.heap.size + 1 := (by omega); have hQ1b : w.heap.size + 1 < wP.heap.size + 1 + 1 := (by omega); clear hb1))
            refine hK.out _ _ ?_ (fun hHeld4 => ?_)
            · ((try dsimp only); (refine ⟨?_, ?_⟩ <;> go_simp))
            clear hK K hHeld3
            (try simp only [Act.put, List.setIfInBounds_toArray, List.set_cons_zero, List.set_cons_succ, List.getElem_toArray, List.getElem_cons_succ, List.getElem_cons_zero])
            refine wpAnyH_ready (rs := [6]) (by kernel_rfl) (by simp) (AllReadyH.cons rfl (fun K hK => ?_) AllReadyH.nil)
            · go_simp
              refine hK.out _ _ ?_ (fun hHeld5 => ?_)
              · ((try dsimp only); (refine ⟨?_, ?_⟩ <;> go_simp))
              clear hK K hHeld4
              (try simp only [Act.put, List.setIfInBounds_toArray, List.set_cons_zero, List.set_cons_succ, List.getElem_toArray, List.getElem_cons_succ, List.getElem_cons_zero])
              refine wpAnyH_ready (rs := [7]) (by kernel_rfl) (by simp) (AllReadyH.cons rfl (fun K hK => ?_) AllReadyH.nil)
              · go_simp
                refine hK.out _ _ ?_ (fun hHeld6 => ?_)
                · ((try dsimp only); (refine ⟨?_, ?_⟩ <;> go_simp))
                clear hK K hHeld5
                (try simp only [Act.put, List.setIfInBounds_toArray, List.set_cons_zero, List.set_cons_succ, List.getElem_toArray, List.getElem_cons_succ, List.getElem_cons_zero])
                refine wpAnyH_done (by kernel_rfl) ?_ _
                go_wp2_with fail
                go_meet
                refine ⟨_, _, rfl, rfl, ?_, ?_, ?_, ?_, (by repeat' (first | (with_reducible exact Below.refl _ _) | (with_reducible assumption) | (with_reducible refine Below.alloc ?_ ?_ _) | (with_reducible refine Below.drew ?_) | (with_reducible refine below_drewN ?_ _) | (with_reducible refine Below.setCell ?_ ?_ _) | (with_reducible refine below_setRow' ?_ ?_ _) | go_size))⟩
                all_goals go_simp
      · go_simp
        refine hK.out _ _ ?_ (fun hHeld2 => ?_)
        · ((try dsimp only); (refine ⟨?_, ?_⟩ <;> go_simp))
        clear hK K hHeld1
        (try simp only [Act.put, List.setIfInBounds_toArray, List.set_cons_zero, List.set_cons_succ, List.getElem_toArray, List.getElem_cons_succ, List.getElem_cons_zero])
        refine wpAnyH_ready (rs := [3, 4]) (by kernel_rfl) (by simp) (AllReadyH.cons rfl (fun K hK => ?_) (AllReadyH.cons rfl (fun K hK => ?_) AllReadyH.nil))
        · go_simp
          go_wp2_with (first
            | (go_at_call 44; (with_reducible refine (implAs16_16 (b4 := b4) (o4 := o4) (b6 := b6) (o6 := o6) b' HB'.out _ ?_).mono ?_); (exact HG.out.below (by repeat' (first | (with_reducible exact Below.refl _ _) | (with_reducible assumption) | (with_reducible refine Below.alloc ?_ ?_ _) | (with_reducible refine Below.drew ?_) | (with_reducible refine below_drewN ?_ _) | (with_reducible refine Below.setCell ?_ ?_ _) | (with_reducible refine below_setRow' ?_ ?_ _) | go_size)) (Nat.le_refl _)); rintro e wP ⟨rfl, hb1⟩; have hk1 := blk?_below hb1; (try simp only [size_drew', size_drewN'] at hk1); have hB1 := below_via (w := w) (by repeat' (first | (with_reducible exact Below.refl _ _) | (with_reducible assumption) | (with_reducible refine Below.alloc ?_ ?_ _) | (with_reducible refine Below.drew ?_) | (with_reducible refine below_drewN ?_ _) | (with_reducible refine Below.setCell ?_ ?_ _) | (with_reducible refine below_setRow' ?_ ?_ _) | go_size)) hb1; have hL0 : w.heap.size < wP.heap.size := (by have hS0 := hb1.size; (try simp at hS0); omega); have hL1 : w.heap.size + 1 < wP.heap.size := (by have hS0 := hb1.size; (try simp at hS0); omega); have hLe : w.heap.size ≤ wP.heap.size := hB1.size; have hS9 := hb1.size; (try simp [Nat.add_one_le_iff] at hS9); (try (have hS8 := Nat.lt_of_succ_lt hS9)); (try (have hT0 : w1.heap.size < wP.heap.size := (by have hS0 := hb1.size; (try simp at hS0); omega))); (try (have hT1 : w1.heap.size + 1 < wP.heap.size := (by have hS0 := hb1.size; (try simp at hS0); omega))); (try (have hT2 : wN.heap.size < wP.heap.size := (by have hS0 := hb1.size; (try simp at hS0); omega))); (try (have hT3 : wN.heap.size + 1 < wP.heap.size := (by have hS0 := hb1.size; (try simp at hS0); omega))); have hQ0a : w.heap.size < wP.heap.size + 1 := (by omega); have hQ0b : w.heap.size < wP.heap.size + 1 + 1 := (by omega); have hQ1a : w.heap.size + 1 < wP.heap.size + 1 := (by omega); have hQ1b : w.heap.size + 1 < wP.heap.size + 1 + 1 := (by omega); clear hb1))
          refine hK.out _ _ ?_ (fun hHeld3 => ?_)
          · ((try dsimp only); (refine ⟨?_, ?_⟩ <;> go_simp))
          clear hK K hHeld2
          (try simp only [Act.put, List.setIfInBounds_toArray, List.set_cons_zero, List.set_cons_succ, List.getElem_toArray, List.getElem_cons_succ, List.getElem_cons_zero])
          refine wpAnyH_ready (rs := [4]) (by kernel_rfl) (by simp) (AllReadyH.cons rfl (fun K hK => ?_) AllReadyH.nil)
          · go_simp
            refine hK.out _ _ ?_ (fun hHeld4 => ?_)
            · ((try dsimp only); (refine ⟨?_, ?_⟩ <;> go_simp))
            clear hK K hHeld3
            (try simp only [Act.put, List.setIfInBounds_toArray, List.set_cons_zero, List.set_cons_succ, List.getElem_toArray, List.getElem_cons_succ, List.getElem_cons_zero])
            refine wpAnyH_ready (rs := [6]) (by kernel_rfl) (by simp) (AllReadyH.cons rfl (fun K hK => ?_) AllReadyH.nil)
            · go_simp
              refine hK.out _ _ ?_ (fun hHeld5 => ?_)
              · ((try dsimp only); (refine ⟨?_, ?_⟩ <;> go_simp))
              clear hK K hHeld4
              (try simp only [Act.put, List.setIfInBounds_toArray, List.set_cons_zero, List.set_cons_succ, List.getElem_toArray, List.getElem_cons_succ, List.getElem_cons_zero])
              refine wpAnyH_ready (rs := [7]) (by kernel_rfl) (by simp) (AllReadyH.cons rfl (fun K hK => ?_) AllReadyH.nil)
              · go_simp
                refine hK.out _ _ ?_ (fun hHeld6 => ?_)
                · ((try dsimp only); (refine ⟨?_, ?_⟩ <;> go_simp))
                clear hK K hHeld5
                (try simp only [Act.put, List.setIfInBounds_toArray, List.set_cons_zero, List.set_cons_succ, List.getElem_toArray, List.getElem_cons_succ, List.getElem_cons_zero])
                refine wpAnyH_done (by kernel_rfl) ?_ _
                go_wp2_with fail
                go_meet
                refine ⟨_, _, rfl, rfl, ?_, ?_, ?_, ?_, (by repeat' (first | (with_reducible exact Below.refl _ _) | (with_reducible assumption) | (with_reducible refine Below.alloc ?_ ?_ _) | (with_reducible refine Below.drew ?_) | (with_reducible refine below_drewN ?_ _) | (with_reducible refine Below.setCell ?_ ?_ _) | (with_reducible refine below_setRow' ?_ ?_ _) | go_size))⟩
                all_goals go_simp
        · go_simp
          refine hK.out _ _ ?_ (fun hHeld3 => ?_)
          · ((try dsimp only); (refine ⟨?_, ?_⟩ <;> go_simp))
          clear hK K hHeld2
          (try simp only [Act.put, List.setIfInBounds_toArray, List.set_cons_zero, List.set_cons_succ, List.getElem_toArray, List.getElem_cons_succ, List.getElem_cons_zero])
          refine wpAnyH_ready (rs := [3]) (by kernel_rfl) (by simp) (AllReadyH.cons rfl (fun K hK => ?_) AllReadyH.nil)
          · go_simp
            go_wp2_with (first
              | (go_at_call 44; (with_reducible refine (implAs16_16 (b4 := b4) (o4 := o4) (b6 := b6) (o6 := o6) b' HB'.out _ ?_).mono ?_); (exact HG.out.below (by repeat' (first | (with_reducible exact Below.refl _ _) | (with_reducible assumption) | (with_reducible refine Below.alloc ?_ ?_ _) | (with_reducible refine Below.drew ?_) | (with_reducible refine below_drewN ?_ _) | (with_reducible refine Below.setCell ?_ ?_ _) | (with_reducible refine below_setRow' ?_ ?_ _) | go_size)) (Nat.le_refl _)); rintro e wP ⟨rfl, hb1⟩; have hk1 := blk?_below hb1; (try simp only [size_drew', size_drewN'] at hk1); have hB1 := below_via (w := w) (by repeat' (first | (with_reducible exact Below.refl _ _) | (with_reducible assumption) | (with_reducible refine Below.alloc ?_ ?_ _) | (with_reducible refine Below.drew ?_) | (with_reducible refine below_drewN ?_ _) | (with_reducible refine Below.setCell ?_ ?_ _) | (with_reducible refine below_setRow' ?_ ?_ _) | go_size)) hb1; have hL0 : w.heap.size < wP.heap.size := (by have hS0 := hb1.size; (try simp at hS0); omega); have hL1 : w.heap.size + 1 < wP.heap.size := (by have hS0 := hb1.size; (try simp at hS0); omega); have hLe : w.heap.size ≤ wP.heap.size := hB1.size; have hS9 := hb1.size; (try simp [Nat.add_one_le_iff] at hS9); (try (have hS8 := Nat.lt_of_succ_lt hS9)); (try (have hT0 : w1.heap.size < wP.heap.size := (by have hS0 := hb1.size; (try simp at hS0); omega))); (try (have hT1 : w1.heap.size + 1 < wP.heap.size := (by have hS0 := hb1.size; (try simp at hS0); omega))); (try (have hT2 : wN.heap.size < wP.heap.size := (by have hS0 := hb1.size; (try simp at hS0); omega))); (try (have hT3 : wN.heap.size + 1 < wP.heap.size := (by have hS0 := hb1.size; (try simp at hS0); omega))); have hQ0a : w.heap.size < wP.heap.size + 1 := (by omega); have hQ0b : w.heap.size < wP.heap.size + 1 + 1 := (by omega); have hQ1a : w.heap.size + 1 < wP.heap.size + 1 := (by omega); have hQ1b : w.heap.size + 1 < wP.heap.size + 1 + 1 := (by omega); clear hb1))
            refine hK.out _ _ ?_ (fun hHeld4 => ?_)
            · ((try dsimp only); (refine ⟨?_, ?_⟩ <;> go_simp))
            clear hK K hHeld3
            (try simp only [Act.put, List.setIfInBounds_toArray, List.set_cons_zero, List.set_cons_succ, List.getElem_toArray, List.getElem_cons_succ, List.getElem_cons_zero])
            refine wpAnyH_ready (rs := [6]) (by kernel_rfl) (by simp) (AllReadyH.cons rfl (fun K hK => ?_) AllReadyH.nil)
            · go_simp
              refine hK.out _ _ ?_ (fun hHeld5 => ?_)
              · ((try dsimp only); (refine ⟨?_, ?_⟩ <;> go_simp))
              clear hK K hHeld4
              (try simp only [Act.put, List.setIfInBounds_toArray, List.set_cons_zero, List.set_cons_succ, List.getElem_toArray, List.getElem_cons_succ, List.getElem_cons_zero])
              refine wpAnyH_ready (rs := [7]) (by kernel_rfl) (by simp) (AllReadyH.cons rfl (fun K hK => ?_) AllReadyH.nil)
              · go_simp
                refine hK.out _ _ ?_ (fun hHeld6 => ?_)
                · ((try dsimp only); (refine ⟨?_, ?_⟩ <;> go_simp))
                clear hK K hHeld5
                (try simp only [Act.put, List.setIfInBounds_toArray, List.set_cons_zero, List.set_cons_succ, List.getElem_toArray, List.getElem_cons_succ, List.getElem_cons_zero])
                refine wpAnyH_done (by kernel_rfl) ?_ _
                go_wp2_with fail
                go_meet
                refine ⟨_, _, rfl, rfl, ?_, ?_, ?_, ?_, (by repeat' (first | (with_reducible exact Below.refl _ _) | (with_reducible assumption) | (with_reducible refine Below.alloc ?_ ?_ _) | (with_reducible refine Below.drew ?_) | (with_reducible refine below_drewN ?_ _) | (with_reducible refine Below.setCell ?_ ?_ _) | (with_reducible refine below_setRow' ?_ ?_ _) | go_size))⟩
                all_goals go_simp
    · go_simp
      refine hK.out _ _ ?_ (fun hHeld1 => ?_)
      · ((try dsimp only); (refine ⟨?_, ?_⟩ <;> go_simp))
      clear hK K hHeld0
      (try simp only [Act.put, List.setIfInBounds_toArray, List.set_cons_zero, List.set_cons_succ, List.getElem_toArray, List.getElem_cons_succ, List.getElem_cons_zero])
      refine wpAnyH_ready (rs := [1, 5]) (by kernel_rfl) (by simp) (AllReadyH.cons rfl (fun K hK => ?_) (AllReadyH.cons rfl (fun K hK => ?_) AllReadyH.nil))
      · go_simp
        go_wp2_with (first
          | (go_at_call 44; (with_reducible refine (implAs16_16 (b4 := b4) (o4 := o4) (b6 := b6) (o6 := o6) b HB.out _ ?_).mono ?_); (exact HG.out.below (by repeat' (first | (with_reducible exact Below.refl _ _) | (with_reducible assumption) | (with_reducible refine Below.alloc ?_ ?_ _) | (with_reducible refine Below.drew ?_) | (with_reducible refine below_drewN ?_ _) | (with_reducible refine Below.setCell ?_ ?_ _) | (with_reducible refine below_setRow' ?_ ?_ _) | go_size)) (Nat.le_refl _)); rintro e wN ⟨rfl, hb1⟩; have hk1 := blk?_below hb1; (try simp only [size_drew', size_drewN'] at hk1); have hB1 := below_via (w := w) (by repeat' (first | (with_reducible exact Below.refl _ _) | (with_reducible assumption) | (with_reducible refine Below.alloc ?_ ?_ _) | (with_reducible refine Below.drew ?_) | (with_reducible refine below_drewN ?_ _) | (with_reducible refine Below.setCell ?_ ?_ _) | (with_reducible refine below_setRow' ?_ ?_ _) | go_size)) hb1; have hL0 : w.heap.size < wN.heap.size := (by have hS0 := hb1.size; (try simp at hS0); omega); have hL1 : w.heap.size + 1 < wN.heap.size := (by have hS0 := hb1.size; (try simp at hS0); omega); have hLe : w.heap.size ≤ wN.heap.size := hB1.size; have hS9 := hb1.size; (try simp [Nat.add_one_le_iff] at hS9); (try (have hS8 := Nat.lt_of_succ_lt hS9)); have hQ0a : w.heap.size < wN.heap.size + 1 := (by omega); have hQ0b : w.heap.size < wN.heap.size + 1 + 1 := (by omega); have hQ1a : w.heap.size + 1 < wN.heap.size + 1 := (by omega); have hQ1b : w.heap.size + 1 < wN.heap.size + 1 + 1 := (by omega); clear hb1))
        refine hK.out _ _ ?_ (fun hHeld2 => ?_)
        · ((try dsimp only); (refine ⟨?_, ?_⟩ <;> go_simp))
        clear hK K hHeld1
        (try simp only [Act.put, List.setIfInBounds_toArray, List.set_cons_zero, List.set_cons_succ, List.getElem_toArray, List.getElem_cons_succ, List.getElem_cons_zero])
        refine wpAnyH_ready (rs := [3, 5]) (by kernel_rfl) (by simp) (AllReadyH.cons rfl (fun K hK => ?_) (AllReadyH.cons rfl (fun K hK => ?_) AllReadyH.nil))
        · go_simp
          go_wp2_with (first
            | (go_at_call 44; (with_reducible refine (implAs16_16 (b4 := b4) (o4 := o4) (b6 := b6) (o6 := o6) b' HB'.out _ ?_).mono ?_); (exact HG.out.below (by repeat' (first | (with_reducible exact Below.refl _ _) | (with_reducible assumption) | (with_reducible refine Below.alloc ?_ ?_ _) | (with_reducible refine Below.drew ?_) | (with_reducible refine below_drewN ?_ _) | (with_reducible refine Below.setCell ?_ ?_ _) | (with_reducible refine below_setRow' ?_ ?_ _) | go_size)) (Nat.le_refl _)); rintro e wP ⟨rfl, hb1⟩; have hk1 := blk?_below hb1; (try simp only [size_drew', size_drewN'] at hk1); have hB1 := below_via (w := w) (by repeat' (first | (with_reducible exact Below.refl _ _) | (with_reducible assumption) | (with_reducible refine Below.alloc ?_ ?_ _) | (with_reducible refine Below.drew ?_) | (with_reducible refine below_drewN ?_ _) | (with_reducible refine Below.setCell ?_ ?_ _) | (with_reducible refine below_setRow' ?_ ?_ _) | go_size)) hb1; have hL0 : w.heap.size < wP.heap.size := (by have hS0 := hb1.size; (try simp at hS0); omega); have hL1 : w.heap.size + 1 < wP.heap.size := (by have hS0 := hb1.size; (try simp at hS0); omega); have hLe : w.heap.size ≤ wP.heap.size := hB1.size; have hS9 := hb1.size; (try simp [Nat.add_one_le_iff] at hS9); (try (have hS8 := Nat.lt_of_succ_lt hS9)); (try (have hT0 : w1.heap.size < wP.heap.size := (by have hS0 := hb1.size; (try simp at hS0); omega))); (try (have hT1 : w1.heap.size + 1 < wP.heap.size := (by have hS0 := hb1.size; (try simp at hS0); omega))); (try (have hT2 : wN.heap.size < wP.heap.size := (by have hS0 := hb1.size; (try simp at hS0); omega))); (try (have hT3 : wN.heap.size + 1 < wP.heap.size := (by have hS0 := hb1.size; (try simp at hS0); omega))); have hQ0a : w.heap.size < wP.heap.size + 1 := (by omega); have hQ0b : w.heap.size < wP.heap.size + 1 + 1 := (by omega); have hQ1a : w.heap.size + 1 < wP.heap.size + 1 := (by omega); have hQ1b : w.heap.size + 1 < wP.heap.size + 1 + 1 := (by omega); clear hb1))
          refine hK.out _ _ ?_ (fun hHeld3 => ?_)
          · ((try dsimp only); (refine ⟨?_, ?_⟩ <;> go_simp))
          clear hK K hHeld2
          (try simp only [Act.put, List.setIfInBounds_toArray, List.set_cons_zero, List.set_cons_succ, List.getElem_toArray, List.getElem_cons_succ, List.getElem_cons_zero])
          refine wpAnyH_ready (rs := [5]) (by kernel_rfl) (by simp) (AllReadyH.cons rfl (fun K hK => ?_) AllReadyH.nil)
          · go_simp
            refine hK.out _ _ ?_ (fun hHeld4 => ?_)
            · ((try dsimp only); (refine ⟨?_, ?_⟩ <;> go_simp))
            clear hK K hHeld3
            (try simp only [Act.put, List.setIfInBounds_toArray, List.set_cons_zero, List.set_cons_succ, List.getElem_toArray, List.getElem_cons_succ, List.getElem_cons_zero])
            refine wpAnyH_ready (rs := [6]) (by kernel_rfl) (by simp) (AllReadyH.cons rfl (fun K hK => ?_) AllReadyH.nil)
            · go_simp
              refine hK.out _ _ ?_ (fun hHeld5 => ?_)
              · ((try dsimp only); (refine ⟨?_, ?_⟩ <;> go_simp))
              clear hK K hHeld4
              (try simp only [Act.put, List.setIfInBounds_toArray, List.set_cons_zero, List.set_cons_succ, List.getElem_toArray, List.getElem_cons_succ, List.getElem_cons_zero])
              refine wpAnyH_ready (rs := [7]) (by kernel_rfl) (by simp) (AllReadyH.cons rfl (fun K hK => ?_) AllReadyH.nil)
              · go_simp
                refine hK.out _ _ ?_ (fun hHeld6 => ?_)
                · ((try dsimp only); (refine ⟨?_, ?_⟩ <;> go_simp))
                clear hK K hHeld5
                (try simp only [Act.put, List.setIfInBounds_toArray, List.set_cons_zero, List.set_cons_succ, List.getElem_toArray, List.getElem_cons_succ, List.getElem_cons_zero])
                refine wpAnyH_done (by kernel_rfl) ?_ _
                go_wp2_with fail
                go_meet
                refine ⟨_, _, rfl, rfl, ?_, ?_, ?_, ?_, (by repeat' (first | (with_reducible exact Below.refl _ _) | (with_reducible assumption) | (with_reducible refine Below.alloc ?_ ?_ _) | (with_reducible refine Below.drew ?_) | (with_reducible refine below_drewN ?_ _) | (with_reducible refine Below.setCell ?_ ?_ _) | (with_reducible refine below_setRow' ?_ ?_ _) | go_size))⟩
                all_goals go_simp
        · go_simp
          refine hK.out _ _ ?_ (fun hHeld3 => ?_)
          · ((try dsimp only); (refine ⟨?_, ?_⟩ <;> go_simp))
          clear hK K hHeld2
          (try simp only [Act.put, List.setIfInBounds_toArray, List.set_cons_zero, List.set_cons_succ, List.getElem_toArray, List.getElem_cons_succ, List.getElem_cons_zero])
          refine wpAnyH_ready (rs := [3]) (by kernel_rfl) (by simp) (AllReadyH.cons rfl (fun K hK => ?_) AllReadyH.nil)
          · go_simp
            go_wp2_with (first
              | (go_at_call 44; (with_reducible refine (implAs16_16 (b4 := b4) (o4 := o4) (b6 := b6) (o6 := o6) b' HB'.out _ ?_).mono ?_); (exact HG.out.below (by repeat' (first | (with_reducible exact Below.refl _ _) | (with_reducible assumption) | (with_reducible refine Below.alloc ?_ ?_ _) | (with_reducible refine Below.drew ?_) | (with_reducible refine below_drewN ?_ _) | (with_reducible refine Below.setCell ?_ ?_ _) | (with_reducible refine below_setRow' ?_ ?_ _) | go_size)) (Nat.le_refl _)); rintro e wP ⟨rfl, hb1⟩; have hk1 := blk?_below hb1; (try simp only [size_drew', size_drewN'] at hk1); have hB1 := below_via (w := w) (by repeat' (first | (with_reducible exact Below.refl _ _) | (with_reducible assumption) | (with_reducible refine Below.alloc ?_ ?_ _) | (with_reducible refine Below.drew ?_) | (with_reducible refine below_drewN ?_ _) | (with_reducible refine Below.setCell ?_ ?_ _) | (with_reducible refine below_setRow' ?_ ?_ _) | go_size)) hb1; have hL0 : w.heap.size < wP.heap.size := (by have hS0 := hb1.size; (try simp at hS0); omega); have hL1 : w.heap.size + 1 < wP.heap.size := (by have hS0 := hb1.size; (try simp at hS0); omega); have hLe : w.heap.size ≤ wP.heap.size := hB1.size; have hS9 := hb1.size; (try simp [Nat.add_one_le_iff] at hS9); (try (have hS8 := Nat.lt_of_succ_lt hS9)); (try (have hT0 : w1.heap.size < wP.heap.size := (by have hS0 := hb1.size; (try simp at hS0); omega))); (try (have hT1 : w1.heap.size + 1 < wP.heap.size := (by have hS0 := hb1.size; (try simp at hS0); omega))); (try (have hT2 : wN.heap.size < wP.heap.size := (by have hS0 := hb1.size; (try simp at hS0); omega))); (try (have hT3 : wN.heap.size + 1 < wP.heap.size := (by have hS0 := hb1.size; (try simp at hS0); omega))); have hQ0a : w.heap.size < wP.heap.size + 1 := (by omega); have hQ0b : w.heap.size < wP.heap.size + 1 + 1 := (by omega); have hQ1a : w.heap.size + 1 < wP.heap.size + 1 := (by omega); have hQ1b : w.heap.size + 1 < wP.heap.size + 1 + 1 := (by omega); clear hb1))
            refine hK.out _ _ ?_ (fun hHeld4 => ?_)
            · ((try dsimp only); (refine ⟨?_, ?_⟩ <;> go_simp))
            clear hK K hHeld3
            (try simp only [Act.put, List.setIfInBounds_toArray, List.set_cons_zero, List.set_cons_succ, List.getElem_toArray, List.getElem_cons_succ, List.getElem_cons_zero])
            refine wpAnyH_ready (rs := [6]) (by kernel_rfl) (by simp) (AllReadyH.cons rfl (fun K hK => ?_) AllReadyH.nil)
            · go_simp
              refine hK.out _ _ ?_ (fun hHeld5 => ?_)
              · ((try dsimp only); (refine ⟨?_, ?_⟩ <;> go_simp))
              clear hK K hHeld4
              (try simp only [Act.put, List.setIfInBounds_toArray, List.set_cons_zero, List.set_cons_succ, List.getElem_toArray, List.getElem_cons_succ, List.getElem_cons_zero])
              refine wpAnyH_ready (rs := [7]) (by kernel_rfl) (by simp) (AllReadyH.cons rfl (fun K hK => ?_) AllReadyH.nil)
              · go_simp
                refine hK.out _ _ ?_ (fun hHeld6 => ?_)
                · ((try dsimp only); (refine ⟨?_, ?_⟩ <;> go_simp))
                clear hK K hHeld5
                (try simp only [Act.put, List.setIfInBounds_toArray, List.set_cons_zero, List.set_cons_succ, List.getElem_toArray, List.getElem_cons_succ, List.getElem_cons_zero])
                refine wpAnyH_done (by kernel_rfl) ?_ _
                go_wp2_with fail
                go_meet
                refine ⟨_, _, rfl, rfl, ?_, ?_, ?_, ?_, (by repeat' (first | (with_reducible exact Below.refl _ _) | (with_reducible assumption) | (with_reducible refine Below.alloc ?_ ?_ _) | (with_reducible refine Below.drew ?_) | (with_reducible refine below_drewN ?_ _) | (with_reducible refine Below.setCell ?_ ?_ _) | (with_reducible refine below_setRow' ?_ ?_ _) | go_size))⟩
                all_goals go_simp
      · go_simp
        refine hK.out _ _ ?_ (fun hHeld2 => ?_)
        · ((try dsimp only); (refine ⟨?_, ?_⟩ <;> go_simp))
        clear hK K hHeld1
        (try simp only [Act.put, List.setIfInBounds_toArray, List.set_cons_zero, List.set_cons_succ, List.getElem_toArray, List.getElem_cons_succ, List.getElem_cons_zero])
        refine wpAnyH_ready (rs := [1]) (by kernel_rfl) (by simp) (AllReadyH.cons rfl (fun K hK => ?_) AllReadyH.nil)
        · go_simp
          go_wp2_with (first
            | (go_at_call 44; (with_reducible refine (implAs16_16 (b4 := b4) (o4 := o4) (b6 := b6) (o6 := o6) b HB.out _ ?_).mono ?_); (exact HG.out.below (by repeat' (first | (with_reducible exact Below.refl _ _) | (with_reducible assumption) | (with_reducible refine Below.alloc ?_ ?_ _) | (with_reducible refine Below.drew ?_) | (with_reducible refine below_drewN ?_ _) | (with_reducible refine Below.setCell ?_ ?_ _) | (with_reducible refine below_setRow' ?_ ?_ _) | go_size)) (Nat.le_refl _)); rintro e wN ⟨rfl, hb1⟩; have hk1 := blk?_below hb1; (try simp only [size_drew', size_drewN'] at hk1); have hB1 := below_via (w := w) (by repeat' (first | (with_reducible exact Below.refl _ _) | (with_reducible assumption) | (with_reducible refine Below.alloc ?_ ?_ _) | (with_reducible refine Below.drew ?_) | (with_reducible refine below_drewN ?_ _) | (with_reducible refine Below.setCell ?_ ?_ _) | (with_reducible refine below_setRow' ?_ ?_ _) | go_size)) hb1; have hL0 : w.heap.size < wN.heap.size := (by have hS0 := hb1.size; (try simp at hS0); omega); have hL1 : w.heap.size + 1 < wN.heap.size := (by have hS0 := hb1.size; (try simp at hS0); omega); have hLe : w.heap.size ≤ wN.heap.size := hB1.size; have hS9 := hb1.size; (try simp [Nat.add_one_le_iff] at hS9); (try (have hS8 := Nat.lt_of_succ_lt hS9)); have hQ0a : w.heap.size < wN.heap.size + 1 := (by omega); have hQ0b : w.heap.size < wN.heap.size + 1 + 1 := (by omega); have hQ1a : w.heap.size + 1 < wN.heap.size + 1 := (by omega); have hQ1b : w.heap.size + 1 < wN.heap.size + 1 + 1 := (by omega); clear hb1))
          refine hK.out _ _ ?_ (fun hHeld3 => ?_)
          · ((try dsimp only); (refine ⟨?_, ?_⟩ <;> go_simp))
          clear hK K hHeld2
          (try simp only [Act.put, List.setIfInBounds_toArray, List.set_cons_zero, List.set_cons_succ, List.getElem_toArray, List.getElem_cons_succ, List.getElem_cons_zero])
          refine wpAnyH_ready (rs := [3]) (by kernel_rfl) (by simp) (AllReadyH.cons rfl (fun K hK => ?_) AllReadyH.nil)
          · go_simp
            go_wp2_with (first
              | (go_at_call 44; (with_reducible refine (implAs16_16 (b4 := b4) (o4 := o4) (b6 := b6) (o6 := o6) b' HB'.out _ ?_).mono ?_); (exact HG.out.below (by repeat' (first | (with_reducible exact Below.refl _ _) | (with_reducible assumption) | (with_reducible refine Below.alloc ?_ ?_ _) | (with_reducible refine Below.drew ?_) | (with_reducible refine below_drewN ?_ _) | (with_reducible refine Below.setCell ?_ ?_ _) | (with_reducible refine below_setRow' ?_ ?_ _) | go_size)) (Nat.le_refl _)); rintro e wP ⟨rfl, hb1⟩; have hk1 := blk?_below hb1; (try simp only [size_drew', size_drewN'] at hk1); have hB1 := below_via (w := w) (by repeat' (first | (with_reducible exact Below.refl _ _) | (with_reducible assumption) | (with_reducible refine Below.alloc ?_ ?_ _) | (with_reducible refine Below.drew ?_) | (with_reducible refine below_drewN ?_ _) | (with_reducible refine Below.setCell ?_ ?_ _) | (with_reducible refine below_setRow' ?_ ?_ _) | go_size)) hb1; have hL0 : w.heap.size < wP.heap.size := (by have hS0 := hb1.size; (try simp at hS0); omega); have hL1 : w.heap.size + 1 < wP.heap.size := (by have hS0 := hb1.size; (try simp at hS0); omega); have hLe : w.heap.size ≤ wP.heap.size := hB1.size; have hS9 := hb1.size; (try simp [Nat.add_one_le_iff] at hS9); (try (have hS8 := Nat.lt_of_succ_lt hS9)); (try (have hT0 : w1.heap.size < wP.heap.size := (by have hS0 := hb1.size; (try simp at hS0); omega))); (try (have hT1 : w1.heap.size + 1 < wP.heap.size := (by have hS0 := hb1.size; (try simp at hS0); omega))); (try (have hT2 : wN.heap.size < wP.heap.size := (by have hS0 := hb1.size; (try simp at hS0); omega))); (try (have hT3 : wN.heap.size + 1 < wP.heap.size := (by have hS0 := hb1.size; (try simp at hS0); omega))); have hQ0a : w.heap.size < wP.heap.size + 1 := (by omega); have hQ0b : w.heap.size < wP.heap.size + 1 + 1 := (by omega); have hQ1a : w.heap.size + 1 < wP.heap.size + 1 := (by omega); have hQ1b : w.heap.size + 1 < wP.heap.size + 1 + 1 := (by omega); clear hb1))
            refine hK.out _ _ ?_ (fun hHeld4 => ?_)
            · ((try dsimp only); (refine ⟨?_, ?_⟩ <;> go_simp))
            clear hK K hHeld3
            (try simp only [Act.put, List.setIfInBounds_toArray, List.set_cons_zero, List.set_cons_succ, List.getElem_toArray, List.getElem_cons_succ, List.getElem_cons_zero])
            refine wpAnyH_ready (rs := [6]) (by kernel_rfl) (by simp) (AllReadyH.cons rfl (fun K hK => ?_) AllReadyH.nil)
            · go_simp
              refine hK.out _ _ ?_ (fun hHeld5 => ?_)
              · ((try dsimp only); (refine ⟨?_, ?_⟩ <;> go_simp))
              clear hK K hHeld4
              (try simp only [Act.put, List.setIfInBounds_toArray, List.set_cons_zero, List.set_cons_succ, List.getElem_toArray, List.getElem_cons_succ, List.getElem_cons_zero])
              refine wpAnyH_ready (rs := [7]) (by kernel_rfl) (by simp) (AllReadyH.cons rfl (fun K hK => ?_) AllReadyH.nil)
              · go_simp
                refine hK.out _ _ ?_ (fun hHeld6 => ?_)
                · ((try dsimp only); (refine ⟨?_, ?_⟩ <;> go_simp))
                clear hK K hHeld5
                (try simp only [Act.put, List.setIfInBounds_toArray, List.set_cons_zero, List.set_cons_succ, List.getElem_toArray, List.getElem_cons_succ, List.getElem_cons_zero])
                refine wpAnyH_done (by kernel_rfl) ?_ _
                go_wp2_with fail
                go_meet
                refine ⟨_, _, rfl, rfl, ?_, ?_, ?_, ?_, (by repeat' (first | (with_reducible exact Below.refl _ _) | (with_reducible assumption) | (with_reducible refine Below.alloc ?_ ?_ _) | (with_reducible refine Below.drew ?_) | (with_reducible refine below_drewN ?_ _) | (with_reducible refine Below.setCell ?_ ?_ _) | (with_reducible refine below_setRow' ?_ ?_ _) | go_size))⟩
                all_goals go_simp
    · go_simp
      refine hK.out _ _ ?_ (fun hHeld1 => ?_)
      · ((try dsimp only); (refine ⟨?_, ?_⟩ <;> go_simp))
      clear hK K hHeld0
      (try simp only [Act.put, List.setIfInBounds_toArray, List.set_cons_zero, List.set_cons_succ, List.getElem_toArray, List.getElem_cons_succ, List.getElem_cons_zero])
      refine wpAnyH_ready (rs := [1, 4]) (by kernel_rfl) (by simp) (AllReadyH.cons rfl (fun K hK => ?_) (AllReadyH.cons rfl (fun K hK => ?_) AllReadyH.nil))
      · go_simp
        go_wp2_with (first
          | (go_at_call 44; (with_reducible refine (implAs16_16 (b4 := b4) (o4 := o4) (b6 := b6) (o6 := o6) b HB.out _ ?_).mono ?_); (exact HG.out.below (by repeat' (first | (with_reducible exact Below.refl _ _) | (with_reducible assumption) | (with_reducible refine Below.alloc ?_ ?_ _) | (with_reducible refine Below.drew ?_) | (with_reducible refine below_drewN ?_ _) | (with_reducible refine Below.setCell ?_ ?_ _) | (with_reducible refine below_setRow' ?_ ?_ _) | go_size)) (Nat.le_refl _)); rintro e wN ⟨rfl, hb1⟩; have hk1 := blk?_below hb1; (try simp only [size_drew', size_drewN'] at hk1); have hB1 := below_via (w := w) (by repeat' (first | (with_reducible exact Below.refl _ _) | (with_reducible assumption) | (with_reducible refine Below.alloc ?_ ?_ _) | (with_reducible refine Below.drew ?_) | (with_reducible refine below_drewN ?_ _) | (with_reducible refine Below.setCell ?_ ?_ _) | (with_reducible refine below_setRow' ?_ ?_ _) | go_size)) hb1; have hL0 : w.heap.size < wN.heap.size := (by have hS0 := hb1.size; (try simp at hS0); omega); have hL1 : w.heap.size + 1 < wN.heap.size := (by have hS0 := hb1.size; (try simp at hS0); omega); have hLe : w.heap.size ≤ wN.heap.size := hB1.size; have hS9 := hb1.size; (try simp [Nat.add_one_le_iff] at hS9); (try (have hS8 := Nat.lt_of_succ_lt hS9)); have hQ0a : w.heap.size < wN.heap.size + 1 := (by omega); have hQ0b : w.heap.size < wN.heap.size + 1 + 1 := (by omega); have hQ1a : w.heap.size + 1 < wN.heap.size + 1 := (by omega); have hQ1b : w.heap.size + 1 < wN.heap.size + 1 + 1 := (by omega); clear hb1))
        refine hK.out _ _ ?_ (fun hHeld2 => ?_)
        · ((try dsimp only); (refine ⟨?_, ?_⟩ <;> go_simp))
        clear hK K hHeld1
        (try simp only [Act.put, List.setIfInBounds_toArray, List.set_cons_zero, List.set_cons_succ, List.getElem_toArray, List.getElem_cons_succ, List.getElem_cons_zero])
        refine wpAnyH_ready (rs := [3, 4]) (by kernel_rfl) (by simp) (AllReadyH.cons rfl (fun K hK => ?_) (AllReadyH.cons rfl (fun K hK => ?_) AllReadyH.nil))
        · go_simp
          go_wp2_with (first
            | (go_at_call 44; (with_reducible refine (implAs16_16 (b4 := b4) (o4 := o4) (b6 := b6) (o6 := o6) b' HB'.out _ ?_).mono ?_); (exact HG.out.below (by repeat' (first | (with_reducible exact Below.refl _ _) | (with_reducible assumption) | (with_reducible refine Below.alloc ?_ ?_ _) | (with_reducible refine Below.drew ?_) | (with_reducible refine below_drewN ?_ _) | (with_reducible refine Below.setCell ?_ ?_ _) | (with_reducible refine below_setRow' ?_ ?_ _) | go_size)) (Nat.le_refl _)); rintro e wP ⟨rfl, hb1⟩; have hk1 := blk?_below hb1; (try simp only [size_drew', size_drewN'] at hk1); have hB1 := below_via (w := w) (by repeat' (first | (with_reducible exact Below.refl _ _) | (with_reducible assumption) | (with_reducible refine Below.alloc ?_ ?_ _) | (with_reducible refine Below.drew ?_) | (with_reducible refine below_drewN ?_ _) | (with_reducible refine Below.setCell ?_ ?_ _) | (with_reducible refine below_setRow' ?_ ?_ _) | go_size)) hb1; have hL0 : w.heap.size < wP.heap.size := (by have hS0 := hb1.size; (try simp at hS0); omega); have hL1 : w.heap.size + 1 < wP.heap.size := (by have hS0 := hb1.size; (try simp at hS0); omega); have hLe : w.heap.size ≤ wP.heap.size := hB1.size; have hS9 := hb1.size; (try simp [Nat.add_one_le_iff] at hS9); (try (have hS8 := Nat.lt_of_succ_lt hS9)); (try (have hT0 : w1.heap.size < wP.heap.size := (by have hS0 := hb1.size; (try simp at hS0); omega))); (try (have hT1 : w1.heap.size + 1 < wP.heap.size := (by have hS0 := hb1.size; (try simp at hS0); omega))); (try (have hT2 : wN.heap.size < wP.heap.size := (by have hS0 := hb1.size; (try simp at hS0); omega))); (try (have hT3 : wN.heap.size + 1 < wP.heap.size := (by have hS0 := hb1.size; (try simp at hS0); omega))); have hQ0a : w.heap.size < wP.heap.size + 1 := (by omega); have hQ0b : w.heap.size < wP.heap.size + 1 + 1 := (by omega); have hQ1a : w.heap.size + 1 < wP.heap.size + 1 := (by omega); have hQ1b : w.heap.size + 1 < wP.heap.size + 1 + 1 := (by omega); clear hb1))
          refine hK.out _ _ ?_ (fun hHeld3 => ?_)
          · ((try dsimp only); (refine ⟨?_, ?_⟩ <;> go_simp))
          clear hK K hHeld2
          (try simp only [Act.put, List.setIfInBounds_toArray, List.set_cons_zero, List.set_cons_succ, List.getElem_toArray, List.getElem_cons_succ, List.getElem_cons_zero])
          refine wpAnyH_ready (rs := [4]) (by kernel_rfl) (by simp) (AllReadyH.cons rfl (fun K hK => ?_) AllReadyH.nil)
          · go_simp
            refine hK.out _ _ ?_ (fun hHeld4 => ?_)
            · ((try dsimp only); (refine ⟨?_, ?_⟩ <;> go_simp))
            clear hK K hHeld3
            (try simp only [Act.put, List.setIfInBounds_toArray, List.set_cons_zero, List.set_cons_succ, List.getElem_toArray, List.getElem_cons_succ, List.getElem_cons_zero])
            refine wpAnyH_ready (rs := [6]) (by kernel_rfl) (by simp) (AllReadyH.cons rfl (fun K hK => ?_) AllReadyH.nil)
            · go_simp
              refine hK.out _ _ ?_ (fun hHeld5 => ?_)
              · ((try dsimp only); (refine ⟨?_, ?_⟩ <;> go_simp))
              clear hK K hHeld4
              (try simp only [Act.put, List.setIfInBounds_toArray, List.set_cons_zero, List.set_cons_succ, List.getElem_toArray, List.getElem_cons_succ, List.getElem_cons_zero])
              refine wpAnyH_ready (rs := [7]) (by kernel_rfl) (by simp) (AllReadyH.cons rfl (fun K hK => ?_) AllReadyH.nil)
              · go_simp
                refine hK.out _ _ ?_ (fun hHeld6 => ?_)
                · ((try dsimp only); (refine ⟨?_, ?_⟩ <;> go_simp))
                clear hK K hHeld5
                (try simp only [Act.put, List.setIfInBounds_toArray, List.set_cons_zero, List.set_cons_succ, List.getElem_toArray, List.getElem_cons_succ, List.getElem_cons_zero])
                refine wpAnyH_done (by kernel_rfl) ?_ _
                go_wp2_with fail
                go_meet
                refine ⟨_, _, rfl, rfl, ?_, ?_, ?_, ?_, (by repeat' (first | (with_reducible exact Below.refl _ _) | (with_reducible assumption) | (with_reducible refine Below.alloc ?_ ?_ _) | (with_reducible refine Below.drew ?_) | (with_reducible refine below_drewN ?_ _) | (with_reducible refine Below.setCell ?_ ?_ _) | (with_reducible refine below_setRow' ?_ ?_ _) | go_size))⟩
                all_goals go_simp
        · go_simp
          refine hK.out _ _ ?_ (fun hHeld3 => ?_)
          · ((try dsimp only); (refine ⟨?_, ?_⟩ <;> go_simp))
          clear hK K hHeld2
          (try simp only [Act.put, List.setIfInBounds_toArray, List.set_cons_zero, List.set_cons_succ, List.getElem_toArray, List.getElem_cons_succ, List.getElem_cons_zero])
          refine wpAnyH_ready (rs := [3]) (by kernel_rfl) (by simp) (AllReadyH.cons rfl (fun K hK => ?_) AllReadyH.nil)
          · go_simp
            go_wp2_with (first
              | (go_at_call 44; (with_reducible refine (implAs16_16 (b4 := b4) (o4 := o4) (b6 := b6) (o6 := o6) b' HB'.out _ ?_).mono ?_); (exact HG.out.below (by repeat' (first | (with_reducible exact Below.refl _ _) | (with_reducible assumption) | (with_reducible refine Below.alloc ?_ ?_ _) | (with_reducible refine Below.drew ?_) | (with_reducible refine below_drewN ?_ _) | (with_reducible refine Below.setCell ?_ ?_ _) | (with_reducible refine below_setRow' ?_ ?_ _) | go_size)) (Nat.le_refl _)); rintro e wP ⟨rfl, hb1⟩; have hk1 := blk?_below hb1; (try simp only [size_drew', size_drewN'] at hk1); have hB1 := below_via (w := w) (by repeat' (first | (with_reducible exact Below.refl _ _) | (with_reducible assumption) | (with_reducible refine Below.alloc ?_ ?_ _) | (with_reducible refine Below.drew ?_) | (with_reducible refine below_drewN ?_ _) | (with_reducible refine Below.setCell ?_ ?_ _) | (with_reducible refine below_setRow' ?_ ?_ _) | go_size)) hb1; have hL0 : w.heap.size < wP.heap.size := (by have hS0 := hb1.size; (try simp at hS0); omega); have hL1 : w.heap.size + 1 < wP.heap.size := (by have hS0 := hb1.size; (try simp at hS0); omega); have hLe : w.heap.size ≤ wP.heap.size := hB1.size; have hS9 := hb1.size; (try simp [Nat.add_one_le_iff] at hS9); (try (have hS8 := Nat.lt_of_succ_lt hS9)); (try (have hT0 : w1.heap.size < wP.heap.size := (by have hS0 := hb1.size; (try simp at hS0); omega))); (try (have hT1 : w1.heap.size + 1 < wP.heap.size := (by have hS0 := hb1.size; (try simp at hS0); omega))); (try (have hT2 : wN.heap.size < wP.heap.size := (by have hS0 := hb1.size; (try simp at hS0); omega))); (try (have hT3 : wN.heap.size + 1 < wP.heap.size := (by have hS0 := hb1.size; (try simp at hS0); omega))); have hQ0a : w.heap.size < wP.heap.size + 1 := (by omega); have hQ0b : w.heap.size < wP.heap.size + 1 + 1 := (by omega); have hQ1a : w.heap.size + 1 < wP.heap.size + 1 := (by omega); have hQ1b : w.heap.size + 1 < wP.heap.size + 1 + 1 := (by omega); clear hb1))
            refine hK.out _ _ ?_ (fun hHeld4 => ?_)
            · ((try dsimp only); (refine ⟨?_, ?_⟩ <;> go_simp))
            clear hK K hHeld3
            (try simp only [Act.put, List.setIfInBounds_toArray, List.set_cons_zero, List.set_cons_succ, List.getElem_toArray, List.getElem_cons_succ, List.getElem_cons_zero])
            refine wpAnyH_ready (rs := [6]) (by kernel_rfl) (by simp) (AllReadyH.cons rfl (fun K hK => ?_) AllReadyH.nil)
            · go_simp
              refine hK.out _ _ ?_ (fun hHeld5 => ?_)
              · ((try dsimp only); (refine ⟨?_, ?_⟩ <;> go_simp))
              clear hK K hHeld4
              (try simp only [Act.put, List.setIfInBounds_toArray, List.set_cons_zero, List.set_cons_succ, List.getElem_toArray, List.getElem_cons_succ, List.getElem_cons_zero])
              refine wpAnyH_ready (rs := [7]) (by kernel_rfl) (by simp) (AllReadyH.cons rfl (fun K hK => ?_) AllReadyH.nil)
              · go_simp
                refine hK.out _ _ ?_ (fun hHeld6 => ?_)
                · ((try dsimp only); (refine ⟨?_, ?_⟩ <;> go_simp))
                clear hK K hHeld5
                (try simp only [Act.put, List.setIfInBounds_toArray, List.set_cons_zero, List.set_cons_succ, List.getElem_toArray, List.getElem_cons_succ, List.getElem_cons_zero])
                refine wpAnyH_done (by kernel_rfl) ?_ _
                go_wp2_with fail
                go_meet
                refine ⟨_, _, rfl, rfl, ?_, ?_, ?_, ?_, (by repeat' (first | (with_reducible exact Below.refl _ _) | (with_reducible assumption) | (with_reducible refine Below.alloc ?_ ?_ _) | (with_reducible refine Below.drew ?_) | (with_reducible refine below_drewN ?_ _) | (with_reducible refine Below.setCell ?_ ?_ _) | (with_reducible refine below_setRow' ?_ ?_ _) | go_size))⟩
                all_goals go_simp
      · go_simp
        refine hK.out _ _ ?_ (fun hHeld2 => ?_)
        · ((try dsimp only); (refine ⟨?_, ?_⟩ <;> go_simp))
        clear hK K hHeld1
        (try simp only [Act.put, List.setIfInBounds_toArray, List.set_cons_zero, List.set_cons_succ, List.getElem_toArray, List.getElem_cons_succ, List.getElem_cons_zero])
        refine wpAnyH_ready (rs := [1]) (by kernel_rfl) (by simp) (AllReadyH.cons rfl (fun K hK => ?_) AllReadyH.nil)
        · go_simp
          go_wp2_with (first
            | (go_at_call 44; (with_reducible refine (implAs16_16 (b4 := b4) (o4 := o4) (b6 := b6) (o6 := o6) b HB.out _ ?_).mono ?_); (exact HG.out.below (by repeat' (first | (with_reducible exact Below.refl _ _) | (with_reducible assumption) | (with_reducible refine Below.alloc ?_ ?_ _) | (with_reducible refine Below.drew ?_) | (with_reducible refine below_drewN ?_ _) | (with_reducible refine Below.setCell ?_ ?_ _) | (with_reducible refine below_setRow' ?_ ?_ _) | go_size)) (Nat.le_refl _)); rintro e wN ⟨rfl, hb1⟩; have hk1 := blk?_below hb1; (try simp only [size_drew', size_drewN'] at hk1); have hB1 := below_via (w := w) (by repeat' (first | (with_reducible exact Below.refl _ _) | (with_reducible assumption) | (with_reducible refine Below.alloc ?_ ?_ _) | (with_reducible refine Below.drew ?_) | (with_reducible refine below_drewN ?_ _) | (with_reducible refine Below.setCell ?_ ?_ _) | (with_reducible refine below_setRow' ?_ ?_ _) | go_size)) hb1; have hL0 : w.heap.size < wN.heap.size := (by have hS0 := hb1.size; (try simp at hS0); omega); have hL1 : w.heap.size + 1 < wN.heap.size := (by have hS0 := hb1.size; (try simp at hS0); omega); have hLe : w.heap.size ≤ wN.heap.size := hB1.size; have hS9 := hb1.size; (try simp [Nat.add_one_le_iff] at hS9); (try (have hS8 := Nat.lt_of_succ_lt hS9)); have hQ0a : w.heap.size < wN.heap.size + 1 := (by omega); have hQ0b : w.heap.size < wN.heap.size + 1 + 1 := (by omega); have hQ1a : w.heap.size + 1 < wN.heap.size + 1 := (by omega); have hQ1b : w.heap.size + 1 < wN.heap.size + 1 + 1 := (by omega); clear hb1))
          refine hK.out _ _ ?_ (fun hHeld3 => ?_)
          · ((try dsimp only); (refine ⟨?_, ?_⟩ <;> go_simp))
          clear hK K hHeld2
          (try simp only [Act.put, List.setIfInBounds_toArray, List.set_cons_zero, List.set_cons_succ, List.getElem_toArray, List.getElem_cons_succ, List.getElem_cons_zero])
          refine wpAnyH_ready (rs := [3]) (by kernel_rfl) (by simp) (AllReadyH.cons rfl (fun K hK => ?_) AllReadyH.nil)
          · go_simp
            go_wp2_with (first
              | (go_at_call 44; (with_reducible refine (implAs16_16 (b4 := b4) (o4 := o4) (b6 := b6) (o6 := o6) b' HB'.out _ ?_).mono ?_); (exact HG.out.below (by repeat' (first | (with_reducible exact Below.refl _ _) | (with_reducible assumption) | (with_reducible refine Below.alloc ?_ ?_ _) | (with_reducible refine Below.drew ?_) | (with_reducible refine below_drewN ?_ _) | (with_reducible refine Below.setCell ?_ ?_ _) | (with_reducible refine below_setRow' ?_ ?_ _) | go_size)) (Nat.le_refl _)); rintro e wP ⟨rfl, hb1⟩; have hk1 := blk?_below hb1; (try simp only [size_drew', size_drewN'] at hk1); have hB1 := below_via (w := w) (by repeat' (first | (with_reducible exact Below.refl _ _) | (with_reducible assumption) | (with_reducible refine Below.alloc ?_ ?_ _) | (with_reducible refine Below.drew ?_) | (with_reducible refine below_drewN ?_ _) | (with_reducible refine Below.setCell ?_ ?_ _) | (with_reducible refine below_setRow' ?_ ?_ _) | go_size)) hb1; have hL0 : w.heap.size < wP.heap.size := (by have hS0 := hb1.size; (try simp at hS0); omega); have hL1 : w.heap.size + 1 < wP.heap.size := (by have hS0 := hb1.size; (try simp at hS0); omega); have hLe : w.heap.size ≤ wP.heap.size := hB1.size; have hS9 := hb1.size; (try simp [Nat.add_one_le_iff] at hS9); (try (have hS8 := Nat.lt_of_succ_lt hS9)); (try (have hT0 : w1.heap.size < wP.heap.size := (by have hS0 := hb1.size; (try simp at hS0); omega))); (try (have hT1 : w1.heap.size + 1 < wP.heap.size := (by have hS0 := hb1.size; (try simp at hS0); omega))); (try (have hT2 : wN.heap.size < wP.heap.size := (by have hS0 := hb1.size; (try simp at hS0); omega))); (try (have hT3 : wN.heap.size + 1 < wP.heap.size := (by have hS0 := hb1.size; (try simp at hS0); omega))); have hQ0a : w.heap.size < wP.heap.size + 1 := (by omega); have hQ0b : w.heap.size < wP.heap.size + 1 + 1 := (by omega); have hQ1a : w.heap.size + 1 < wP.heap.size + 1 := (by omega); have hQ1b : w.heap.size + 1 < wP.heap.size + 1 + 1 := (by omega); clear hb1))
            refine hK.out _ _ ?_ (fun hHeld4 => ?_)
            · ((try dsimp only); (refine ⟨?_, ?_⟩ <;> go_simp))
            clear hK K hHeld3
            (try simp only [Act.put, List.setIfInBounds_toArray, List.set_cons_zero, List.set_cons_succ, List.getElem_toArray, List.getElem_cons_succ, List.getElem_cons_zero])
            refine wpAnyH_ready (rs := [6]) (by kernel_rfl) (by simp) (AllReadyH.cons rfl (fun K hK => ?_) AllReadyH.nil)
            · go_simp
              refine hK.out _ _ ?_ (fun hHeld5 => ?_)
              · ((try dsimp only); (refine ⟨?_, ?_⟩ <;> go_simp))
              clear hK K hHeld4
              (try simp only [Act.put, List.setIfInBounds_toArray, List.set_cons_zero, List.set_cons_succ, List.getElem_toArray, List.getElem_cons_succ, List.getElem_cons_zero])
              refine wpAnyH_ready (rs := [7]) (by kernel_rfl) (by simp) (AllReadyH.cons rfl (fun K hK => ?_) AllReadyH.nil)
              · go_simp
                refine hK.out _ _ ?_ (fun hHeld6 => ?_)
                · ((try dsimp only); (refine ⟨?_, ?_⟩ <;> go_simp))
                clear hK K hHeld5
                (try simp only [Act.put, List.setIfInBounds_toArray, List.set_cons_zero, List.set_cons_succ, List.getElem_toArray, List.getElem_cons_succ, List.getElem_cons_zero])
                refine wpAnyH_done (by kernel_rfl) ?_ _
                go_wp2_with fail
                go_meet
                refine ⟨_, _, rfl, rfl, ?_, ?_, ?_, ?_, (by repeat' (first | (with_reducible exact Below.refl _ _) | (with_reducible assumption) | (with_reducible refine Below.alloc ?_ ?_ _) | (with_reducible refine Below.drew ?_) | (with_reducible refine below_drewN ?_ _) | (with_reducible refine Below.setCell ?_ ?_ _) | (with_reducible refine below_setRow' ?_ ?_ _) | go_size))⟩
                all_goals go_simp
  case rest =>
    obtain ⟨g5, g6, rfl, rfl, k0, k1, k5, k6, hB⟩ := hcut
    have hl0 := blk?_lt k0
    have hl1 := blk?_lt k1
    have hl5 := blk?_lt k5
    have hl6 := blk?_lt k6
    go_wp2_with (first
      | (go_at_call 45; (with_reducible refine (iCompareV16 (b4 := b4) (o4 := o4) (b6 := b6) (o6 := o6) b b' HB.out HB'.out v HV.out _ ?_).mono ?_); (exact HG.out.below (by repeat' (first | (with_reducible exact Below.refl _ _) | (with_reducible assumption) | (with_reducible refine Below.alloc ?_ ?_ _) | (with_reducible refine Below.drew ?_) | (with_reducible refine below_drewN ?_ _) | (with_reducible refine Below.setCell ?_ ?_ _) | (with_reducible refine below_setRow' ?_ ?_ _) | go_size)) (Nat.le_refl _)); rintro e w1 ⟨rfl, hb1⟩; have hk1 := blk?_below hb1; (try simp only [size_drew', size_drewN'] at hk1); have hB1 := below_via (w := w) (by repeat' (first | (with_reducible exact Below.refl _ _) | (with_reducible assumption) | (with_reducible refine Below.alloc ?_ ?_ _) | (with_reducible refine Below.drew ?_) | (with_reducible refine below_drewN ?_ _) | (with_reducible refine Below.setCell ?_ ?_ _) | (with_reducible refine below_setRow' ?_ ?_ _) | go_size)) hb1; have hL0 : w.heap.size < w1.heap.size := (by have hS0 := hb1.size; (try simp at hS0); omega); have hL1 : w.heap.size + 1 < w1.heap.size := (by have hS0 := hb1.size; (try simp at hS0); omega); have hL2 : g5 < w1.heap.size := (by have hS0 := hb1.size; (try simp at hS0); omega); have hL3 : g6 < w1.heap.size := (by have hS0 := hb1.size; (try simp at hS0); omega); have hLe : w.heap.size ≤ w1.heap.size := hB1.size; clear hb1))
    refine wp_region_held_drew (S := fun w' => blk? w' (w.heap.size) = some (adr 16 b ⟨#[]⟩) ∧ blk? w' (w.heap.size + 1) = some (adr 16 b' ⟨#[]⟩) ∧ blk? w' (g5) = some (arr16 (b16of (be8f b 0) (be8f b 8))) ∧ blk? w' (g6) = some (arr16 (b16of (be8f b' 0) (be8f b' 8)))) (by kernel_rfl) ?_ (fun hHeld0 => ?_)
    · ((try dsimp only); (refine ⟨?_, ?_, ?_, ?_⟩ <;> go_simp))
    refine wpAnyH_take (i := 0) (oi := _) (v := ?_) rfl (by kernel_rfl) (by kernel_rfl) (by kernel_rfl) (fun _ _ _ h => h) (Or.inl ⟨by rfl, ?_⟩) (by assumption) ?_
    rotate_left 1
    · (intro w hSw; (try dsimp only at hSw); (try simp only [List.getElem_toArray, List.getElem_cons_succ, List.getElem_cons_zero]); first | (go_simp; done) | (go_simp; with_reducible rfl))
    (try simp only [Act.put, List.setIfInBounds_toArray, List.set_cons_zero, List.set_cons_succ, List.getElem_toArray, List.getElem_cons_succ, List.getElem_cons_zero])
    refine wpAnyH_take (i := 1) (oi := _) (v := ?_) rfl (by kernel_rfl) (by kernel_rfl) (by kernel_rfl) (fun _ _ _ h => h) (Or.inl ⟨by rfl, ?_⟩) (by assumption) ?_
    rotate_left 1
    · (intro w hSw; (try dsimp only at hSw); (try simp only [List.getElem_toArray, List.getElem_cons_succ, List.getElem_cons_zero]); first | (go_simp; done) | (go_simp; with_reducible rfl))
    (try simp only [Act.put, List.setIfInBounds_toArray, List.set_cons_zero, List.set_cons_succ, List.getElem_toArray, List.getElem_cons_succ, List.getElem_cons_zero])
    refine wpAnyH_take (i := 2) (oi := _) (v := ?_) rfl (by kernel_rfl) (by kernel_rfl) (by kernel_rfl) (fun _ _ _ h => h) (Or.inl ⟨by rfl, ?_⟩) (by assumption) ?_
    rotate_left 1
    · (intro w hSw; (try dsimp only at hSw); (try simp only [List.getElem_toArray, List.getElem_cons_succ, List.getElem_cons_zero]); first | (go_simp; done) | (go_simp; with_reducible rfl))
    (try simp only [Act.put, List.setIfInBounds_toArray, List.set_cons_zero, List.set_cons_succ, List.getElem_toArray, List.getElem_cons_succ, List.getElem_cons_zero])
    refine wpAnyH_ready (rs := [3]) (by kernel_rfl) (by simp) (AllReadyH.cons rfl (fun K hK => ?_) AllReadyH.nil)
    go_simp
    go_wp2_with (first
      | (go_at_call 46; (with_reducible refine (bcmp (b16of (be8f b 0) (be8f b 8)) (b16of (be8f b' 0) (be8f b' 8)) HX.out HY.out g5 g6 16 _ _ v HV16.out _ (rowc16 ?_) (rowc16 ?_)).mono ?_); (go_simp); (go_simp); rintro e w1 ⟨rfl, hb1⟩; have hk1 := blk?_below hb1; (try simp only [size_drew', size_drewN'] at hk1); have hB1 := below_via (w := w) (by repeat' (first | (with_reducible exact Below.refl _ _) | (with_reducible assumption) | (with_reducible refine Below.alloc ?_ ?_ _) | (with_reducible refine Below.drew ?_) | (with_reducible refine below_drewN ?_ _) | (with_reducible refine Below.setCell ?_ ?_ _) | (with_reducible refine below_setRow' ?_ ?_ _) | go_size)) hb1; have hL0 : w.heap.size < w1.heap.size := (by have hS0 := hb1.size; (try simp at hS0); omega); have hL1 : w.heap.size + 1 < w1.heap.size := (by have hS0 := hb1.size; (try simp at hS0); omega); have hL2 : g5 < w1.heap.size := (by have hS0 := hb1.size; (try simp at hS0); omega); have hL3 : g6 < w1.heap.size := (by have hS0 := hb1.size; (try simp at hS0); omega); have hLe : w.heap.size ≤ w1.heap.size := hB1.size; clear hb1))
    refine hK.out _ _ ?_ (fun hHeld1 => ?_)
    · ((try dsimp only); (refine ⟨?_, ?_, ?_, ?_⟩ <;> go_simp))
    clear hK K hHeld0
    (try simp only [Act.put, List.setIfInBounds_toArray, List.set_cons_zero, List.set_cons_succ, List.getElem_toArray, List.getElem_cons_succ, List.getElem_cons_zero])
    refine wpAnyH_take (i := 4) (oi := _) (v := ?_) rfl (by kernel_rfl) (by kernel_rfl) (by kernel_rfl) (fun _ _ _ h => h) (Or.inl ⟨by rfl, ?_⟩) (by assumption) ?_
    rotate_left 1
    · (intro w hSw; (try dsimp only at hSw); (try simp only [List.getElem_toArray, List.getElem_cons_succ, List.getElem_cons_zero]); first | (go_simp; done) | (go_simp; with_reducible rfl))
    (try simp only [Act.put, List.setIfInBounds_toArray, List.set_cons_zero, List.set_cons_succ, List.getElem_toArray, List.getElem_cons_succ, List.getElem_cons_zero])
    refine wpAnyH_take (i := 5) (oi := _) (v := ?_) rfl (by kernel_rfl) (by kernel_rfl) (by kernel_rfl) (fun _ _ _ h => h) (Or.inl ⟨by rfl, ?_⟩) (by assumption) ?_
    rotate_left 1
    · (intro w hSw; (try dsimp only at hSw); (try simp only [List.getElem_toArray, List.getElem_cons_succ, List.getElem_cons_zero]); first | (go_simp; done) | (go_simp; with_reducible rfl))
    (try simp only [Act.put, List.setIfInBounds_toArray, List.set_cons_zero, List.set_cons_succ, List.getElem_toArray, List.getElem_cons_succ, List.getElem_cons_zero])
    refine wpAnyH_take (i := 6) (oi := _) (v := ?_) rfl (by kernel_rfl) (by kernel_rfl) (by kernel_rfl) (fun _ _ _ h => h) (Or.inl ⟨by rfl, ?_⟩) (by assumption) ?_
    rotate_left 1
    · (intro w hSw; (try dsimp only at hSw); (try simp only [List.getElem_toArray, List.getElem_cons_succ, List.getElem_cons_zero]); first | (go_simp; done) | (go_simp; with_reducible rfl))
    (try simp only [Act.put, List.setIfInBounds_toArray, List.set_cons_zero, List.set_cons_succ, List.getElem_toArray, List.getElem_cons_succ, List.getElem_cons_zero])
    refine wpAnyH_take (i := 7) (oi := _) (v := ?_) rfl (by kernel_rfl) (by kernel_rfl) (by kernel_rfl) (fun _ _ _ h => h) (Or.inl ⟨by rfl, ?_⟩) (by assumption) ?_
    rotate_left 1
    · (intro w hSw; (try dsimp only at hSw); (try simp only [List.getElem_toArray, List.getElem_cons_succ, List.getElem_cons_zero]); first | (go_simp; done) | (go_simp; with_reducible rfl))
    (try simp only [Act.put, List.setIfInBounds_toArray, List.set_cons_zero, List.set_cons_succ, List.getElem_toArray, List.getElem_cons_succ, List.getElem_cons_zero])
    refine wpAnyH_take (i := 9) (oi := _) (v := ?_) rfl (by kernel_rfl) (by kernel_rfl) (by kernel_rfl) (fun _ _ _ h => h) (Or.inl ⟨by rfl, ?_⟩) (by assumption) ?_
    rotate_left 1
    · (intro w hSw; (try dsimp only at hSw); (try simp only [List.getElem_toArray, List.getElem_cons_succ, List.getElem_cons_zero]); first | (go_simp; done) | (go_simp; with_reducible rfl))
    (try simp only [Act.put, List.setIfInBounds_toArray, List.set_cons_zero, List.set_cons_succ, List.getElem_toArray, List.getElem_cons_succ, List.getElem_cons_zero])
    refine wpAnyH_ready (rs := [8]) (by kernel_rfl) (by simp) (AllReadyH.cons rfl (fun K hK => ?_) AllReadyH.nil)
    go_simp
    go_wp2_with (first
      | (go_at_call 35; (with_reducible refine (implAsSlice_16 (b4 := b4) (o4 := o4) (b6 := b6) (o6 := o6) b HB.out _ ?_).mono ?_); (exact HG.out.below (by repeat' (first | (with_reducible exact Below.refl _ _) | (with_reducible assumption) | (with_reducible refine Below.alloc ?_ ?_ _) | (with_reducible refine Below.drew ?_) | (with_reducible refine below_drewN ?_ _) | (with_reducible refine Below.setCell ?_ ?_ _) | (with_reducible refine below_setRow' ?_ ?_ _) | go_size)) (Nat.le_refl _)); rintro e wA ⟨ga, hga, rfl, kga, hb1⟩; have hk1 := blk?_below hb1; (try simp only [size_drew', size_drewN'] at hk1); have hB1 := below_via (w := w) (by repeat' (first | (with_reducible exact Below.refl _ _) | (with_reducible assumption) | (with_reducible refine Below.alloc ?_ ?_ _) | (with_reducible refine Below.drew ?_) | (with_reducible refine below_drewN ?_ _) | (with_reducible refine Below.setCell ?_ ?_ _) | (with_reducible refine below_setRow' ?_ ?_ _) | go_size)) hb1; have hL0 : w.heap.size < wA.heap.size := (by have hS0 := hb1.size; (try simp at hS0); omega); have hL1 : w.heap.size + 1 < wA.heap.size := (by have hS0 := hb1.size; (try simp at hS0); omega); have hL2 : g5 < wA.heap.size := (by have hS0 := hb1.size; (try simp at hS0); omega); have hL3 : g6 < wA.heap.size := (by have hS0 := hb1.size; (try simp at hS0); omega); have hLe : w.heap.size ≤ wA.heap.size := hB1.size; have hlga := blk?_lt kga; clear hb1))
    refine hK.out _ _ ?_ (fun hHeld2 => ?_)
    · ((try dsimp only); (refine ⟨?_, ?_, ?_, ?_⟩ <;> go_simp))
    clear hK K hHeld1
    (try simp only [Act.put, List.setIfInBounds_toArray, List.set_cons_zero, List.set_cons_succ, List.getElem_toArray, List.getElem_cons_succ, List.getElem_cons_zero])
    refine wpAnyH_ready (rs := [10]) (by kernel_rfl) (by simp) (AllReadyH.cons rfl (fun K hK => ?_) AllReadyH.nil)
    go_simp
    go_wp2_with (first
      | (go_at_call 35; (with_reducible refine (implAsSlice_16 (b4 := b4) (o4 := o4) (b6 := b6) (o6 := o6) b' HB'.out _ ?_).mono ?_); (exact HG.out.below (by repeat' (first | (with_reducible exact Below.refl _ _) | (with_reducible assumption) | (with_reducible refine Below.alloc ?_ ?_ _) | (with_reducible refine Below.drew ?_) | (with_reducible refine below_drewN ?_ _) | (with_reducible refine Below.setCell ?_ ?_ _) | (with_reducible refine below_setRow' ?_ ?_ _) | go_size)) (Nat.le_refl _)); rintro e wB ⟨gb, hgb, rfl, kgb, hb1⟩; have hk1 := blk?_below hb1; (try simp only [size_drew', size_drewN'] at hk1); have hB1 := below_via (w := w) (by repeat' (first | (with_reducible exact Below.refl _ _) | (with_reducible assumption) | (with_reducible refine Below.alloc ?_ ?_ _) | (with_reducible refine Below.drew ?_) | (with_reducible refine below_drewN ?_ _) | (with_reducible refine Below.setCell ?_ ?_ _) | (with_reducible refine below_setRow' ?_ ?_ _) | go_size)) hb1; have hL0 : w.heap.size < wB.heap.size := (by have hS0 := hb1.size; (try simp at hS0); omega); have hL1 : w.heap.size + 1 < wB.heap.size := (by have hS0 := hb1.size; (try simp at hS0); omega); have hL2 : g5 < wB.heap.size := (by have hS0 := hb1.size; (try simp at hS0); omega); have hL3 : g6 < wB.heap.size := (by have hS0 := hb1.size; (try simp at hS0); omega); have hL4 : ga < wB.heap.size := (by have hS0 := hb1.size; (try simp at hS0); omega); have hLe : w.heap.size ≤ wB.heap.size := hB1.size; have hlgb := blk?_lt kgb; clear hb1))
    refine hK.out _ _ ?_ (fun hHeld3 => ?_)
    · ((try dsimp only); (refine ⟨?_, ?_, ?_, ?_⟩ <;> go_simp))
    clear hK K hHeld2
    (try simp only [Act.put, List.setIfInBounds_toArray, List.set_cons_zero, List.set_cons_succ, List.getElem_toArray, List.getElem_cons_succ, List.getElem_cons_zero])
    refine wpAnyH_ready (rs := [11]) (by kernel_rfl) (by simp) (AllReadyH.cons rfl (fun K hK => ?_) AllReadyH.nil)
    go_simp
    go_wp2_with (first
      | (go_at_call 46; (with_reducible refine (bcmp b b' HB.out HB'.out ga gb 16 _ _ v HVn.out _ (rowc16 ?_) (rowc16 ?_)).mono ?_); (go_simp); (go_simp); rintro e w1 ⟨rfl, hb1⟩; have hk1 := blk?_below hb1; (try simp only [size_drew', size_drewN'] at hk1); have hB1 := below_via (w := w) (by repeat' (first | (with_reducible exact Below.refl _ _) | (with_reducible assumption) | (with_reducible refine Below.alloc ?_ ?_ _) | (with_reducible refine Below.drew ?_) | (with_reducible refine below_drewN ?_ _) | (with_reducible refine Below.setCell ?_ ?_ _) | (with_reducible refine below_setRow' ?_ ?_ _) | go_size)) hb1; have hL0 : w.heap.size < w1.heap.size := (by have hS0 := hb1.size; (try simp at hS0); omega); have hL1 : w.heap.size + 1 < w1.heap.size := (by have hS0 := hb1.size; (try simp at hS0); omega); have hL2 : g5 < w1.heap.size := (by have hS0 := hb1.size; (try simp at hS0); omega); have hL3 : g6 < w1.heap.size := (by have hS0 := hb1.size; (try simp at hS0); omega); have hL4 : ga < w1.heap.size := (by have hS0 := hb1.size; (try simp at hS0); omega); have hL5 : gb < w1.heap.size := (by have hS0 := hb1.size; (try simp at hS0); omega); have hLe : w.heap.size ≤ w1.heap.size := hB1.size; clear hb1))
    refine hK.out _ _ ?_ (fun hHeld4 => ?_)
    · ((try dsimp only); (refine ⟨?_, ?_, ?_, ?_⟩ <;> go_simp))
    clear hK K hHeld3
    (try simp only [Act.put, List.setIfInBounds_toArray, List.set_cons_zero, List.set_cons_succ, List.getElem_toArray, List.getElem_cons_succ, List.getElem_cons_zero])
    refine wpAnyH_take (i := 12) (oi := _) (v := ?_) rfl (by kernel_rfl) (by kernel_rfl) (by kernel_rfl) (fun _ _ _ h => h) (Or.inl ⟨by rfl, ?_⟩) (by assumption) ?_
    rotate_left 1
    · (intro w hSw; (try dsimp only at hSw); (try simp only [List.getElem_toArray, List.getElem_cons_succ, List.getElem_cons_zero]); first | (go_simp; done) | (go_simp; with_reducible rfl))
    (try simp only [Act.put, List.setIfInBounds_toArray, List.set_cons_zero, List.set_cons_succ, List.getElem_toArray, List.getElem_cons_succ, List.getElem_cons_zero])
    refine wpAnyH_take (i := 13) (oi := _) (v := ?_) rfl (by kernel_rfl) (by kernel_rfl) (by kernel_rfl) (fun _ _ _ h => h) (Or.inl ⟨by rfl, ?_⟩) (by assumption) ?_
    rotate_left 1
    · (intro w hSw; (try dsimp only at hSw); (try simp only [List.getElem_toArray, List.getElem_cons_succ, List.getElem_cons_zero]); first | (go_simp; done) | (go_simp; with_reducible rfl))
    (try simp only [Act.put, List.setIfInBounds_toArray, List.set_cons_zero, List.set_cons_succ, List.getElem_toArray, List.getElem_cons_succ, List.getElem_cons_zero])
    refine wpAnyH_take (i := 14) (oi := _) (v := ?_) rfl (by kernel_rfl) (by kernel_rfl) (by kernel_rfl) (fun _ _ _ h => h) (Or.inl ⟨by rfl, ?_⟩) (by assumption) ?_
    rotate_left 1
    · (intro w hSw; (try dsimp only at hSw); (try simp only [List.getElem_toArray, List.getElem_cons_succ, List.getElem_cons_zero]); first | (go_simp; done) | (go_simp; with_reducible rfl))
    (try simp only [Act.put, List.setIfInBounds_toArray, List.set_cons_zero, List.set_cons_succ, List.getElem_toArray, List.getElem_cons_succ, List.getElem_cons_zero])
    refine wpAnyH_take (i := 15) (oi := _) (v := ?_) rfl (by kernel_rfl) (by kernel_rfl) (by kernel_rfl) (fun _ _ _ h => h) (Or.inl ⟨by rfl, ?_⟩) (by assumption) ?_
    rotate_left 1
    · (intro w hSw; (try dsimp only at hSw); (try simp only [List.getElem_toArray, List.getElem_cons_succ, List.getElem_cons_zero]); first | (go_simp; done) | (go_simp; with_reducible rfl))
    (try simp only [Act.put, List.setIfInBounds_toArray, List.set_cons_zero, List.set_cons_succ, List.getElem_toArray, List.getElem_cons_succ, List.getElem_cons_zero])
    refine wpAnyH_take (i := 18) (oi := _) (v := ?_) rfl (by kernel_rfl) (by kernel_rfl) (by kernel_rfl) (fun _ _ _ h => h) (Or.inl ⟨by rfl, ?_⟩) (by assumption) ?_
    rotate_left 1
    · (intro w hSw; (try dsimp only at hSw); (try simp only [List.getElem_toArray, List.getElem_cons_succ, List.getElem_cons_zero]); first | (go_simp; done) | (go_simp; with_reducible rfl))
    (try simp only [Act.put, List.setIfInBounds_toArray, List.set_cons_zero, List.set_cons_succ, List.getElem_toArray, List.getElem_cons_succ, List.getElem_cons_zero])
    refine wpAnyH_ready (rs := [16]) (by kernel_rfl) (by simp) (AllReadyH.cons rfl (fun K hK => ?_) AllReadyH.nil)
    go_simp
    go_wp2_with (first
      | (go_at_call 35; (with_reducible refine (implAsSlice_16 (b4 := b4) (o4 := o4) (b6 := b6) (o6 := o6) b HB.out _ ?_).mono ?_); (exact HG.out.below (by repeat' (first | (with_reducible exact Below.refl _ _) | (with_reducible assumption) | (with_reducible refine Below.alloc ?_ ?_ _) | (with_reducible refine Below.drew ?_) | (with_reducible refine below_drewN ?_ _) | (with_reducible refine Below.setCell ?_ ?_ _) | (with_reducible refine below_setRow' ?_ ?_ _) | go_size)) (Nat.le_refl _)); rintro e wD ⟨gc, hgc, rfl, kgc, hb1⟩; have hk1 := blk?_below hb1; (try simp only [size_drew', size_drewN'] at hk1); have hB1 := below_via (w := w) (by repeat' (first | (with_reducible exact Below.refl _ _) | (with_reducible assumption) | (with_reducible refine Below.alloc ?_ ?_ _) | (with_reducible refine Below.drew ?_) | (with_reducible refine below_drewN ?_ _) | (with_reducible refine Below.setCell ?_ ?_ _) | (with_reducible refine below_setRow' ?_ ?_ _) | go_size)) hb1; have hL0 : w.heap.size < wD.heap.size := (by have hS0 := hb1.size; (try simp at hS0); omega); have hL1 : w.heap.size + 1 < wD.heap.size := (by have hS0 := hb1.size; (try simp at hS0); omega); have hL2 : g5 < wD.heap.size := (by have hS0 := hb1.size; (try simp at hS0); omega); have hL3 : g6 < wD.heap.size := (by have hS0 := hb1.size; (try simp at hS0); omega); have hLe : w.heap.size ≤ wD.heap.size := hB1.size; have hlgc := blk?_lt kgc; clear hb1))
    refine hK.out _ _ ?_ (fun hHeld5 => ?_)
    · ((try dsimp only); (refine ⟨?_, ?_, ?_, ?_⟩ <;> go_simp))
    clear hK K hHeld4
    (try simp only [Act.put, List.setIfInBounds_toArray, List.set_cons_zero, List.set_cons_succ, List.getElem_toArray, List.getElem_cons_succ, List.getElem_cons_zero])
    refine wpAnyH_take (i := 17) (oi := _) (v := ?_) rfl (by kernel_rfl) (by kernel_rfl) (by kernel_rfl) (fun _ _ _ h => h) (Or.inl ⟨by rfl, ?_⟩) (by assumption) ?_
    rotate_left 1
    · (intro w hSw; (try dsimp only at hSw); (try simp only [List.getElem_toArray, List.getElem_cons_succ, List.getElem_cons_zero]); first | (go_simp; done) | (go_simp; with_reducible rfl))
    (try simp only [Act.put, List.setIfInBounds_toArray, List.set_cons_zero, List.set_cons_succ, List.getElem_toArray, List.getElem_cons_succ, List.getElem_cons_zero])
    refine wpAnyH_ready (rs := [19]) (by kernel_rfl) (by simp) (AllReadyH.cons rfl (fun K hK => ?_) AllReadyH.nil)
    go_simp
    go_wp2_with (first
      | (go_at_call 47; (with_reducible refine (lsame_16 _ _ _).mono ?_); rintro e w1 ⟨rfl, hb1⟩; have hk1 := blk?_below hb1; (try simp only [size_drew', size_drewN'] at hk1); have hB1 := below_via (w := w) (by repeat' (first | (with_reducible exact Below.refl _ _) | (with_reducible assumption) | (with_reducible refine Below.alloc ?_ ?_ _) | (with_reducible refine Below.drew ?_) | (with_reducible refine below_drewN ?_ _) | (with_reducible refine Below.setCell ?_ ?_ _) | (with_reducible refine below_setRow' ?_ ?_ _) | go_size)) hb1; have hL0 : w.heap.size < w1.heap.size := (by have hS0 := hb1.size; (try simp at hS0); omega); have hL1 : w.heap.size + 1 < w1.heap.size := (by have hS0 := hb1.size; (try simp at hS0); omega); have hL2 : g5 < w1.heap.size := (by have hS0 := hb1.size; (try simp at hS0); omega); have hL3 : g6 < w1.heap.size := (by have hS0 := hb1.size; (try simp at hS0); omega); have hLe : w.heap.size ≤ w1.heap.size := hB1.size; clear hb1))
    refine hK.out _ _ ?_ (fun hHeld6 => ?_)
    · ((try dsimp only); (refine ⟨?_, ?_, ?_, ?_⟩ <;> go_simp))
    clear hK K hHeld5
    (try simp only [Act.put, List.setIfInBounds_toArray, List.set_cons_zero, List.set_cons_succ, List.getElem_toArray, List.getElem_cons_succ, List.getElem_cons_zero])
    refine wpAnyH_take (i := 20) (oi := _) (v := ?_) rfl (by kernel_rfl) (by kernel_rfl) (by kernel_rfl) (fun _ _ _ h => h) (Or.inl ⟨by rfl, ?_⟩) (by assumption) ?_
    rotate_left 1
    · (intro w hSw; (try dsimp only at hSw); (try simp only [List.getElem_toArray, List.getElem_cons_succ, List.getElem_cons_zero]); first | (go_simp; done) | (go_simp; with_reducible rfl))
    (try simp only [Act.put, List.setIfInBounds_toArray, List.set_cons_zero, List.set_cons_succ, List.getElem_toArray, List.getElem_cons_succ, List.getElem_cons_zero])
    refine wpAnyH_take (i := 21) (oi := _) (v := ?_) rfl (by kernel_rfl) (by kernel_rfl) (by kernel_rfl) (fun _ _ _ h => h) (Or.inl ⟨by rfl, ?_⟩) (by assumption) ?_
    rotate_left 1
    · (intro w hSw; (try dsimp only at hSw); (try simp only [List.getElem_toArray, List.getElem_cons_succ, List.getElem_cons_zero]); first | (go_simp; done) | (go_simp; with_reducible rfl))
    (try simp only [Act.put, List.setIfInBounds_toArray, List.set_cons_zero, List.set_cons_succ, List.getElem_toArray, List.getElem_cons_succ, List.getElem_cons_zero])
    refine wpAnyH_take (i := 22) (oi := _) (v := ?_) rfl (by kernel_rfl) (by kernel_rfl) (by kernel_rfl) (fun _ _ _ h => h) (Or.inl ⟨by rfl, ?_⟩) (by assumption) ?_
    rotate_left 1
    · (intro w hSw; (try dsimp only at hSw); (try simp only [List.getElem_toArray, List.getElem_cons_succ, List.getElem_cons_zero]); first | (go_simp; done) | (go_simp; with_reducible rfl))
    (try simp only [Act.put, List.setIfInBounds_toArray, List.set_cons_zero, List.set_cons_succ, List.getElem_toArray, List.getElem_cons_succ, List.getElem_cons_zero])
    refine wpAnyH_take (i := 23) (oi := _) (v := ?_) rfl (by kernel_rfl) (by kernel_rfl) (by kernel_rfl) (fun _ _ _ h => h) (Or.inl ⟨by rfl, ?_⟩) (by assumption) ?_
    rotate_left 1
    · (intro w hSw; (try dsimp only at hSw); (try simp only [List.getElem_toArray, List.getElem_cons_succ, List.getElem_cons_zero]); first | (go_simp; done) | (go_simp; with_reducible rfl))
    (try simp only [Act.put, List.setIfInBounds_toArray, List.set_cons_zero, List.set_cons_succ, List.getElem_toArray, List.getElem_cons_succ, List.getElem_cons_zero])
    refine wpAnyH_done (by kernel_rfl) ?_ _
    go_wp2
    go_ret
    exact ⟨rfl, (by repeat' (first | (with_reducible exact Below.refl _ _) | (with_reducible assumption) | (with_reducible refine Below.alloc ?_ ?_ _) | (with_reducible refine Below.drew ?_) | (with_reducible refine below_drewN ?_ _) | (with_reducible refine Below.setCell ?_ ?_ _) | (with_reducible refine below_setRow' ?_ ?_ _) | go_size))⟩
theorem alike_not (n n' : Int) (b b' : Nat → Int) (z z' : ByteArray) (h : ¬ (n = 4 ∧ n' = 4) ∧ ¬ (n = 16 ∧ n' = 16 ∧ z = ⟨#[]⟩ ∧ z' = ⟨#[]⟩)) (w : World) :
    Calls Tryd.prog 43 #[.agg (adr n b z), .agg (adr n' b' z')] w fun e w' => e = .returned (.bool false) ∧ Below w.heap.size w w' := by
  by_cases h4 : n = 4
  · subst h4
    by_cases k4 : n' = 4
    · exact absurd ⟨rfl, k4⟩ h.1
    by_cases k16 : n' = 16
    · subst k16; exact alike_4_16a b z b' z' w
    · exact alike_4_0 b z n' k4 k16 b' z' w
  by_cases h16 : n = 16
  · subst h16
    by_cases k4 : n' = 4
    · subst k4; exact alike_16a_4 b z b' z' w
    by_cases k16 : n' = 16
    · subst k16
      cases hz : z.toList.isEmpty
      · exact alike_16z b z hz b' z' w
      · obtain rfl := zone_empty hz
        cases hz' : z'.toList.isEmpty
        · exact alike_16_z b b' z' hz' w
        · obtain rfl := zone_empty hz'
          exact absurd ⟨rfl, rfl, rfl, rfl⟩ h.2
    · exact alike_16a_0 b z n' k4 k16 b' z' w
  exact alike_0 n h4 h16 b z n' b' z' w
theorem v16_b16 (x y : Int) (hx : 0 ≤ x ∧ x < 18446744073709551616) (hy : 0 ≤ y ∧ y < 18446744073709551616) : v16 (b16of x y) = x * 18446744073709551616 + y := by
  unfold v16; rw [be8f_b16hi hx, be8f_b16lo hy]
set_option maxHeartbeats 4000000 in
set_option maxRecDepth 100000 in
theorem law10_f (n n' : Int) (b b' : Nat → Int) (z z' : ByteArray) (hal : ∀ w : World, Calls Tryd.prog 43 #[.agg (adr n b z), .agg (adr n' b' z')] w fun e w' => e = .returned (.bool false) ∧ Below w.heap.size w w') (w : World) :
    Calls Tryd.prog 10 #[.agg (adr n b z), .agg (adr n' b' z')] w fun e w' => e = .returned (.bool true) ∧ Below w.heap.size w w' := by
  have HA := Lib.hid hal
  clear hal
  go_enter Tryd.func10, Tryd.ntmps10
  go_wp2_with (first
    | (go_at_call 43; (with_reducible refine (HA.out _).mono ?_); rintro e w1 ⟨rfl, hb1⟩; have hk1 := blk?_below hb1; (try simp only [size_drew', size_drewN'] at hk1); have hB1 := below_via (w := w) (by repeat' (first | (with_reducible exact Below.refl _ _) | (with_reducible assumption) | (with_reducible refine Below.alloc ?_ ?_ _) | (with_reducible refine Below.drew ?_) | (with_reducible refine below_drewN ?_ _) | (with_reducible refine Below.setCell ?_ ?_ _) | (with_reducible refine below_setRow' ?_ ?_ _) | go_size)) hb1; have hL0 : w.heap.size < w1.heap.size := (by have hS0 := hb1.size; (try simp at hS0); omega); have hL1 : w.heap.size + 1 < w1.heap.size := (by have hS0 := hb1.size; (try simp at hS0); omega); have hLe : w.heap.size ≤ w1.heap.size := hB1.size; clear hb1))
  go_ret
  exact ⟨rfl, (by repeat' (first | (with_reducible exact Below.refl _ _) | (with_reducible assumption) | (with_reducible refine Below.alloc ?_ ?_ _) | (with_reducible refine Below.drew ?_) | (with_reducible refine below_drewN ?_ _) | (with_reducible refine Below.setCell ?_ ?_ _) | (with_reducible refine below_setRow' ?_ ?_ _) | go_size))⟩
theorem law10 (n : Int) (b : Nat → Int) (hb : Bt b) (z : ByteArray) (n' : Int) (b' : Nat → Int) (hb' : Bt b') (z' : ByteArray) {b4 o4 b6 o6 : Nat} (w : World) (hg : Gl b4 o4 b6 o6 w) :
    Calls Tryd.prog 10 #[.agg (adr n b z), .agg (adr n' b' z')] w fun e w' => e = .returned (.bool true) ∧ Below w.heap.size w w' := by
  by_cases h : n = 4 ∧ n' = 4
  · obtain ⟨rfl, rfl⟩ := h
    have m1 := mp_lt hb
    have m2 := mp_lt hb'
    have z0 : (0 : Int) ≤ 0 ∧ (0 : Int) < 18446744073709551616 := by omega
    refine law10_4 b b' hb hb' z z' _ rfl ?_ ?_ (Bt_b16 z0 m1) (Bt_b16 z0 m2) w hg
    · rw [val16, val16, v16_b16 _ _ z0 m1, v16_b16 _ _ z0 m2, Int.zero_mul, Int.zero_add, Int.zero_add]
    · rw [val4, val4, cmpI_add]
  by_cases k : n = 16 ∧ n' = 16 ∧ z = ⟨#[]⟩ ∧ z' = ⟨#[]⟩
  · obtain ⟨rfl, rfl, rfl, rfl⟩ := k
    refine law10_16 b b' hb hb' _ rfl ?_ ?_ (Bt_b16 (be8f_lt hb 0) (be8f_lt hb 8)) (Bt_b16 (be8f_lt hb' 0) (be8f_lt hb' 8)) w hg
    · rw [val16, val16, v16_b16 _ _ (be8f_lt hb 0) (be8f_lt hb 8), v16_b16 _ _ (be8f_lt hb' 0) (be8f_lt hb' 8)]; rfl
    · rw [val16, val16]
  exact law10_f n n' b b' z z' (alike_not n n' b b' z z' ⟨h, k⟩) w
end Go.Proofs.YtmlkcgacneealaaDoor
