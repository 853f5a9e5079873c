/- FnDotted, FnColonsOnce: the walks. Conditions: the listed variables as laid; what ParseAddr says of the texts. -/
import Derived.Test.YtmlkcgacneealaaDoorSExp
import Derived.Test.YtmlkcgacneealaaDoorLawQ
import Derived.Laws.CopyOwn
set_option linter.unusedVariables false
set_option linter.unusedSimpArgs false
namespace Go.Proofs.YtmlkcgacneealaaDoor
open Go.RowKit

theorem ba_take (s : List Int) (k : Nat) : (ba s).extract 0 k = ba (s.take k) := by
  apply ByteArray.ext
  rw [ByteArray.data_extract]
  simp [ba]
theorem ba_ext (s : List Int) (i j : Nat) : (ba s).extract i j = ba ((s.take j).drop i) := by
  apply ByteArray.ext
  rw [ByteArray.data_extract]
  simp [ba, List.drop_take]
theorem copyD (W : World) (g g' ty : Nat) (b : Nat → Int) (h1 : blk? W g = some (arr4 zb)) (h2 : blk? W g' = some (arr16 b)) :
    (Builtin.copy_ #[28, 28] ty #[.slice (some ⟨g, 0, none⟩) 4 4, .slice (some ⟨g', 12, none⟩) 4 4]).run Tryd.prog W = .ok (goInt 4) (W.setRow g (arr4 fun p => b (12 + p))) := by
  obtain ⟨t, ht⟩ := of_blk? h1
  have h := run_copy_row (P := Tryd.prog) W 28 28 ty 5 g 0 4 4 ⟨g', 12, none⟩ 4 4 (arr4 zb) t (arr4 fun p => b (12 + p)).toList Tryd.underlying28 info5 ht rfl (fun j v hv => by
    have hadd : (⟨g', 12, none⟩ : Addr).add j = ⟨g', 12 + j, none⟩ := by unfold Addr.add; split <;> simp_all
    rw [hadd, blk?_cell h2]
    have hj : j < 4 := by
      have := (List.getElem?_eq_some_iff.1 hv).1
      simpa [arr4] using this
    have h0 : j = 0 ∨ j = 1 ∨ j = 2 ∨ j = 3 := by omega
    rcases h0 with rfl | rfl | rfl | rfl <;> simpa [arr4, arr16] using hv) (by simp [arr4]) (fun v hv => (Array.all_eq_true_iff_forall_mem.1 (arr4_one _)) v (by simpa using hv))
  have e : ((arr4 zb).toList.take 0 ++ (arr4 fun p => b (12 + p)).toList ++ (arr4 zb).toList.drop (0 + (arr4 fun p => b (12 + p)).toList.length)).toArray = arr4 fun p => b (12 + p) := by
    unfold arr4; simp
  rw [e] at h
  exact h
set_option maxHeartbeats 4000000 in
set_option maxRecDepth 100000 in
theorem law24w (b : Nat → Int) (hb : Bt b) (S D : List Int) (hS : S.length = 39) (hD : D.length ≤ 15) {b4 o4 b6 o6 : Nat} (w : World) (hg : Gl b4 o4 b6 o6 w)
    (hE : ∀ w, Calls Tryd.prog 65 #[.agg (adr 16 b ⟨#[]⟩)] w fun e w' => e = .returned (.string (ba S)) ∧ Below w.heap.size w w')
    (hStr : ∀ w, Gl b4 o4 b6 o6 w → Calls Tryd.prog 60 #[.agg (adr 4 (pre 4 (fun p => b (12 + p))) ⟨#[]⟩)] w fun e w' => e = .returned (.string (ba D)) ∧ Below w.heap.size w w')
    (hP : ∀ w, Gl b4 o4 b6 o6 w → Calls Tryd.prog 66 #[.string (ba (S.take 30 ++ D))] w fun e w' => e = .returned (.tuple #[.agg (adr 16 b ⟨#[]⟩), .bool true]) ∧ Below w.heap.size w w') :
    Calls Tryd.prog 24 #[.agg (arr16 b)] w fun e w' => e = .returned (.bool true) ∧ Below w.heap.size w w' := by
  have HG := Lib.hid hg
  have HB12 := Lib.hid (show Bt (fun p => b (12 + p)) from fun p => hb (12 + p))
  have HE := Lib.hid hE
  have HStr := Lib.hid hStr
  have HP := Lib.hid hP
  have hEq : adrEq 16 (b) ⟨#[]⟩ 16 (b) ⟨#[]⟩ = true := (adrEq_iff _ _ _ _ _ _).2 ⟨rfl, fun _ _ => rfl, rfl⟩
  have hcp := fun (W : World) (ty : Nat) => copyD W (w.heap.size + 1) w.heap.size ty b
  have hsz : (30 : Int) ≤ (((ba S).size : Nat) : Int) := by rw [ba_size, hS]; decide
  have hsz' : 30 ≤ (ba S).size := by rw [ba_size, hS]; decide
  have htk := ba_take S 30
  have hap := ba_app (S.take 30) D
  have hlim : ¬ (9223372036854775807 < (ba (S.take 30)).size + (ba D).size) := by rw [ba_size, ba_size, List.length_take]; omega
  clear hg hb hE hStr hP hS hD
  go_enter Tryd.func24, Tryd.ntmps24
  go_upto_region 2 with fail
  refine wp_region_held_drew (S := fun w' => blk? w' (w.heap.size) = some (arr16 b)) (by kernel_rfl) ?_ (fun hHeld0 => ?_)
  · ((try dsimp only); go_simp)
  refine wpAnyH_take (i := 0) (oi := _) (v := ?_) rfl (by kernel_rfl) (by kernel_rfl) (by kernel_rfl) (fun _ _ _ h => h) (Or.inl ⟨by rfl, ?_⟩) (by assumption) ?_
  rotate_left 1
  · (intro w hSw; (try dsimp only at hSw); (try simp only [List.getElem_toArray, List.getElem_cons_succ, List.getElem_cons_zero]); first | (go_simp; done) | (go_simp; with_reducible rfl))
  (try simp only [Act.put, List.setIfInBounds_toArray, List.set_cons_zero, List.set_cons_succ, List.getElem_toArray, List.getElem_cons_succ, List.getElem_cons_zero])
  refine wpAnyH_take (i := 1) (oi := _) (v := ?_) rfl (by kernel_rfl) (by kernel_rfl) (by kernel_rfl) (fun _ _ _ h => h) (Or.inl ⟨by rfl, ?_⟩) (by assumption) ?_
  rotate_left 1
  · (intro w hSw; (try dsimp only at hSw); (try simp only [List.getElem_toArray, List.getElem_cons_succ, List.getElem_cons_zero]); first | (go_simp; done) | (go_simp; with_reducible rfl))
  (try simp only [Act.put, List.setIfInBounds_toArray, List.set_cons_zero, List.set_cons_succ, List.getElem_toArray, List.getElem_cons_succ, List.getElem_cons_zero])
  refine wpAnyH_ready (rs := [2]) (by kernel_rfl) (by simp) (AllReadyH.cons rfl (fun K hK => ?_) AllReadyH.nil)
  go_simp
  refine hK.out _ _ ?_ (fun hHeld1 => ?_)
  · ((try dsimp only); go_simp)
  clear hK K hHeld0
  (try simp only [Act.put, List.setIfInBounds_toArray, List.set_cons_zero, List.set_cons_succ, List.getElem_toArray, List.getElem_cons_succ, List.getElem_cons_zero])
  refine wpAnyH_done (by kernel_rfl) ?_ _
  go_upto_region 5 with (first
    | (go_at_call 38; (with_reducible refine (sa_any _ _ _ _).mono ?_); rintro e w0 ⟨rfl, hb1⟩; have hk1 := blk?_below hb1; (try simp only [size_drew', size_drewN'] at hk1); have hB1 := below_via (w := w) (by repeat' (first | (with_reducible exact Below.refl _ _) | (with_reducible assumption) | (with_reducible refine Below.alloc ?_ ?_ _) | (with_reducible refine Below.drew ?_) | (with_reducible refine below_drewN ?_ _) | (with_reducible refine Below.setCell ?_ ?_ _) | (with_reducible refine below_setRow' ?_ ?_ _) | go_size)) hb1; have hL0 : w.heap.size < w0.heap.size := (by have hS0 := hb1.size; (try simp at hS0); omega); have hL1 : w.heap.size + 1 < w0.heap.size := (by have hS0 := hb1.size; (try simp at hS0); omega); have hL2 : w.heap.size + 1 + 1 < w0.heap.size := (by have hS0 := hb1.size; (try simp at hS0); omega); have hLe : w.heap.size ≤ w0.heap.size := hB1.size; clear hb1)
    | (go_at_call 65; (with_reducible refine (HE.out _).mono ?_); rintro e w1 ⟨rfl, hb1⟩; have hk1 := blk?_below hb1; (try simp only [size_drew', size_drewN'] at hk1); have hB1 := below_via (w := w) (by repeat' (first | (with_reducible exact Below.refl _ _) | (with_reducible assumption) | (with_reducible refine Below.alloc ?_ ?_ _) | (with_reducible refine Below.drew ?_) | (with_reducible refine below_drewN ?_ _) | (with_reducible refine Below.setCell ?_ ?_ _) | (with_reducible refine below_setRow' ?_ ?_ _) | go_size)) hb1; have hL0 : w.heap.size < w1.heap.size := (by have hS0 := hb1.size; (try simp at hS0); omega); have hL1 : w.heap.size + 1 < w1.heap.size := (by have hS0 := hb1.size; (try simp at hS0); omega); have hL2 : w.heap.size + 1 + 1 < w1.heap.size := (by have hS0 := hb1.size; (try simp at hS0); omega); have hLe : w.heap.size ≤ w1.heap.size := hB1.size; clear hb1))
  have k0 : blk? w1 (w.heap.size + 1) = some (arr4 (fun p => b (12 + p))) := by go_simp
  have k1 : blk? w1 (w.heap.size + 1 + 1) = some (adr 16 b ⟨#[]⟩) := by go_simp
  have hQ0a : w.heap.size < w1.heap.size + 1 := by omega
  have hQ0b : w.heap.size < w1.heap.size + 1 + 1 := by omega
  have hQ1a : w.heap.size + 1 < w1.heap.size + 1 := by omega
  have hQ1b : w.heap.size + 1 < w1.heap.size + 1 + 1 := by omega
  have hQ2a : w.heap.size + 1 + 1 < w1.heap.size + 1 := by omega
  have hQ2b : w.heap.size + 1 + 1 < w1.heap.size + 1 + 1 := by omega
  clear hk1 hcp
  go_cut [6, 7] (fun s6 s7 wx => ∃ g6 : Nat, s6 = .pointer (some ⟨g6, 0, none⟩) ∧ s7 = .bool true ∧ blk? wx (w.heap.size + 1 + 1) = some (adr 16 b ⟨#[]⟩) ∧ blk? wx g6 = some (adr 16 b ⟨#[]⟩) ∧ Below w.heap.size w wx)
  case first =>
    refine wp_region_held_drew (S := fun w' => blk? w' (w.heap.size + 1) = some (arr4 (fun p => b (12 + p))) ∧ blk? w' (w.heap.size + 1 + 1) = some (adr 16 b ⟨#[]⟩)) (by kernel_rfl) ?_ (fun hHeld0 => ?_)
    · ((try dsimp only); (refine ⟨?_, ?_⟩ <;> go_simp))
    refine wpAnyH_take (i := 0) (oi := _) (v := ?_) rfl (by kernel_rfl) (by kernel_rfl) (by kernel_rfl) (fun _ _ _ h => h) (Or.inl ⟨by rfl, ?_⟩) (by assumption) ?_
    rotate_left 1
    · (intro w hSw; (try dsimp only at hSw); (try simp only [List.getElem_toArray, List.getElem_cons_succ, List.getElem_cons_zero]); first | (go_simp; done) | (go_simp; with_reducible rfl))
    (try simp only [Act.put, List.setIfInBounds_toArray, List.set_cons_zero, List.set_cons_succ, List.getElem_toArray, List.getElem_cons_succ, List.getElem_cons_zero])
    refine wpAnyH_take (i := 1) (oi := _) (v := ?_) rfl (by kernel_rfl) (by kernel_rfl) (by kernel_rfl) (fun _ _ _ h => h) (Or.inl ⟨by rfl, ?_⟩) (by assumption) ?_
    rotate_left 1
    · (intro w hSw; (try dsimp only at hSw); (try simp only [List.getElem_toArray, List.getElem_cons_succ, List.getElem_cons_zero]); first | (go_simp; done) | (go_simp; with_reducible rfl))
    (try simp only [Act.put, List.setIfInBounds_toArray, List.set_cons_zero, List.set_cons_succ, List.getElem_toArray, List.getElem_cons_succ, List.getElem_cons_zero])
    refine wpAnyH_take (i := 2) (oi := _) (v := ?_) rfl (by kernel_rfl) (by kernel_rfl) (by kernel_rfl) (fun _ _ _ h => h) (Or.inl ⟨by rfl, ?_⟩) (by assumption) ?_
    rotate_left 1
    · (intro w hSw; (try dsimp only at hSw); (try simp only [List.getElem_toArray, List.getElem_cons_succ, List.getElem_cons_zero]); first | (go_simp; done) | (go_simp; with_reducible rfl))
    (try simp only [Act.put, List.setIfInBounds_toArray, List.set_cons_zero, List.set_cons_succ, List.getElem_toArray, List.getElem_cons_succ, List.getElem_cons_zero])
    refine wpAnyH_ready (rs := [3, 10]) (by kernel_rfl) (by simp) (AllReadyH.cons rfl (fun K hK => ?_) (AllReadyH.cons rfl (fun K hK => ?_) AllReadyH.nil))
    · go_simp
      go_wp2_with (first
        | (go_at_call 26; (with_reducible refine (implAddrFrom4 (b4 := b4) (o4 := o4) _ HB12.out _ ?_).mono ?_); (exact HG.out.g4.below (by repeat' (first | (with_reducible exact Below.refl _ _) | (with_reducible assumption) | (with_reducible refine Below.alloc ?_ ?_ _) | (with_reducible refine Below.drew ?_) | (with_reducible refine below_drewN ?_ _) | (with_reducible refine Below.setCell ?_ ?_ _) | (with_reducible refine below_setRow' ?_ ?_ _) | go_size)) (Nat.le_refl _)); rintro e wA ⟨rfl, hb1⟩; have hk1 := blk?_below hb1; (try simp only [size_drew', size_drewN'] at hk1); have hB1 := below_via (w := w) (by repeat' (first | (with_reducible exact Below.refl _ _) | (with_reducible assumption) | (with_reducible refine Below.alloc ?_ ?_ _) | (with_reducible refine Below.drew ?_) | (with_reducible refine below_drewN ?_ _) | (with_reducible refine Below.setCell ?_ ?_ _) | (with_reducible refine below_setRow' ?_ ?_ _) | go_size)) hb1; have hL0 : w.heap.size < wA.heap.size := (by have hS0 := hb1.size; (try simp at hS0); omega); have hL1 : w.heap.size + 1 < wA.heap.size := (by have hS0 := hb1.size; (try simp at hS0); omega); have hL2 : w.heap.size + 1 + 1 < wA.heap.size := (by have hS0 := hb1.size; (try simp at hS0); omega); have hLe : w.heap.size ≤ wA.heap.size := hB1.size; have hS9 := hb1.size; (try simp [Nat.add_one_le_iff] at hS9); (try (have hS8 := Nat.lt_of_succ_lt hS9)); have hQ0a : w.heap.size < wA.heap.size + 1 := (by omega); have hQ0b : w.heap.size < wA.heap.size + 1 + 1 := (by omega); have hQ1a : w.heap.size + 1 < wA.heap.size + 1 := (by omega); have hQ1b : w.heap.size + 1 < wA.heap.size + 1 + 1 := (by omega); have hQ2a : w.heap.size + 1 + 1 < wA.heap.size + 1 := (by omega); have hQ2b : w.heap.size + 1 + 1 < wA.heap.size + 1 + 1 := (by omega); clear hb1))
      refine hK.out _ _ ?_ (fun hHeld1 => ?_)
      · ((try dsimp only); (refine ⟨?_, ?_⟩ <;> go_simp))
      clear hK K hHeld0
      (try simp only [Act.put, List.setIfInBounds_toArray, List.set_cons_zero, List.set_cons_succ, List.getElem_toArray, List.getElem_cons_succ, List.getElem_cons_zero])
      refine wpAnyH_ready (rs := [4, 10]) (by kernel_rfl) (by simp) (AllReadyH.cons rfl (fun K hK => ?_) (AllReadyH.cons rfl (fun K hK => ?_) AllReadyH.nil))
      · go_simp
        go_wp2_with (first
          | (go_at_call 60; (with_reducible refine (HStr.out _ ?_).mono ?_); (exact HG.out.below (by repeat' (first | (with_reducible exact Below.refl _ _) | (with_reducible assumption) | (with_reducible refine Below.alloc ?_ ?_ _) | (with_reducible refine Below.drew ?_) | (with_reducible refine below_drewN ?_ _) | (with_reducible refine Below.setCell ?_ ?_ _) | (with_reducible refine below_setRow' ?_ ?_ _) | go_size)) (Nat.le_refl _)); rintro e wS ⟨rfl, hb1⟩; have hk1 := blk?_below hb1; (try simp only [size_drew', size_drewN'] at hk1); have hB1 := below_via (w := w) (by repeat' (first | (with_reducible exact Below.refl _ _) | (with_reducible assumption) | (with_reducible refine Below.alloc ?_ ?_ _) | (with_reducible refine Below.drew ?_) | (with_reducible refine below_drewN ?_ _) | (with_reducible refine Below.setCell ?_ ?_ _) | (with_reducible refine below_setRow' ?_ ?_ _) | go_size)) hb1; have hL0 : w.heap.size < wS.heap.size := (by have hS0 := hb1.size; (try simp at hS0); omega); have hL1 : w.heap.size + 1 < wS.heap.size := (by have hS0 := hb1.size; (try simp at hS0); omega); have hL2 : w.heap.size + 1 + 1 < wS.heap.size := (by have hS0 := hb1.size; (try simp at hS0); omega); have hLe : w.heap.size ≤ wS.heap.size := hB1.size; have hS9 := hb1.size; (try simp [Nat.add_one_le_iff] at hS9); (try (have hS8 := Nat.lt_of_succ_lt hS9)); (try (have hT0 : w1.heap.size < wS.heap.size := (by have hS0 := hb1.size; (try simp at hS0); omega))); (try (have hT1 : wA.heap.size < wS.heap.size := (by have hS0 := hb1.size; (try simp at hS0); omega))); have hQ0a : w.heap.size < wS.heap.size + 1 := (by omega); have hQ0b : w.heap.size < wS.heap.size + 1 + 1 := (by omega); have hQ1a : w.heap.size + 1 < wS.heap.size + 1 := (by omega); have hQ1b : w.heap.size + 1 < wS.heap.size + 1 + 1 := (by omega); have hQ2a : w.heap.size + 1 + 1 < wS.heap.size + 1 := (by omega); have hQ2b : w.heap.size + 1 + 1 < wS.heap.size + 1 + 1 := (by omega); clear hb1))
        refine hK.out _ _ ?_ (fun hHeld2 => ?_)
        · ((try dsimp only); (refine ⟨?_, ?_⟩ <;> go_simp))
        clear hK K hHeld1
        (try simp only [Act.put, List.setIfInBounds_toArray, List.set_cons_zero, List.set_cons_succ, List.getElem_toArray, List.getElem_cons_succ, List.getElem_cons_zero])
        refine wpAnyH_take (i := 5) (oi := _) (v := ?_) rfl (by kernel_rfl) (by kernel_rfl) (by kernel_rfl) (fun _ _ _ h => h) (Or.inl ⟨by rfl, ?_⟩) (by assumption) ?_
        rotate_left 1
        · (intro w hSw; (try dsimp only at hSw); (try simp only [List.getElem_toArray, List.getElem_cons_succ, List.getElem_cons_zero]); first | (go_simp; done) | (go_simp; with_reducible rfl))
        (try simp only [Act.put, List.setIfInBounds_toArray, List.set_cons_zero, List.set_cons_succ, List.getElem_toArray, List.getElem_cons_succ, List.getElem_cons_zero])
        refine wpAnyH_ready (rs := [6, 10]) (by kernel_rfl) (by simp) (AllReadyH.cons rfl (fun K hK => ?_) (AllReadyH.cons rfl (fun K hK => ?_) AllReadyH.nil))
        · go_simp
          go_wp2_with (first
            | (go_at_call 66; (with_reducible refine (HP.out _ ?_).mono ?_); (exact HG.out.below (by repeat' (first | (with_reducible exact Below.refl _ _) | (with_reducible assumption) | (with_reducible refine Below.alloc ?_ ?_ _) | (with_reducible refine Below.drew ?_) | (with_reducible refine below_drewN ?_ _) | (with_reducible refine Below.setCell ?_ ?_ _) | (with_reducible refine below_setRow' ?_ ?_ _) | go_size)) (Nat.le_refl _)); rintro e wP ⟨rfl, hb1⟩; have hk1 := blk?_below hb1; (try simp only [size_drew', size_drewN'] at hk1); have hB1 := below_via (w := w) (by repeat' (first | (with_reducible exact Below.refl _ _) | (with_reducible assumption) | (with_reducible refine Below.alloc ?_ ?_ _) | (with_reducible refine Below.drew ?_) | (with_reducible refine below_drewN ?_ _) | (with_reducible refine Below.setCell ?_ ?_ _) | (with_reducible refine below_setRow' ?_ ?_ _) | go_size)) hb1; have hL0 : w.heap.size < wP.heap.size := (by have hS0 := hb1.size; (try simp at hS0); omega); have hL1 : w.heap.size + 1 < wP.heap.size := (by have hS0 := hb1.size; (try simp at hS0); omega); have hL2 : w.heap.size + 1 + 1 < wP.heap.size := (by have hS0 := hb1.size; (try simp at hS0); omega); have hLe : w.heap.size ≤ wP.heap.size := hB1.size; have hS9 := hb1.size; (try simp [Nat.add_one_le_iff] at hS9); (try (have hS8 := Nat.lt_of_succ_lt hS9)); (try (have hT0 : w1.heap.size < wP.heap.size := (by have hS0 := hb1.size; (try simp at hS0); omega))); (try (have hT1 : wA.heap.size < wP.heap.size := (by have hS0 := hb1.size; (try simp at hS0); omega))); (try (have hT2 : wS.heap.size < wP.heap.size := (by have hS0 := hb1.size; (try simp at hS0); omega))); have hQ0a : w.heap.size < wP.heap.size + 1 := (by omega); have hQ0b : w.heap.size < wP.heap.size + 1 + 1 := (by omega); have hQ1a : w.heap.size + 1 < wP.heap.size + 1 := (by omega); have hQ1b : w.heap.size + 1 < wP.heap.size + 1 + 1 := (by omega); have hQ2a : w.heap.size + 1 + 1 < wP.heap.size + 1 := (by omega); have hQ2b : w.heap.size + 1 + 1 < wP.heap.size + 1 + 1 := (by omega); clear hb1))
          refine hK.out _ _ ?_ (fun hHeld3 => ?_)
          · ((try dsimp only); (refine ⟨?_, ?_⟩ <;> go_simp))
          clear hK K hHeld2
          (try simp only [Act.put, List.setIfInBounds_toArray, List.set_cons_zero, List.set_cons_succ, List.getElem_toArray, List.getElem_cons_succ, List.getElem_cons_zero])
          refine wpAnyH_take (i := 7) (oi := _) (v := ?_) rfl (by kernel_rfl) (by kernel_rfl) (by kernel_rfl) (fun _ _ _ h => h) (Or.inl ⟨by rfl, ?_⟩) (by assumption) ?_
          rotate_left 1
          · (intro w hSw; (try dsimp only at hSw); (try simp only [List.getElem_toArray, List.getElem_cons_succ, List.getElem_cons_zero]); first | (go_simp; done) | (go_simp; with_reducible rfl))
          (try simp only [Act.put, List.setIfInBounds_toArray, List.set_cons_zero, List.set_cons_succ, List.getElem_toArray, List.getElem_cons_succ, List.getElem_cons_zero])
          refine wpAnyH_take (i := 8) (oi := _) (v := ?_) rfl (by kernel_rfl) (by kernel_rfl) (by kernel_rfl) (fun _ _ _ h => h) (Or.inl ⟨by rfl, ?_⟩) (by assumption) ?_
          rotate_left 1
          · (intro w hSw; (try dsimp only at hSw); (try simp only [List.getElem_toArray, List.getElem_cons_succ, List.getElem_cons_zero]); first | (go_simp; done) | (go_simp; with_reducible rfl))
          (try simp only [Act.put, List.setIfInBounds_toArray, List.set_cons_zero, List.set_cons_succ, List.getElem_toArray, List.getElem_cons_succ, List.getElem_cons_zero])
          refine wpAnyH_take (i := 9) (oi := _) (v := ?_) rfl (by kernel_rfl) (by kernel_rfl) (by kernel_rfl) (fun _ _ _ h => h) (Or.inl ⟨by rfl, ?_⟩) (by assumption) ?_
          rotate_left 1
          · (intro w hSw; (try dsimp only at hSw); (try simp only [List.getElem_toArray, List.getElem_cons_succ, List.getElem_cons_zero]); first | (go_simp; done) | (go_simp; with_reducible rfl))
          (try simp only [Act.put, List.setIfInBounds_toArray, List.set_cons_zero, List.set_cons_succ, List.getElem_toArray, List.getElem_cons_succ, List.getElem_cons_zero])
          refine wpAnyH_ready (rs := [10]) (by kernel_rfl) (by simp) (AllReadyH.cons rfl (fun K hK => ?_) AllReadyH.nil)
          · go_simp
            refine hK.out _ _ ?_ (fun hHeld4 => ?_)
            · ((try dsimp only); (refine ⟨?_, ?_⟩ <;> go_simp))
            clear hK K hHeld3
            (try simp only [Act.put, List.setIfInBounds_toArray, List.set_cons_zero, List.set_cons_succ, List.getElem_toArray, List.getElem_cons_succ, List.getElem_cons_zero])
            refine wpAnyH_ready (rs := [11]) (by kernel_rfl) (by simp) (AllReadyH.cons rfl (fun K hK => ?_) AllReadyH.nil)
            · go_simp
              refine hK.out _ _ ?_ (fun hHeld5 => ?_)
              · ((try dsimp only); (refine ⟨?_, ?_⟩ <;> go_simp))
              clear hK K hHeld4
              (try simp only [Act.put, List.setIfInBounds_toArray, List.set_cons_zero, List.set_cons_succ, List.getElem_toArray, List.getElem_cons_succ, List.getElem_cons_zero])
              refine wpAnyH_take (i := 12) (oi := _) (v := ?_) rfl (by kernel_rfl) (by kernel_rfl) (by kernel_rfl) (fun _ _ _ h => h) (Or.inl ⟨by rfl, ?_⟩) (by assumption) ?_
              rotate_left 1
              · (intro w hSw; (try dsimp only at hSw); (try simp only [List.getElem_toArray, List.getElem_cons_succ, List.getElem_cons_zero]); first | (go_simp; done) | (go_simp; with_reducible rfl))
              (try simp only [Act.put, List.setIfInBounds_toArray, List.set_cons_zero, List.set_cons_succ, List.getElem_toArray, List.getElem_cons_succ, List.getElem_cons_zero])
              refine wpAnyH_done (by kernel_rfl) ?_ _
              go_wp2_with fail
              go_meet
              refine ⟨_, rfl, rfl, ?_, ?_, (by repeat' (first | (with_reducible exact Below.refl _ _) | (with_reducible assumption) | (with_reducible refine Below.alloc ?_ ?_ _) | (with_reducible refine Below.drew ?_) | (with_reducible refine below_drewN ?_ _) | (with_reducible refine Below.setCell ?_ ?_ _) | (with_reducible refine below_setRow' ?_ ?_ _) | go_size))⟩
              all_goals go_simp
        · go_simp
          refine hK.out _ _ ?_ (fun hHeld3 => ?_)
          · ((try dsimp only); (refine ⟨?_, ?_⟩ <;> go_simp))
          clear hK K hHeld2
          (try simp only [Act.put, List.setIfInBounds_toArray, List.set_cons_zero, List.set_cons_succ, List.getElem_toArray, List.getElem_cons_succ, List.getElem_cons_zero])
          refine wpAnyH_ready (rs := [6]) (by kernel_rfl) (by simp) (AllReadyH.cons rfl (fun K hK => ?_) AllReadyH.nil)
          · go_simp
            go_wp2_with (first
              | (go_at_call 66; (with_reducible refine (HP.out _ ?_).mono ?_); (exact HG.out.below (by repeat' (first | (with_reducible exact Below.refl _ _) | (with_reducible assumption) | (with_reducible refine Below.alloc ?_ ?_ _) | (with_reducible refine Below.drew ?_) | (with_reducible refine below_drewN ?_ _) | (with_reducible refine Below.setCell ?_ ?_ _) | (with_reducible refine below_setRow' ?_ ?_ _) | go_size)) (Nat.le_refl _)); rintro e wP ⟨rfl, hb1⟩; have hk1 := blk?_below hb1; (try simp only [size_drew', size_drewN'] at hk1); have hB1 := below_via (w := w) (by repeat' (first | (with_reducible exact Below.refl _ _) | (with_reducible assumption) | (with_reducible refine Below.alloc ?_ ?_ _) | (with_reducible refine Below.drew ?_) | (with_reducible refine below_drewN ?_ _) | (with_reducible refine Below.setCell ?_ ?_ _) | (with_reducible refine below_setRow' ?_ ?_ _) | go_size)) hb1; have hL0 : w.heap.size < wP.heap.size := (by have hS0 := hb1.size; (try simp at hS0); omega); have hL1 : w.heap.size + 1 < wP.heap.size := (by have hS0 := hb1.size; (try simp at hS0); omega); have hL2 : w.heap.size + 1 + 1 < wP.heap.size := (by have hS0 := hb1.size; (try simp at hS0); omega); have hLe : w.heap.size ≤ wP.heap.size := hB1.size; have hS9 := hb1.size; (try simp [Nat.add_one_le_iff] at hS9); (try (have hS8 := Nat.lt_of_succ_lt hS9)); (try (have hT0 : w1.heap.size < wP.heap.size := (by have hS0 := hb1.size; (try simp at hS0); omega))); (try (have hT1 : wA.heap.size < wP.heap.size := (by have hS0 := hb1.size; (try simp at hS0); omega))); (try (have hT2 : wS.heap.size < wP.heap.size := (by have hS0 := hb1.size; (try simp at hS0); omega))); have hQ0a : w.heap.size < wP.heap.size + 1 := (by omega); have hQ0b : w.heap.size < wP.heap.size + 1 + 1 := (by omega); have hQ1a : w.heap.size + 1 < wP.heap.size + 1 := (by omega); have hQ1b : w.heap.size + 1 < wP.heap.size + 1 + 1 := (by omega); have hQ2a : w.heap.size + 1 + 1 < wP.heap.size + 1 := (by omega); have hQ2b : w.heap.size + 1 + 1 < wP.heap.size + 1 + 1 := (by omega); clear hb1))
            refine hK.out _ _ ?_ (fun hHeld4 => ?_)
            · ((try dsimp only); (refine ⟨?_, ?_⟩ <;> go_simp))
            clear hK K hHeld3
            (try simp only [Act.put, List.setIfInBounds_toArray, List.set_cons_zero, List.set_cons_succ, List.getElem_toArray, List.getElem_cons_succ, List.getElem_cons_zero])
            refine wpAnyH_take (i := 7) (oi := _) (v := ?_) rfl (by kernel_rfl) (by kernel_rfl) (by kernel_rfl) (fun _ _ _ h => h) (Or.inl ⟨by rfl, ?_⟩) (by assumption) ?_
            rotate_left 1
            · (intro w hSw; (try dsimp only at hSw); (try simp only [List.getElem_toArray, List.getElem_cons_succ, List.getElem_cons_zero]); first | (go_simp; done) | (go_simp; with_reducible rfl))
            (try simp only [Act.put, List.setIfInBounds_toArray, List.set_cons_zero, List.set_cons_succ, List.getElem_toArray, List.getElem_cons_succ, List.getElem_cons_zero])
            refine wpAnyH_take (i := 8) (oi := _) (v := ?_) rfl (by kernel_rfl) (by kernel_rfl) (by kernel_rfl) (fun _ _ _ h => h) (Or.inl ⟨by rfl, ?_⟩) (by assumption) ?_
            rotate_left 1
            · (intro w hSw; (try dsimp only at hSw); (try simp only [List.getElem_toArray, List.getElem_cons_succ, List.getElem_cons_zero]); first | (go_simp; done) | (go_simp; with_reducible rfl))
            (try simp only [Act.put, List.setIfInBounds_toArray, List.set_cons_zero, List.set_cons_succ, List.getElem_toArray, List.getElem_cons_succ, List.getElem_cons_zero])
            refine wpAnyH_take (i := 9) (oi := _) (v := ?_) rfl (by kernel_rfl) (by kernel_rfl) (by kernel_rfl) (fun _ _ _ h => h) (Or.inl ⟨by rfl, ?_⟩) (by assumption) ?_
            rotate_left 1
            · (intro w hSw; (try dsimp only at hSw); (try simp only [List.getElem_toArray, List.getElem_cons_succ, List.getElem_cons_zero]); first | (go_simp; done) | (go_simp; with_reducible rfl))
            (try simp only [Act.put, List.setIfInBounds_toArray, List.set_cons_zero, List.set_cons_succ, List.getElem_toArray, List.getElem_cons_succ, List.getElem_cons_zero])
            refine wpAnyH_ready (rs := [11]) (by kernel_rfl) (by simp) (AllReadyH.cons rfl (fun K hK => ?_) AllReadyH.nil)
            · go_simp
              refine hK.out _ _ ?_ (fun hHeld5 => ?_)
              · ((try dsimp only); (refine ⟨?_, ?_⟩ <;> go_simp))
              clear hK K hHeld4
              (try simp only [Act.put, List.setIfInBounds_toArray, List.set_cons_zero, List.set_cons_succ, List.getElem_toArray, List.getElem_cons_succ, List.getElem_cons_zero])
              refine wpAnyH_take (i := 12) (oi := _) (v := ?_) rfl (by kernel_rfl) (by kernel_rfl) (by kernel_rfl) (fun _ _ _ h => h) (Or.inl ⟨by rfl, ?_⟩) (by assumption) ?_
              rotate_left 1
              · (intro w hSw; (try dsimp only at hSw); (try simp only [List.getElem_toArray, List.getElem_cons_succ, List.getElem_cons_zero]); first | (go_simp; done) | (go_simp; with_reducible rfl))
              (try simp only [Act.put, List.setIfInBounds_toArray, List.set_cons_zero, List.set_cons_succ, List.getElem_toArray, List.getElem_cons_succ, List.getElem_cons_zero])
              refine wpAnyH_done (by kernel_rfl) ?_ _
              go_wp2_with fail
              go_meet
              refine ⟨_, rfl, rfl, ?_, ?_, (by repeat' (first | (with_reducible exact Below.refl _ _) | (with_reducible assumption) | (with_reducible refine Below.alloc ?_ ?_ _) | (with_reducible refine Below.drew ?_) | (with_reducible refine below_drewN ?_ _) | (with_reducible refine Below.setCell ?_ ?_ _) | (with_reducible refine below_setRow' ?_ ?_ _) | go_size))⟩
              all_goals go_simp
      · go_simp
        refine hK.out _ _ ?_ (fun hHeld2 => ?_)
        · ((try dsimp only); (refine ⟨?_, ?_⟩ <;> go_simp))
        clear hK K hHeld1
        (try simp only [Act.put, List.setIfInBounds_toArray, List.set_cons_zero, List.set_cons_succ, List.getElem_toArray, List.getElem_cons_succ, List.getElem_cons_zero])
        refine wpAnyH_ready (rs := [4]) (by kernel_rfl) (by simp) (AllReadyH.cons rfl (fun K hK => ?_) AllReadyH.nil)
        · go_simp
          go_wp2_with (first
            | (go_at_call 60; (with_reducible refine (HStr.out _ ?_).mono ?_); (exact HG.out.below (by repeat' (first | (with_reducible exact Below.refl _ _) | (with_reducible assumption) | (with_reducible refine Below.alloc ?_ ?_ _) | (with_reducible refine Below.drew ?_) | (with_reducible refine below_drewN ?_ _) | (with_reducible refine Below.setCell ?_ ?_ _) | (with_reducible refine below_setRow' ?_ ?_ _) | go_size)) (Nat.le_refl _)); rintro e wS ⟨rfl, hb1⟩; have hk1 := blk?_below hb1; (try simp only [size_drew', size_drewN'] at hk1); have hB1 := below_via (w := w) (by repeat' (first | (with_reducible exact Below.refl _ _) | (with_reducible assumption) | (with_reducible refine Below.alloc ?_ ?_ _) | (with_reducible refine Below.drew ?_) | (with_reducible refine below_drewN ?_ _) | (with_reducible refine Below.setCell ?_ ?_ _) | (with_reducible refine below_setRow' ?_ ?_ _) | go_size)) hb1; have hL0 : w.heap.size < wS.heap.size := (by have hS0 := hb1.size; (try simp at hS0); omega); have hL1 : w.heap.size + 1 < wS.heap.size := (by have hS0 := hb1.size; (try simp at hS0); omega); have hL2 : w.heap.size + 1 + 1 < wS.heap.size := (by have hS0 := hb1.size; (try simp at hS0); omega); have hLe : w.heap.size ≤ wS.heap.size := hB1.size; have hS9 := hb1.size; (try simp [Nat.add_one_le_iff] at hS9); (try (have hS8 := Nat.lt_of_succ_lt hS9)); (try (have hT0 : w1.heap.size < wS.heap.size := (by have hS0 := hb1.size; (try simp at hS0); omega))); (try (have hT1 : wA.heap.size < wS.heap.size := (by have hS0 := hb1.size; (try simp at hS0); omega))); have hQ0a : w.heap.size < wS.heap.size + 1 := (by omega); have hQ0b : w.heap.size < wS.heap.size + 1 + 1 := (by omega); have hQ1a : w.heap.size + 1 < wS.heap.size + 1 := (by omega); have hQ1b : w.heap.size + 1 < wS.heap.size + 1 + 1 := (by omega); have hQ2a : w.heap.size + 1 + 1 < wS.heap.size + 1 := (by omega); have hQ2b : w.heap.size + 1 + 1 < wS.heap.size + 1 + 1 := (by omega); clear hb1))
          refine hK.out _ _ ?_ (fun hHeld3 => ?_)
          · ((try dsimp only); (refine ⟨?_, ?_⟩ <;> go_simp))
          clear hK K hHeld2
          (try simp only [Act.put, List.setIfInBounds_toArray, List.set_cons_zero, List.set_cons_succ, List.getElem_toArray, List.getElem_cons_succ, List.getElem_cons_zero])
          refine wpAnyH_take (i := 5) (oi := _) (v := ?_) rfl (by kernel_rfl) (by kernel_rfl) (by kernel_rfl) (fun _ _ _ h => h) (Or.inl ⟨by rfl, ?_⟩) (by assumption) ?_
          rotate_left 1
          · (intro w hSw; (try dsimp only at hSw); (try simp only [List.getElem_toArray, List.getElem_cons_succ, List.getElem_cons_zero]); first | (go_simp; done) | (go_simp; with_reducible rfl))
          (try simp only [Act.put, List.setIfInBounds_toArray, List.set_cons_zero, List.set_cons_succ, List.getElem_toArray, List.getElem_cons_succ, List.getElem_cons_zero])
          refine wpAnyH_ready (rs := [6]) (by kernel_rfl) (by simp) (AllReadyH.cons rfl (fun K hK => ?_) AllReadyH.nil)
          · go_simp
            go_wp2_with (first
              | (go_at_call 66; (with_reducible refine (HP.out _ ?_).mono ?_); (exact HG.out.below (by repeat' (first | (with_reducible exact Below.refl _ _) | (with_reducible assumption) | (with_reducible refine Below.alloc ?_ ?_ _) | (with_reducible refine Below.drew ?_) | (with_reducible refine below_drewN ?_ _) | (with_reducible refine Below.setCell ?_ ?_ _) | (with_reducible refine below_setRow' ?_ ?_ _) | go_size)) (Nat.le_refl _)); rintro e wP ⟨rfl, hb1⟩; have hk1 := blk?_below hb1; (try simp only [size_drew', size_drewN'] at hk1); have hB1 := below_via (w := w) (by repeat' (first | (with_reducible exact Below.refl _ _) | (with_reducible assumption) | (with_reducible refine Below.alloc ?_ ?_ _) | (with_reducible refine Below.drew ?_) | (with_reducible refine below_drewN ?_ _) | (with_reducible refine Below.setCell ?_ ?_ _) | (with_reducible refine below_setRow' ?_ ?_ _) | go_size)) hb1; have hL0 : w.heap.size < wP.heap.size := (by have hS0 := hb1.size; (try simp at hS0); omega); have hL1 : w.heap.size + 1 < wP.heap.size := (by have hS0 := hb1.size; (try simp at hS0); omega); have hL2 : w.heap.size + 1 + 1 < wP.heap.size := (by have hS0 := hb1.size; (try simp at hS0); omega); have hLe : w.heap.size ≤ wP.heap.size := hB1.size; have hS9 := hb1.size; (try simp [Nat.add_one_le_iff] at hS9); (try (have hS8 := Nat.lt_of_succ_lt hS9)); (try (have hT0 : w1.heap.size < wP.heap.size := (by have hS0 := hb1.size; (try simp at hS0); omega))); (try (have hT1 : wA.heap.size < wP.heap.size := (by have hS0 := hb1.size; (try simp at hS0); omega))); (try (have hT2 : wS.heap.size < wP.heap.size := (by have hS0 := hb1.size; (try simp at hS0); omega))); have hQ0a : w.heap.size < wP.heap.size + 1 := (by omega); have hQ0b : w.heap.size < wP.heap.size + 1 + 1 := (by omega); have hQ1a : w.heap.size + 1 < wP.heap.size + 1 := (by omega); have hQ1b : w.heap.size + 1 < wP.heap.size + 1 + 1 := (by omega); have hQ2a : w.heap.size + 1 + 1 < wP.heap.size + 1 := (by omega); have hQ2b : w.heap.size + 1 + 1 < wP.heap.size + 1 + 1 := (by omega); clear hb1))
            refine hK.out _ _ ?_ (fun hHeld4 => ?_)
            · ((try dsimp only); (refine ⟨?_, ?_⟩ <;> go_simp))
            clear hK K hHeld3
            (try simp only [Act.put, List.setIfInBounds_toArray, List.set_cons_zero, List.set_cons_succ, List.getElem_toArray, List.getElem_cons_succ, List.getElem_cons_zero])
            refine wpAnyH_take (i := 7) (oi := _) (v := ?_) rfl (by kernel_rfl) (by kernel_rfl) (by kernel_rfl) (fun _ _ _ h => h) (Or.inl ⟨by rfl, ?_⟩) (by assumption) ?_
            rotate_left 1
            · (intro w hSw; (try dsimp only at hSw); (try simp only [List.getElem_toArray, List.getElem_cons_succ, List.getElem_cons_zero]); first | (go_simp; done) | (go_simp; with_reducible rfl))
            (try simp only [Act.put, List.setIfInBounds_toArray, List.set_cons_zero, List.set_cons_succ, List.getElem_toArray, List.getElem_cons_succ, List.getElem_cons_zero])
            refine wpAnyH_take (i := 8) (oi := _) (v := ?_) rfl (by kernel_rfl) (by kernel_rfl) (by kernel_rfl) (fun _ _ _ h => h) (Or.inl ⟨by rfl, ?_⟩) (by assumption) ?_
            rotate_left 1
            · (intro w hSw; (try dsimp only at hSw); (try simp only [List.getElem_toArray, List.getElem_cons_succ, List.getElem_cons_zero]); first | (go_simp; done) | (go_simp; with_reducible rfl))
            (try simp only [Act.put, List.setIfInBounds_toArray, List.set_cons_zero, List.set_cons_succ, List.getElem_toArray, List.getElem_cons_succ, List.getElem_cons_zero])
            refine wpAnyH_take (i := 9) (oi := _) (v := ?_) rfl (by kernel_rfl) (by kernel_rfl) (by kernel_rfl) (fun _ _ _ h => h) (Or.inl ⟨by rfl, ?_⟩) (by assumption) ?_
            rotate_left 1
            · (intro w hSw; (try dsimp only at hSw); (try simp only [List.getElem_toArray, List.getElem_cons_succ, List.getElem_cons_zero]); first | (go_simp; done) | (go_simp; with_reducible rfl))
            (try simp only [Act.put, List.setIfInBounds_toArray, List.set_cons_zero, List.set_cons_succ, List.getElem_toArray, List.getElem_cons_succ, List.getElem_cons_zero])
            refine wpAnyH_ready (rs := [11]) (by kernel_rfl) (by simp) (AllReadyH.cons rfl (fun K hK => ?_) AllReadyH.nil)
            · go_simp
              refine hK.out _ _ ?_ (fun hHeld5 => ?_)
              · ((try dsimp only); (refine ⟨?_, ?_⟩ <;> go_simp))
              clear hK K hHeld4
              (try simp only [Act.put, List.setIfInBounds_toArray, List.set_cons_zero, List.set_cons_succ, List.getElem_toArray, List.getElem_cons_succ, List.getElem_cons_zero])
              refine wpAnyH_take (i := 12) (oi := _) (v := ?_) rfl (by kernel_rfl) (by kernel_rfl) (by kernel_rfl) (fun _ _ _ h => h) (Or.inl ⟨by rfl, ?_⟩) (by assumption) ?_
              rotate_left 1
              · (intro w hSw; (try dsimp only at hSw); (try simp only [List.getElem_toArray, List.getElem_cons_succ, List.getElem_cons_zero]); first | (go_simp; done) | (go_simp; with_reducible rfl))
              (try simp only [Act.put, List.setIfInBounds_toArray, List.set_cons_zero, List.set_cons_succ, List.getElem_toArray, List.getElem_cons_succ, List.getElem_cons_zero])
              refine wpAnyH_done (by kernel_rfl) ?_ _
              go_wp2_with fail
              go_meet
              refine ⟨_, rfl, rfl, ?_, ?_, (by repeat' (first | (with_reducible exact Below.refl _ _) | (with_reducible assumption) | (with_reducible refine Below.alloc ?_ ?_ _) | (with_reducible refine Below.drew ?_) | (with_reducible refine below_drewN ?_ _) | (with_reducible refine Below.setCell ?_ ?_ _) | (with_reducible refine below_setRow' ?_ ?_ _) | go_size))⟩
              all_goals go_simp
    · go_simp
      refine hK.out _ _ ?_ (fun hHeld1 => ?_)
      · ((try dsimp only); (refine ⟨?_, ?_⟩ <;> go_simp))
      clear hK K hHeld0
      (try simp only [Act.put, List.setIfInBounds_toArray, List.set_cons_zero, List.set_cons_succ, List.getElem_toArray, List.getElem_cons_succ, List.getElem_cons_zero])
      refine wpAnyH_ready (rs := [3]) (by kernel_rfl) (by simp) (AllReadyH.cons rfl (fun K hK => ?_) AllReadyH.nil)
      · go_simp
        go_wp2_with (first
          | (go_at_call 26; (with_reducible refine (implAddrFrom4 (b4 := b4) (o4 := o4) _ HB12.out _ ?_).mono ?_); (exact HG.out.g4.below (by repeat' (first | (with_reducible exact Below.refl _ _) | (with_reducible assumption) | (with_reducible refine Below.alloc ?_ ?_ _) | (with_reducible refine Below.drew ?_) | (with_reducible refine below_drewN ?_ _) | (with_reducible refine Below.setCell ?_ ?_ _) | (with_reducible refine below_setRow' ?_ ?_ _) | go_size)) (Nat.le_refl _)); rintro e wA ⟨rfl, hb1⟩; have hk1 := blk?_below hb1; (try simp only [size_drew', size_drewN'] at hk1); have hB1 := below_via (w := w) (by repeat' (first | (with_reducible exact Below.refl _ _) | (with_reducible assumption) | (with_reducible refine Below.alloc ?_ ?_ _) | (with_reducible refine Below.drew ?_) | (with_reducible refine below_drewN ?_ _) | (with_reducible refine Below.setCell ?_ ?_ _) | (with_reducible refine below_setRow' ?_ ?_ _) | go_size)) hb1; have hL0 : w.heap.size < wA.heap.size := (by have hS0 := hb1.size; (try simp at hS0); omega); have hL1 : w.heap.size + 1 < wA.heap.size := (by have hS0 := hb1.size; (try simp at hS0); omega); have hL2 : w.heap.size + 1 + 1 < wA.heap.size := (by have hS0 := hb1.size; (try simp at hS0); omega); have hLe : w.heap.size ≤ wA.heap.size := hB1.size; have hS9 := hb1.size; (try simp [Nat.add_one_le_iff] at hS9); (try (have hS8 := Nat.lt_of_succ_lt hS9)); have hQ0a : w.heap.size < wA.heap.size + 1 := (by omega); have hQ0b : w.heap.size < wA.heap.size + 1 + 1 := (by omega); have hQ1a : w.heap.size + 1 < wA.heap.size + 1 := (by omega); have hQ1b : w.heap.size + 1 < wA.heap.size + 1 + 1 := (by omega); have hQ2a : w.heap.size + 1 + 1 < wA.heap.size + 1 := (by omega); have hQ2b : w.heap.size + 1 + 1 < wA.heap.size + 1 + 1 := (by omega); clear hb1))
        refine hK.out _ _ ?_ (fun hHeld2 => ?_)
        · ((try dsimp only); (refine ⟨?_, ?_⟩ <;> go_simp))
        clear hK K hHeld1
        (try simp only [Act.put, List.setIfInBounds_toArray, List.set_cons_zero, List.set_cons_succ, List.getElem_toArray, List.getElem_cons_succ, List.getElem_cons_zero])
        refine wpAnyH_ready (rs := [4]) (by kernel_rfl) (by simp) (AllReadyH.cons rfl (fun K hK => ?_) AllReadyH.nil)
        · go_simp
          go_wp2_with (first
            | (go_at_call 60; (with_reducible refine (HStr.out _ ?_).mono ?_); (exact HG.out.below (by repeat' (first | (with_reducible exact Below.refl _ _) | (with_reducible assumption) | (with_reducible refine Below.alloc ?_ ?_ _) | (with_reducible refine Below.drew ?_) | (with_reducible refine below_drewN ?_ _) | (with_reducible refine Below.setCell ?_ ?_ _) | (with_reducible refine below_setRow' ?_ ?_ _) | go_size)) (Nat.le_refl _)); rintro e wS ⟨rfl, hb1⟩; have hk1 := blk?_below hb1; (try simp only [size_drew', size_drewN'] at hk1); have hB1 := below_via (w := w) (by repeat' (first | (with_reducible exact Below.refl _ _) | (with_reducible assumption) | (with_reducible refine Below.alloc ?_ ?_ _) | (with_reducible refine Below.drew ?_) | (with_reducible refine below_drewN ?_ _) | (with_reducible refine Below.setCell ?_ ?_ _) | (with_reducible refine below_setRow' ?_ ?_ _) | go_size)) hb1; have hL0 : w.heap.size < wS.heap.size := (by have hS0 := hb1.size; (try simp at hS0); omega); have hL1 : w.heap.size + 1 < wS.heap.size := (by have hS0 := hb1.size; (try simp at hS0); omega); have hL2 : w.heap.size + 1 + 1 < wS.heap.size := (by have hS0 := hb1.size; (try simp at hS0); omega); have hLe : w.heap.size ≤ wS.heap.size := hB1.size; have hS9 := hb1.size; (try simp [Nat.add_one_le_iff] at hS9); (try (have hS8 := Nat.lt_of_succ_lt hS9)); (try (have hT0 : w1.heap.size < wS.heap.size := (by have hS0 := hb1.size; (try simp at hS0); omega))); (try (have hT1 : wA.heap.size < wS.heap.size := (by have hS0 := hb1.size; (try simp at hS0); omega))); have hQ0a : w.heap.size < wS.heap.size + 1 := (by omega); have hQ0b : w.heap.size < wS.heap.size + 1 + 1 := (by omega); have hQ1a : w.heap.size + 1 < wS.heap.size + 1 := (by omega); have hQ1b : w.heap.size + 1 < wS.heap.size + 1 + 1 := (by omega); have hQ2a : w.heap.size + 1 + 1 < wS.heap.size + 1 := (by omega); have hQ2b : w.heap.size + 1 + 1 < wS.heap.size + 1 + 1 := (by omega); clear hb1))
          refine hK.out _ _ ?_ (fun hHeld3 => ?_)
          · ((try dsimp only); (refine ⟨?_, ?_⟩ <;> go_simp))
          clear hK K hHeld2
          (try simp only [Act.put, List.setIfInBounds_toArray, List.set_cons_zero, List.set_cons_succ, List.getElem_toArray, List.getElem_cons_succ, List.getElem_cons_zero])
          refine wpAnyH_take (i := 5) (oi := _) (v := ?_) rfl (by kernel_rfl) (by kernel_rfl) (by kernel_rfl) (fun _ _ _ h => h) (Or.inl ⟨by rfl, ?_⟩) (by assumption) ?_
          rotate_left 1
          · (intro w hSw; (try dsimp only at hSw); (try simp only [List.getElem_toArray, List.getElem_cons_succ, List.getElem_cons_zero]); first | (go_simp; done) | (go_simp; with_reducible rfl))
          (try simp only [Act.put, List.setIfInBounds_toArray, List.set_cons_zero, List.set_cons_succ, List.getElem_toArray, List.getElem_cons_succ, List.getElem_cons_zero])
          refine wpAnyH_ready (rs := [6]) (by kernel_rfl) (by simp) (AllReadyH.cons rfl (fun K hK => ?_) AllReadyH.nil)
          · go_simp
            go_wp2_with (first
              | (go_at_call 66; (with_reducible refine (HP.out _ ?_).mono ?_); (exact HG.out.below (by repeat' (first | (with_reducible exact Below.refl _ _) | (with_reducible assumption) | (with_reducible refine Below.alloc ?_ ?_ _) | (with_reducible refine Below.drew ?_) | (with_reducible refine below_drewN ?_ _) | (with_reducible refine Below.setCell ?_ ?_ _) | (with_reducible refine below_setRow' ?_ ?_ _) | go_size)) (Nat.le_refl _)); rintro e wP ⟨rfl, hb1⟩; have hk1 := blk?_below hb1; (try simp only [size_drew', size_drewN'] at hk1); have hB1 := below_via (w := w) (by repeat' (first | (with_reducible exact Below.refl _ _) | (with_reducible assumption) | (with_reducible refine Below.alloc ?_ ?_ _) | (with_reducible refine Below.drew ?_) | (with_reducible refine below_drewN ?_ _) | (with_reducible refine Below.setCell ?_ ?_ _) | (with_reducible refine below_setRow' ?_ ?_ _) | go_size)) hb1; have hL0 : w.heap.size < wP.heap.size := (by have hS0 := hb1.size; (try simp at hS0); omega); have hL1 : w.heap.size + 1 < wP.heap.size := (by have hS0 := hb1.size; (try simp at hS0); omega); have hL2 : w.heap.size + 1 + 1 < wP.heap.size := (by have hS0 := hb1.size; (try simp at hS0); omega); have hLe : w.heap.size ≤ wP.heap.size := hB1.size; have hS9 := hb1.size; (try simp [Nat.add_one_le_iff] at hS9); (try (have hS8 := Nat.lt_of_succ_lt hS9)); (try (have hT0 : w1.heap.size < wP.heap.size := (by have hS0 := hb1.size; (try simp at hS0); omega))); (try (have hT1 : wA.heap.size < wP.heap.size := (by have hS0 := hb1.size; (try simp at hS0); omega))); (try (have hT2 : wS.heap.size < wP.heap.size := (by have hS0 := hb1.size; (try simp at hS0); omega))); have hQ0a : w.heap.size < wP.heap.size + 1 := (by omega); have hQ0b : w.heap.size < wP.heap.size + 1 + 1 := (by omega); have hQ1a : w.heap.size + 1 < wP.heap.size + 1 := (by omega); have hQ1b : w.heap.size + 1 < wP.heap.size + 1 + 1 := (by omega); have hQ2a : w.heap.size + 1 + 1 < wP.heap.size + 1 := (by omega); have hQ2b : w.heap.size + 1 + 1 < wP.heap.size + 1 + 1 := (by omega); clear hb1))
            refine hK.out _ _ ?_ (fun hHeld4 => ?_)
            · ((try dsimp only); (refine ⟨?_, ?_⟩ <;> go_simp))
            clear hK K hHeld3
            (try simp only [Act.put, List.setIfInBounds_toArray, List.set_cons_zero, List.set_cons_succ, List.getElem_toArray, List.getElem_cons_succ, List.getElem_cons_zero])
            refine wpAnyH_take (i := 7) (oi := _) (v := ?_) rfl (by kernel_rfl) (by kernel_rfl) (by kernel_rfl) (fun _ _ _ h => h) (Or.inl ⟨by rfl, ?_⟩) (by assumption) ?_
            rotate_left 1
            · (intro w hSw; (try dsimp only at hSw); (try simp only [List.getElem_toArray, List.getElem_cons_succ, List.getElem_cons_zero]); first | (go_simp; done) | (go_simp; with_reducible rfl))
            (try simp only [Act.put, List.setIfInBounds_toArray, List.set_cons_zero, List.set_cons_succ, List.getElem_toArray, List.getElem_cons_succ, List.getElem_cons_zero])
            refine wpAnyH_take (i := 8) (oi := _) (v := ?_) rfl (by kernel_rfl) (by kernel_rfl) (by kernel_rfl) (fun _ _ _ h => h) (Or.inl ⟨by rfl, ?_⟩) (by assumption) ?_
            rotate_left 1
            · (intro w hSw; (try dsimp only at hSw); (try simp only [List.getElem_toArray, List.getElem_cons_succ, List.getElem_cons_zero]); first | (go_simp; done) | (go_simp; with_reducible rfl))
            (try simp only [Act.put, List.setIfInBounds_toArray, List.set_cons_zero, List.set_cons_succ, List.getElem_toArray, List.getElem_cons_succ, List.getElem_cons_zero])
            refine wpAnyH_take (i := 9) (oi := _) (v := ?_) rfl (by kernel_rfl) (by kernel_rfl) (by kernel_rfl) (fun _ _ _ h => h) (Or.inl ⟨by rfl, ?_⟩) (by assumption) ?_
            rotate_left 1
            · (intro w hSw; (try dsimp only at hSw); (try simp only [List.getElem_toArray, List.getElem_cons_succ, List.getElem_cons_zero]); first | (go_simp; done) | (go_simp; with_reducible rfl))
            (try simp only [Act.put, List.setIfInBounds_toArray, List.set_cons_zero, List.set_cons_succ, List.getElem_toArray, List.getElem_cons_succ, List.getElem_cons_zero])
            refine wpAnyH_ready (rs := [11]) (by kernel_rfl) (by simp) (AllReadyH.cons rfl (fun K hK => ?_) AllReadyH.nil)
            · go_simp
              refine hK.out _ _ ?_ (fun hHeld5 => ?_)
              · ((try dsimp only); (refine ⟨?_, ?_⟩ <;> go_simp))
              clear hK K hHeld4
              (try simp only [Act.put, List.setIfInBounds_toArray, List.set_cons_zero, List.set_cons_succ, List.getElem_toArray, List.getElem_cons_succ, List.getElem_cons_zero])
              refine wpAnyH_take (i := 12) (oi := _) (v := ?_) rfl (by kernel_rfl) (by kernel_rfl) (by kernel_rfl) (fun _ _ _ h => h) (Or.inl ⟨by rfl, ?_⟩) (by assumption) ?_
              rotate_left 1
              · (intro w hSw; (try dsimp only at hSw); (try simp only [List.getElem_toArray, List.getElem_cons_succ, List.getElem_cons_zero]); first | (go_simp; done) | (go_simp; with_reducible rfl))
              (try simp only [Act.put, List.setIfInBounds_toArray, List.set_cons_zero, List.set_cons_succ, List.getElem_toArray, List.getElem_cons_succ, List.getElem_cons_zero])
              refine wpAnyH_done (by kernel_rfl) ?_ _
              go_wp2_with fail
              go_meet
              refine ⟨_, rfl, rfl, ?_, ?_, (by repeat' (first | (with_reducible exact Below.refl _ _) | (with_reducible assumption) | (with_reducible refine Below.alloc ?_ ?_ _) | (with_reducible refine Below.drew ?_) | (with_reducible refine below_drewN ?_ _) | (with_reducible refine Below.setCell ?_ ?_ _) | (with_reducible refine below_setRow' ?_ ?_ _) | go_size))⟩
              all_goals go_simp
  case rest =>
    obtain ⟨g6, rfl, rfl, k4, k6, hB⟩ := hcut
    have hl4 := blk?_lt k4
    have hl6 := blk?_lt k6
    go_wp2
    go_ret
    exact ⟨rfl, (by repeat' (first | (with_reducible exact Below.refl _ _) | (with_reducible assumption) | (with_reducible refine Below.alloc ?_ ?_ _) | (with_reducible refine Below.drew ?_) | (with_reducible refine below_drewN ?_ _) | (with_reducible refine Below.setCell ?_ ?_ _) | (with_reducible refine below_setRow' ?_ ?_ _) | go_size))⟩
end Go.Proofs.YtmlkcgacneealaaDoor
