/- FnSmallLetters returns true. Conditions: the listed variables as laid. -/
import Derived.Test.YtmlkcgacneealaaDoorLawQ
import Derived.Laws.Concat
import Derived.Deep.DeepCutAuto
set_option linter.unusedVariables false
set_option linter.unusedSimpArgs false
namespace Go.Proofs.YtmlkcgacneealaaDoor
open Go.RowKit

/-- A digit, a small letter from a to f, a colon or a full stop. -/
def Gd (c : Int) : Prop := (48 ≤ c ∧ c ≤ 57) ∨ (97 ≤ c ∧ c ≤ 102) ∨ c = 58 ∨ c = 46
def Gds (s : List Int) : Prop := ∀ c ∈ s, Gd c
theorem Gds.append {s t : List Int} (h : Gds s) (k : Gds t) : Gds (s ++ t) := fun x hx => by
  rcases List.mem_append.1 hx with h' | h'
  · exact h x h'
  · exact k x h'
theorem Gds_nil : Gds [] := fun x hx => by simp at hx
theorem Gd_dig (i : Int) (h : 0 ≤ i ∧ i < 16) : Gd (dig i) := by unfold Gd dig; split <;> omega
theorem Gds_dec (x : Int) (h : 0 ≤ x ∧ x < 256) : Gds (dec x) := fun y hy => by
  unfold dec at hy
  have d1 := Gd_dig (x / 100) (by omega)
  have d2 := Gd_dig (x / 10 % 10) (by omega)
  have d3 := Gd_dig (x % 10) (by omega)
  split at hy <;> split at hy <;> simp at hy <;> (first | (rcases hy with rfl | rfl | rfl <;> assumption) | (rcases hy with rfl | rfl <;> assumption) | (subst hy; assumption))
theorem Gds_hexd (x : Int) (h : 0 ≤ x ∧ x < 65536) : Gds (hexd x) := fun y hy => by
  unfold hexd at hy
  have d1 := Gd_dig (x / 4096) (by omega)
  have d2 := Gd_dig (x / 256 % 16) (by omega)
  have d3 := Gd_dig (x / 16 % 16) (by omega)
  have d4 := Gd_dig (x % 16) (by omega)
  split at hy <;> split at hy <;> split at hy <;> simp at hy <;> (first | (rcases hy with rfl | rfl | rfl | rfl <;> assumption) | (rcases hy with rfl | rfl | rfl <;> assumption) | (rcases hy with rfl | rfl <;> assumption) | (subst hy; assumption))
theorem Gds_padh (x : Int) (h : 0 ≤ x ∧ x < 65536) : Gds (padh x) := fun y hy => by
  unfold padh at hy
  have d1 := Gd_dig (x / 4096) (by omega)
  have d2 := Gd_dig (x / 256 % 16) (by omega)
  have d3 := Gd_dig (x / 16 % 16) (by omega)
  have d4 := Gd_dig (x % 16) (by omega)
  simp at hy
  rcases hy with rfl | rfl | rfl | rfl <;> assumption
theorem Gds_one (x : Int) (h : Gd x) : Gds [x] := fun y hy => by simp at hy; subst hy; exact h
theorem Gd58 : Gd 58 := by unfold Gd; omega
theorem Gd46 : Gd 46 := by unfold Gd; omega
theorem Gds_t4 (lo : Int) : Gds (t4 lo) := by
  have h46 := Gds_one 46 Gd46
  unfold t4 dot4
  exact ((((((Gds_dec _ (by omega)).append h46).append (Gds_dec _ (by omega))).append h46).append (Gds_dec _ (by omega))).append h46).append (Gds_dec _ (by omega))
theorem Gds_t46 (lo : Int) : Gds (t46 lo) := by
  have : Gds [58, 58, 102, 102, 102, 102, 58] := fun y hy => by simp at hy; unfold Gd; omega
  exact this.append (Gds_t4 lo)
theorem Gds_js (g : Nat → Int) (a : Nat) : ∀ n, (∀ i, i < n → 0 ≤ g (a + i) ∧ g (a + i) < 65536) → Gds (js g a n)
  | 0, _ => Gds_nil
  | n + 1, h => by
    simp only [js]
    refine ((Gds_js g a n (fun i hi => h i (by omega))).append ?_).append (Gds_hexd _ (h n (by omega)))
    split
    · exact Gds_one 58 Gd58
    · exact Gds_nil
theorem Gds_jp (g : Nat → Int) : ∀ n, (∀ i, i < n → 0 ≤ g i ∧ g i < 65536) → Gds (jp g n)
  | 0, _ => Gds_nil
  | n + 1, h => by
    simp only [jp]
    refine ((Gds_jp g n (fun i hi => h i (by omega))).append ?_).append (Gds_padh _ (h n (by omega)))
    split
    · exact Gds_one 58 Gd58
    · exact Gds_nil
theorem Gds_out6 (g : Nat → Int) (hg : ∀ i, i < 8 → 0 ≤ g i ∧ g i < 65536) (zs ze : Nat) (hz : Zok g zs ze) : Gds (out6 g zs ze) := by
  unfold out6
  split
  · exact Gds_js g 0 8 (fun i hi => by rw [Nat.zero_add]; exact hg i hi)
  · rename_i h
    rcases hz with ⟨h1, _⟩ | ⟨h1, h2, _⟩
    · exact absurd h1 h
    · exact ((Gds_js g 0 zs (fun i hi => by rw [Nat.zero_add]; exact hg i (by omega))).append ((Gds_one 58 Gd58).append (Gds_one 58 Gd58))).append (Gds_js g ze (8 - ze) (fun i hi => hg _ (by omega)))
/-- A good text as Go's string: its signs. -/
theorem Gds_get {s : List Int} (h : Gds s) (i : Nat) (hi : i < (ba s).size) : Gd (((ba s)[i].toNat : Nat) : Int) := by
  have hi' : i < s.length := by rw [ba_size] at hi; exact hi
  have hx := h s[i] (List.getElem_mem hi')
  have e : (ba s)[i].toNat = s[i].toNat % 256 := by
    show ((ba s).data[i]).toNat = _
    simp [ba]
  rw [e]
  unfold Gd at hx ⊢
  omega
theorem ba_append (s t : List Int) : ba s ++ ba t = ba (s ++ t) := by
  apply ByteArray.ext
  simp [ba]
theorem idx_ba (s : List Int) (k : Nat) (hk : k < (ba s).size) (w : World) : (Instr.index 9 (.string (ba s)) (.int .i64 (k : Int))).run Tryd.prog w = .ok (.int .u8 (((ba s)[k].toNat : Nat) : Int)) w := by
  simp [go_sem, Instr.index, run_underlying Tryd.underlying9, hk]
set_option maxHeartbeats 4000000 in
set_option maxRecDepth 100000 in
theorem law17_4w (b : Nat → Int) (z : ByteArray) {b4 o4 b6 o6 : Nat} (w : World) (hg : Gl b4 o4 b6 o6 w)
    (hS : ∀ w, Gl b4 o4 b6 o6 w → Calls Tryd.prog 60 #[.agg (adr 4 (pre 4 b) ⟨#[]⟩)] w fun e w' => (∃ s : List Int, Gds s ∧ 1 ≤ s.length ∧ s.length ≤ 39 ∧ e = .returned (.string (ba s))) ∧ Below w.heap.size w w')
    (hE : ∀ w, Gl b4 o4 b6 o6 w → Calls Tryd.prog 61 #[.agg (adr 4 (pre 4 b) ⟨#[]⟩)] w fun e w' => (∃ s : List Int, Gds s ∧ s.length ≤ 39 ∧ e = .returned (.string (ba s))) ∧ Below w.heap.size w w') :
    Calls Tryd.prog 17 #[.agg (adr 4 b z)] w fun e w' => e = .returned (.bool true) ∧ Below w.heap.size w w' := by
  have HG := Lib.hid hg
  have HS := Lib.hid hS
  have HE := Lib.hid hE
  clear hg hS hE
  go_enter Tryd.func17, Tryd.ntmps17
  go_upto_region 4 with (first
    | (go_at_call 52; (with_reducible refine (bare_4 _ _ _).mono ?_); rintro e w1 ⟨rfl, hb1⟩; have hk1 := blk?_below hb1; (try simp only [size_drew', size_drewN'] at hk1); have hB1 := below_via (w := w) (by repeat' (first | (with_reducible exact Below.refl _ _) | (with_reducible assumption) | (with_reducible refine Below.alloc ?_ ?_ _) | (with_reducible refine Below.drew ?_) | (with_reducible refine below_drewN ?_ _) | (with_reducible refine Below.setCell ?_ ?_ _) | (with_reducible refine below_setRow' ?_ ?_ _) | go_size)) hb1; have hL0 : w.heap.size < w1.heap.size := (by have hS0 := hb1.size; (try simp at hS0); omega); have hLe : w.heap.size ≤ w1.heap.size := hB1.size; clear hb1)
    | (go_at_call 36; (with_reducible refine (valid_4 _ _ _).mono ?_); rintro e w2 ⟨rfl, hb1⟩; have hk1 := blk?_below hb1; (try simp only [size_drew', size_drewN'] at hk1); have hB1 := below_via (w := w) (by repeat' (first | (with_reducible exact Below.refl _ _) | (with_reducible assumption) | (with_reducible refine Below.alloc ?_ ?_ _) | (with_reducible refine Below.drew ?_) | (with_reducible refine below_drewN ?_ _) | (with_reducible refine Below.setCell ?_ ?_ _) | (with_reducible refine below_setRow' ?_ ?_ _) | go_size)) hb1; have hL0 : w.heap.size < w2.heap.size := (by have hS0 := hb1.size; (try simp at hS0); omega); have hLe : w.heap.size ≤ w2.heap.size := hB1.size; clear hb1))
  have k0 : blk? w2 w.heap.size = some (adr 4 (pre 4 b) ⟨#[]⟩) := by go_simp
  refine wp_region_held_drew (S := fun w' => blk? w' (w.heap.size) = some (adr 4 (pre 4 b) ⟨#[]⟩)) (by kernel_rfl) ?_ (fun hHeld0 => ?_)
  · ((try dsimp only); go_simp)
  refine wpAnyH_take (i := 0) (oi := _) (v := ?_) rfl (by kernel_rfl) (by kernel_rfl) (by kernel_rfl) (fun _ _ _ h => h) (Or.inl ⟨by rfl, ?_⟩) (by assumption) ?_
  rotate_left 1
  · (intro w hSw; (try dsimp only at hSw); (try simp only [List.getElem_toArray, List.getElem_cons_succ, List.getElem_cons_zero]); first | (go_simp; done) | (go_simp; with_reducible rfl))
  (try simp only [Act.put, List.setIfInBounds_toArray, List.set_cons_zero, List.set_cons_succ, List.getElem_toArray, List.getElem_cons_succ, List.getElem_cons_zero])
  refine wpAnyH_take (i := 2) (oi := _) (v := ?_) rfl (by kernel_rfl) (by kernel_rfl) (by kernel_rfl) (fun _ _ _ h => h) (Or.inl ⟨by rfl, ?_⟩) (by assumption) ?_
  rotate_left 1
  · (intro w hSw; (try dsimp only at hSw); (try simp only [List.getElem_toArray, List.getElem_cons_succ, List.getElem_cons_zero]); first | (go_simp; done) | (go_simp; with_reducible rfl))
  (try simp only [Act.put, List.setIfInBounds_toArray, List.set_cons_zero, List.set_cons_succ, List.getElem_toArray, List.getElem_cons_succ, List.getElem_cons_zero])
  refine wpAnyH_ready (rs := [1]) (by kernel_rfl) (by simp) (AllReadyH.cons rfl (fun K hK => ?_) AllReadyH.nil)
  go_simp
  go_wp2_with (first
    | (go_at_call 60; (with_reducible refine (HS.out _ ?_).mono ?_); (exact HG.out.below (by repeat' (first | (with_reducible exact Below.refl _ _) | (with_reducible assumption) | (with_reducible refine Below.alloc ?_ ?_ _) | (with_reducible refine Below.drew ?_) | (with_reducible refine below_drewN ?_ _) | (with_reducible refine Below.setCell ?_ ?_ _) | (with_reducible refine below_setRow' ?_ ?_ _) | go_size)) (Nat.le_refl _)); rintro e wS ⟨⟨s1, g1, p1, l1, rfl⟩, hb1⟩; have hk1 := blk?_below hb1; (try simp only [size_drew', size_drewN'] at hk1); have hB1 := below_via (w := w) (by repeat' (first | (with_reducible exact Below.refl _ _) | (with_reducible assumption) | (with_reducible refine Below.alloc ?_ ?_ _) | (with_reducible refine Below.drew ?_) | (with_reducible refine below_drewN ?_ _) | (with_reducible refine Below.setCell ?_ ?_ _) | (with_reducible refine below_setRow' ?_ ?_ _) | go_size)) hb1; have hL0 : w.heap.size < wS.heap.size := (by have hS0 := hb1.size; (try simp at hS0); omega); have hLe : w.heap.size ≤ wS.heap.size := hB1.size; clear hb1))
  refine hK.out _ _ ?_ (fun hHeld1 => ?_)
  · ((try dsimp only); go_simp)
  clear hK K hHeld0
  (try simp only [Act.put, List.setIfInBounds_toArray, List.set_cons_zero, List.set_cons_succ, List.getElem_toArray, List.getElem_cons_succ, List.getElem_cons_zero])
  refine wpAnyH_ready (rs := [3]) (by kernel_rfl) (by simp) (AllReadyH.cons rfl (fun K hK => ?_) AllReadyH.nil)
  go_simp
  go_wp2_with (first
    | (go_at_call 61; (with_reducible refine (HE.out _ ?_).mono ?_); (exact HG.out.below (by repeat' (first | (with_reducible exact Below.refl _ _) | (with_reducible assumption) | (with_reducible refine Below.alloc ?_ ?_ _) | (with_reducible refine Below.drew ?_) | (with_reducible refine below_drewN ?_ _) | (with_reducible refine Below.setCell ?_ ?_ _) | (with_reducible refine below_setRow' ?_ ?_ _) | go_size)) (Nat.le_refl _)); rintro e wE ⟨⟨s2, g2, l2, rfl⟩, hb1⟩; have hk1 := blk?_below hb1; (try simp only [size_drew', size_drewN'] at hk1); have hB1 := below_via (w := w) (by repeat' (first | (with_reducible exact Below.refl _ _) | (with_reducible assumption) | (with_reducible refine Below.alloc ?_ ?_ _) | (with_reducible refine Below.drew ?_) | (with_reducible refine below_drewN ?_ _) | (with_reducible refine Below.setCell ?_ ?_ _) | (with_reducible refine below_setRow' ?_ ?_ _) | go_size)) hb1; have hL0 : w.heap.size < wE.heap.size := (by have hS0 := hb1.size; (try simp at hS0); omega); have hLe : w.heap.size ≤ wE.heap.size := hB1.size; have hsz : ¬ (9223372036854775807 < (ba s1).size + (ba s2).size) := (by rw [ba_size, ba_size]; omega); clear hb1))
  refine hK.out _ _ ?_ (fun hHeld2 => ?_)
  · ((try dsimp only); go_simp)
  clear hK K hHeld1
  (try simp only [Act.put, List.setIfInBounds_toArray, List.set_cons_zero, List.set_cons_succ, List.getElem_toArray, List.getElem_cons_succ, List.getElem_cons_zero])
  refine wpAnyH_take (i := 4) (oi := _) (v := ?_) rfl (by kernel_rfl) (by kernel_rfl) (by kernel_rfl) (fun _ _ _ h => h) (Or.inl ⟨by rfl, ?_⟩) (by assumption) ?_
  rotate_left 1
  · (intro w hSw; (try dsimp only at hSw); (try simp only [List.getElem_toArray, List.getElem_cons_succ, List.getElem_cons_zero]); first | (go_simp; done) | (go_simp; with_reducible rfl))
  (try simp only [Act.put, List.setIfInBounds_toArray, List.set_cons_zero, List.set_cons_succ, List.getElem_toArray, List.getElem_cons_succ, List.getElem_cons_zero])
  refine wpAnyH_take (i := 5) (oi := _) (v := ?_) rfl (by kernel_rfl) (by kernel_rfl) (by kernel_rfl) (fun _ _ _ h => h) (Or.inl ⟨by rfl, ?_⟩) (by assumption) ?_
  rotate_left 1
  · (intro w hSw; (try dsimp only at hSw); (try simp only [List.getElem_toArray, List.getElem_cons_succ, List.getElem_cons_zero]); first | (go_simp; done) | (go_simp; with_reducible rfl))
  (try simp only [Act.put, List.setIfInBounds_toArray, List.set_cons_zero, List.set_cons_succ, List.getElem_toArray, List.getElem_cons_succ, List.getElem_cons_zero])
  refine wpAnyH_done (by kernel_rfl) ?_ _
  have hgd : Gds (s1 ++ s2) := g1.append g2
  have hln : 1 ≤ (s1 ++ s2).length ∧ (s1 ++ s2).length ≤ 78 := by rw [List.length_append]; omega
  (try simp only [ba_append])
  generalize s1 ++ s2 = s at hgd hln
  clear g1 g2 p1 l1 l2 hsz
  go_wp2
  go_loopw [18, 4, 5] (fun i v4 v5 wr => ∃ k : Nat, k ≤ (ba s).size ∧ i = .int .i64 k ∧ Below w.heap.size w wr) (fun i _ _ _ => (ba s).size - (intOf i).toNat)
  case atStart => exact ⟨0, by omega, rfl, (by repeat' (first | (with_reducible exact Below.refl _ _) | (with_reducible assumption) | (with_reducible refine Below.alloc ?_ ?_ _) | (with_reducible refine Below.drew ?_) | (with_reducible refine below_drewN ?_ _) | (with_reducible refine Below.setCell ?_ ?_ _) | (with_reducible refine below_setRow' ?_ ?_ _) | go_size))⟩
  case round =>
    obtain ⟨k, hk, rfl, hB⟩ := hrel
    have hsz := ba_size s
    have hk0 : (0 : Int) ≤ (k : Int) := by omega
    by_cases hlt : k < (ba s).size
    · have hk1 : (k : Int) < (((ba s).size : Nat) : Int) := by omega
      have hk2 : (k : Int) + 1 ≤ 9223372036854775807 := by omega
      have hgt := Gds_get hgd k hlt
      have hidx := idx_ba s k hlt
      obtain ⟨c, hc⟩ : ∃ c : Int, c = (((ba s)[k].toNat : Nat) : Int) := ⟨_, rfl⟩
      rw [← hc] at hgt hidx
      have hcv : (((ba s)[k].toNat : Nat) : Int) = c := hc.symm
      clear hc hsz
      rcases hgt with ⟨c1, c2⟩ | ⟨c1, c2⟩ | c1 | c1
      · have c3 : ¬ (c < 48) := by omega
        have c4 : ¬ (57 < c) := by omega
        go_wp2
        go_roundw
        case rel => exact ⟨k + 1, by omega, by go_num, (by repeat' (first | (with_reducible exact Below.refl _ _) | (with_reducible assumption) | (with_reducible refine Below.alloc ?_ ?_ _) | (with_reducible refine Below.drew ?_) | (with_reducible refine below_drewN ?_ _) | (with_reducible refine Below.setCell ?_ ?_ _) | (with_reducible refine below_setRow' ?_ ?_ _) | go_size))⟩
        case measure => simp [intOf]; omega
      · have c3 : ¬ (c < 48) := by omega
        have c4 : 57 < c := by omega
        have c5 : ¬ (c < 97) := by omega
        have c6 : ¬ (102 < c) := by omega
        go_wp2
        go_roundw
        case rel => exact ⟨k + 1, by omega, by go_num, (by repeat' (first | (with_reducible exact Below.refl _ _) | (with_reducible assumption) | (with_reducible refine Below.alloc ?_ ?_ _) | (with_reducible refine Below.drew ?_) | (with_reducible refine below_drewN ?_ _) | (with_reducible refine Below.setCell ?_ ?_ _) | (with_reducible refine below_setRow' ?_ ?_ _) | go_size))⟩
        case measure => simp [intOf]; omega
      · subst c1
        go_wp2
        go_roundw
        case rel => exact ⟨k + 1, by omega, by go_num, (by repeat' (first | (with_reducible exact Below.refl _ _) | (with_reducible assumption) | (with_reducible refine Below.alloc ?_ ?_ _) | (with_reducible refine Below.drew ?_) | (with_reducible refine below_drewN ?_ _) | (with_reducible refine Below.setCell ?_ ?_ _) | (with_reducible refine below_setRow' ?_ ?_ _) | go_size))⟩
        case measure => simp [intOf]; omega
      · subst c1
        go_wp2
        go_roundw
        case rel => exact ⟨k + 1, by omega, by go_num, (by repeat' (first | (with_reducible exact Below.refl _ _) | (with_reducible assumption) | (with_reducible refine Below.alloc ?_ ?_ _) | (with_reducible refine Below.drew ?_) | (with_reducible refine below_drewN ?_ _) | (with_reducible refine Below.setCell ?_ ?_ _) | (with_reducible refine below_setRow' ?_ ?_ _) | go_size))⟩
        case measure => simp [intOf]; omega
    · have hk1 : ¬ ((k : Int) < (((ba s).size : Nat) : Int)) := by omega
      have hne : ba s ≠ ⟨#[]⟩ := fun e => by
        have h0 : (ba s).size = 0 := by rw [e]; rfl
        omega
      have hem : (ba s).toList.isEmpty = false := by
        cases h : (ba s).toList.isEmpty
        · rfl
        · exact absurd (zone_empty h) hne
      clear hne
      go_wp2
      go_ret
      exact ⟨rfl, (by repeat' (first | (with_reducible exact Below.refl _ _) | (with_reducible assumption) | (with_reducible refine Below.alloc ?_ ?_ _) | (with_reducible refine Below.drew ?_) | (with_reducible refine below_drewN ?_ _) | (with_reducible refine Below.setCell ?_ ?_ _) | (with_reducible refine below_setRow' ?_ ?_ _) | go_size))⟩
set_option maxHeartbeats 4000000 in
set_option maxRecDepth 100000 in
theorem law17_16w (b : Nat → Int) (z : ByteArray) {b4 o4 b6 o6 : Nat} (w : World) (hg : Gl b4 o4 b6 o6 w)
    (hS : ∀ w, Gl b4 o4 b6 o6 w → Calls Tryd.prog 60 #[.agg (adr 16 b ⟨#[]⟩)] w fun e w' => (∃ s : List Int, Gds s ∧ 1 ≤ s.length ∧ s.length ≤ 39 ∧ e = .returned (.string (ba s))) ∧ Below w.heap.size w w')
    (hE : ∀ w, Gl b4 o4 b6 o6 w → Calls Tryd.prog 61 #[.agg (adr 16 b ⟨#[]⟩)] w fun e w' => (∃ s : List Int, Gds s ∧ s.length ≤ 39 ∧ e = .returned (.string (ba s))) ∧ Below w.heap.size w w') :
    Calls Tryd.prog 17 #[.agg (adr 16 b z)] w fun e w' => e = .returned (.bool true) ∧ Below w.heap.size w w' := by
  have HG := Lib.hid hg
  have HS := Lib.hid hS
  have HE := Lib.hid hE
  clear hg hS hE
  go_enter Tryd.func17, Tryd.ntmps17
  go_upto_region 4 with (first
    | (go_at_call 52; (with_reducible refine (bare_16 _ _ _).mono ?_); rintro e w1 ⟨rfl, hb1⟩; have hk1 := blk?_below hb1; (try simp only [size_drew', size_drewN'] at hk1); have hB1 := below_via (w := w) (by repeat' (first | (with_reducible exact Below.refl _ _) | (with_reducible assumption) | (with_reducible refine Below.alloc ?_ ?_ _) | (with_reducible refine Below.drew ?_) | (with_reducible refine below_drewN ?_ _) | (with_reducible refine Below.setCell ?_ ?_ _) | (with_reducible refine below_setRow' ?_ ?_ _) | go_size)) hb1; have hL0 : w.heap.size < w1.heap.size := (by have hS0 := hb1.size; (try simp at hS0); omega); have hLe : w.heap.size ≤ w1.heap.size := hB1.size; clear hb1)
    | (go_at_call 36; (with_reducible refine (valid_16 _ _ _).mono ?_); rintro e w2 ⟨rfl, hb1⟩; have hk1 := blk?_below hb1; (try simp only [size_drew', size_drewN'] at hk1); have hB1 := below_via (w := w) (by repeat' (first | (with_reducible exact Below.refl _ _) | (with_reducible assumption) | (with_reducible refine Below.alloc ?_ ?_ _) | (with_reducible refine Below.drew ?_) | (with_reducible refine below_drewN ?_ _) | (with_reducible refine Below.setCell ?_ ?_ _) | (with_reducible refine below_setRow' ?_ ?_ _) | go_size)) hb1; have hL0 : w.heap.size < w2.heap.size := (by have hS0 := hb1.size; (try simp at hS0); omega); have hLe : w.heap.size ≤ w2.heap.size := hB1.size; clear hb1))
  have k0 : blk? w2 w.heap.size = some (adr 16 b ⟨#[]⟩) := by go_simp
  refine wp_region_held_drew (S := fun w' => blk? w' (w.heap.size) = some (adr 16 b ⟨#[]⟩)) (by kernel_rfl) ?_ (fun hHeld0 => ?_)
  · ((try dsimp only); go_simp)
  refine wpAnyH_take (i := 0) (oi := _) (v := ?_) rfl (by kernel_rfl) (by kernel_rfl) (by kernel_rfl) (fun _ _ _ h => h) (Or.inl ⟨by rfl, ?_⟩) (by assumption) ?_
  rotate_left 1
  · (intro w hSw; (try dsimp only at hSw); (try simp only [List.getElem_toArray, List.getElem_cons_succ, List.getElem_cons_zero]); first | (go_simp; done) | (go_simp; with_reducible rfl))
  (try simp only [Act.put, List.setIfInBounds_toArray, List.set_cons_zero, List.set_cons_succ, List.getElem_toArray, List.getElem_cons_succ, List.getElem_cons_zero])
  refine wpAnyH_take (i := 2) (oi := _) (v := ?_) rfl (by kernel_rfl) (by kernel_rfl) (by kernel_rfl) (fun _ _ _ h => h) (Or.inl ⟨by rfl, ?_⟩) (by assumption) ?_
  rotate_left 1
  · (intro w hSw; (try dsimp only at hSw); (try simp only [List.getElem_toArray, List.getElem_cons_succ, List.getElem_cons_zero]); first | (go_simp; done) | (go_simp; with_reducible rfl))
  (try simp only [Act.put, List.setIfInBounds_toArray, List.set_cons_zero, List.set_cons_succ, List.getElem_toArray, List.getElem_cons_succ, List.getElem_cons_zero])
  refine wpAnyH_ready (rs := [1]) (by kernel_rfl) (by simp) (AllReadyH.cons rfl (fun K hK => ?_) AllReadyH.nil)
  go_simp
  go_wp2_with (first
    | (go_at_call 60; (with_reducible refine (HS.out _ ?_).mono ?_); (exact HG.out.below (by repeat' (first | (with_reducible exact Below.refl _ _) | (with_reducible assumption) | (with_reducible refine Below.alloc ?_ ?_ _) | (with_reducible refine Below.drew ?_) | (with_reducible refine below_drewN ?_ _) | (with_reducible refine Below.setCell ?_ ?_ _) | (with_reducible refine below_setRow' ?_ ?_ _) | go_size)) (Nat.le_refl _)); rintro e wS ⟨⟨s1, g1, p1, l1, rfl⟩, hb1⟩; have hk1 := blk?_below hb1; (try simp only [size_drew', size_drewN'] at hk1); have hB1 := below_via (w := w) (by repeat' (first | (with_reducible exact Below.refl _ _) | (with_reducible assumption) | (with_reducible refine Below.alloc ?_ ?_ _) | (with_reducible refine Below.drew ?_) | (with_reducible refine below_drewN ?_ _) | (with_reducible refine Below.setCell ?_ ?_ _) | (with_reducible refine below_setRow' ?_ ?_ _) | go_size)) hb1; have hL0 : w.heap.size < wS.heap.size := (by have hS0 := hb1.size; (try simp at hS0); omega); have hLe : w.heap.size ≤ wS.heap.size := hB1.size; clear hb1))
  refine hK.out _ _ ?_ (fun hHeld1 => ?_)
  · ((try dsimp only); go_simp)
  clear hK K hHeld0
  (try simp only [Act.put, List.setIfInBounds_toArray, List.set_cons_zero, List.set_cons_succ, List.getElem_toArray, List.getElem_cons_succ, List.getElem_cons_zero])
  refine wpAnyH_ready (rs := [3]) (by kernel_rfl) (by simp) (AllReadyH.cons rfl (fun K hK => ?_) AllReadyH.nil)
  go_simp
  go_wp2_with (first
    | (go_at_call 61; (with_reducible refine (HE.out _ ?_).mono ?_); (exact HG.out.below (by repeat' (first | (with_reducible exact Below.refl _ _) | (with_reducible assumption) | (with_reducible refine Below.alloc ?_ ?_ _) | (with_reducible refine Below.drew ?_) | (with_reducible refine below_drewN ?_ _) | (with_reducible refine Below.setCell ?_ ?_ _) | (with_reducible refine below_setRow' ?_ ?_ _) | go_size)) (Nat.le_refl _)); rintro e wE ⟨⟨s2, g2, l2, rfl⟩, hb1⟩; have hk1 := blk?_below hb1; (try simp only [size_drew', size_drewN'] at hk1); have hB1 := below_via (w := w) (by repeat' (first | (with_reducible exact Below.refl _ _) | (with_reducible assumption) | (with_reducible refine Below.alloc ?_ ?_ _) | (with_reducible refine Below.drew ?_) | (with_reducible refine below_drewN ?_ _) | (with_reducible refine Below.setCell ?_ ?_ _) | (with_reducible refine below_setRow' ?_ ?_ _) | go_size)) hb1; have hL0 : w.heap.size < wE.heap.size := (by have hS0 := hb1.size; (try simp at hS0); omega); have hLe : w.heap.size ≤ wE.heap.size := hB1.size; have hsz : ¬ (9223372036854775807 < (ba s1).size + (ba s2).size) := (by rw [ba_size, ba_size]; omega); clear hb1))
  refine hK.out _ _ ?_ (fun hHeld2 => ?_)
  · ((try dsimp only); go_simp)
  clear hK K hHeld1
  (try simp only [Act.put, List.setIfInBounds_toArray, List.set_cons_zero, List.set_cons_succ, List.getElem_toArray, List.getElem_cons_succ, List.getElem_cons_zero])
  refine wpAnyH_take (i := 4) (oi := _) (v := ?_) rfl (by kernel_rfl) (by kernel_rfl) (by kernel_rfl) (fun _ _ _ h => h) (Or.inl ⟨by rfl, ?_⟩) (by assumption) ?_
  rotate_left 1
  · (intro w hSw; (try dsimp only at hSw); (try simp only [List.getElem_toArray, List.getElem_cons_succ, List.getElem_cons_zero]); first | (go_simp; done) | (go_simp; with_reducible rfl))
  (try simp only [Act.put, List.setIfInBounds_toArray, List.set_cons_zero, List.set_cons_succ, List.getElem_toArray, List.getElem_cons_succ, List.getElem_cons_zero])
  refine wpAnyH_take (i := 5) (oi := _) (v := ?_) rfl (by kernel_rfl) (by kernel_rfl) (by kernel_rfl) (fun _ _ _ h => h) (Or.inl ⟨by rfl, ?_⟩) (by assumption) ?_
  rotate_left 1
  · (intro w hSw; (try dsimp only at hSw); (try simp only [List.getElem_toArray, List.getElem_cons_succ, List.getElem_cons_zero]); first | (go_simp; done) | (go_simp; with_reducible rfl))
  (try simp only [Act.put, List.setIfInBounds_toArray, List.set_cons_zero, List.set_cons_succ, List.getElem_toArray, List.getElem_cons_succ, List.getElem_cons_zero])
  refine wpAnyH_done (by kernel_rfl) ?_ _
  have hgd : Gds (s1 ++ s2) := g1.append g2
  have hln : 1 ≤ (s1 ++ s2).length ∧ (s1 ++ s2).length ≤ 78 := by rw [List.length_append]; omega
  (try simp only [ba_append])
  generalize s1 ++ s2 = s at hgd hln
  clear g1 g2 p1 l1 l2 hsz
  go_wp2
  go_loopw [18, 4, 5] (fun i v4 v5 wr => ∃ k : Nat, k ≤ (ba s).size ∧ i = .int .i64 k ∧ Below w.heap.size w wr) (fun i _ _ _ => (ba s).size - (intOf i).toNat)
  case atStart => exact ⟨0, by omega, rfl, (by repeat' (first | (with_reducible exact Below.refl _ _) | (with_reducible assumption) | (with_reducible refine Below.alloc ?_ ?_ _) | (with_reducible refine Below.drew ?_) | (with_reducible refine below_drewN ?_ _) | (with_reducible refine Below.setCell ?_ ?_ _) | (with_reducible refine below_setRow' ?_ ?_ _) | go_size))⟩
  case round =>
    obtain ⟨k, hk, rfl, hB⟩ := hrel
    have hsz := ba_size s
    have hk0 : (0 : Int) ≤ (k : Int) := by omega
    by_cases hlt : k < (ba s).size
    · have hk1 : (k : Int) < (((ba s).size : Nat) : Int) := by omega
      have hk2 : (k : Int) + 1 ≤ 9223372036854775807 := by omega
      have hgt := Gds_get hgd k hlt
      have hidx := idx_ba s k hlt
      obtain ⟨c, hc⟩ : ∃ c : Int, c = (((ba s)[k].toNat : Nat) : Int) := ⟨_, rfl⟩
      rw [← hc] at hgt hidx
      have hcv : (((ba s)[k].toNat : Nat) : Int) = c := hc.symm
      clear hc hsz
      rcases hgt with ⟨c1, c2⟩ | ⟨c1, c2⟩ | c1 | c1
      · have c3 : ¬ (c < 48) := by omega
        have c4 : ¬ (57 < c) := by omega
        go_wp2
        go_roundw
        case rel => exact ⟨k + 1, by omega, by go_num, (by repeat' (first | (with_reducible exact Below.refl _ _) | (with_reducible assumption) | (with_reducible refine Below.alloc ?_ ?_ _) | (with_reducible refine Below.drew ?_) | (with_reducible refine below_drewN ?_ _) | (with_reducible refine Below.setCell ?_ ?_ _) | (with_reducible refine below_setRow' ?_ ?_ _) | go_size))⟩
        case measure => simp [intOf]; omega
      · have c3 : ¬ (c < 48) := by omega
        have c4 : 57 < c := by omega
        have c5 : ¬ (c < 97) := by omega
        have c6 : ¬ (102 < c) := by omega
        go_wp2
        go_roundw
        case rel => exact ⟨k + 1, by omega, by go_num, (by repeat' (first | (with_reducible exact Below.refl _ _) | (with_reducible assumption) | (with_reducible refine Below.alloc ?_ ?_ _) | (with_reducible refine Below.drew ?_) | (with_reducible refine below_drewN ?_ _) | (with_reducible refine Below.setCell ?_ ?_ _) | (with_reducible refine below_setRow' ?_ ?_ _) | go_size))⟩
        case measure => simp [intOf]; omega
      · subst c1
        go_wp2
        go_roundw
        case rel => exact ⟨k + 1, by omega, by go_num, (by repeat' (first | (with_reducible exact Below.refl _ _) | (with_reducible assumption) | (with_reducible refine Below.alloc ?_ ?_ _) | (with_reducible refine Below.drew ?_) | (with_reducible refine below_drewN ?_ _) | (with_reducible refine Below.setCell ?_ ?_ _) | (with_reducible refine below_setRow' ?_ ?_ _) | go_size))⟩
        case measure => simp [intOf]; omega
      · subst c1
        go_wp2
        go_roundw
        case rel => exact ⟨k + 1, by omega, by go_num, (by repeat' (first | (with_reducible exact Below.refl _ _) | (with_reducible assumption) | (with_reducible refine Below.alloc ?_ ?_ _) | (with_reducible refine Below.drew ?_) | (with_reducible refine below_drewN ?_ _) | (with_reducible refine Below.setCell ?_ ?_ _) | (with_reducible refine below_setRow' ?_ ?_ _) | go_size))⟩
        case measure => simp [intOf]; omega
    · have hk1 : ¬ ((k : Int) < (((ba s).size : Nat) : Int)) := by omega
      have hne : ba s ≠ ⟨#[]⟩ := fun e => by
        have h0 : (ba s).size = 0 := by rw [e]; rfl
        omega
      have hem : (ba s).toList.isEmpty = false := by
        cases h : (ba s).toList.isEmpty
        · rfl
        · exact absurd (zone_empty h) hne
      clear hne
      go_wp2
      go_ret
      exact ⟨rfl, (by repeat' (first | (with_reducible exact Below.refl _ _) | (with_reducible assumption) | (with_reducible refine Below.alloc ?_ ?_ _) | (with_reducible refine Below.drew ?_) | (with_reducible refine below_drewN ?_ _) | (with_reducible refine Below.setCell ?_ ?_ _) | (with_reducible refine below_setRow' ?_ ?_ _) | go_size))⟩
set_option maxHeartbeats 4000000 in
set_option maxRecDepth 100000 in
theorem law17_0 (n : Int) (h4 : n ≠ 4) (h16 : n ≠ 16) (b : Nat → Int) (z : ByteArray) (w : World) :
    Calls Tryd.prog 17 #[.agg (adr n b z)] w fun e w' => e = .returned (.bool true) ∧ Below w.heap.size w w' := by
  go_enter Tryd.func17, Tryd.ntmps17
  go_wp2_with (first
    | (go_at_call 52; (with_reducible refine (bare_0 n h4 h16 _ _ _).mono ?_); rintro e w1 ⟨rfl, hb1⟩; have hk1 := blk?_below hb1; (try simp only [size_drew', size_drewN'] at hk1); have hB1 := below_via (w := w) (by repeat' (first | (with_reducible exact Below.refl _ _) | (with_reducible assumption) | (with_reducible refine Below.alloc ?_ ?_ _) | (with_reducible refine Below.drew ?_) | (with_reducible refine below_drewN ?_ _) | (with_reducible refine Below.setCell ?_ ?_ _) | (with_reducible refine below_setRow' ?_ ?_ _) | go_size)) hb1; have hL0 : w.heap.size < w1.heap.size := (by have hS0 := hb1.size; (try simp at hS0); omega); have hLe : w.heap.size ≤ w1.heap.size := hB1.size; clear hb1)
    | (go_at_call 36; (with_reducible refine (valid_0 0 (by omega) (by omega) _ _ _).mono ?_); rintro e w1 ⟨rfl, hb1⟩; have hk1 := blk?_below hb1; (try simp only [size_drew', size_drewN'] at hk1); have hB1 := below_via (w := w) (by repeat' (first | (with_reducible exact Below.refl _ _) | (with_reducible assumption) | (with_reducible refine Below.alloc ?_ ?_ _) | (with_reducible refine Below.drew ?_) | (with_reducible refine below_drewN ?_ _) | (with_reducible refine Below.setCell ?_ ?_ _) | (with_reducible refine below_setRow' ?_ ?_ _) | go_size)) hb1; have hL0 : w.heap.size < w1.heap.size := (by have hS0 := hb1.size; (try simp at hS0); omega); have hLe : w.heap.size ≤ w1.heap.size := hB1.size; clear hb1))
  go_ret
  exact ⟨rfl, (by repeat' (first | (with_reducible exact Below.refl _ _) | (with_reducible assumption) | (with_reducible refine Below.alloc ?_ ?_ _) | (with_reducible refine Below.drew ?_) | (with_reducible refine below_drewN ?_ _) | (with_reducible refine Below.setCell ?_ ?_ _) | (with_reducible refine below_setRow' ?_ ?_ _) | go_size))⟩
theorem T6_good {b : Nat → Int} (hb : Bt b) {z : ByteArray} (h : T6 b z) : ∃ s : List Int, Gds s ∧ 1 ≤ s.length ∧ s.length ≤ 39 ∧ z = ba s := by
  rcases h with ⟨_, _, rfl⟩ | ⟨_, zs, ze, hz, rfl⟩
  · have := t46_len (be8f b 8)
    exact ⟨_, Gds_t46 _, by omega, by omega, rfl⟩
  · have := out6_len _ _ _ hz
    exact ⟨_, Gds_out6 _ (fun i hi => grp_lt _ _ (be8f_lt hb 0) (be8f_lt hb 8) i hi) _ _ hz, by omega, by omega, rfl⟩
theorem law17 (n : Int) (b : Nat → Int) (hb : Bt b) (z : ByteArray) {b4 o4 b6 o6 : Nat} (w : World) (hg : Gl b4 o4 b6 o6 w) :
    Calls Tryd.prog 17 #[.agg (adr n b z)] w fun e w' => e = .returned (.bool true) ∧ Below w.heap.size w w' := by
  by_cases h4 : n = 4
  · subst h4
    have hl := t4_len (281470681743360 + be4f (pre 4 b) 0)
    refine law17_4w b z w hg (fun w hg => ?_) (fun w hg => ?_)
    · exact (iStr_4 (pre 4 b) (Bt_pre hb 4) ⟨#[]⟩ w hg).mono fun e w' ⟨he, hB⟩ => ⟨⟨_, Gds_t4 _, by omega, by omega, he⟩, hB⟩
    · exact (iExp_4 (pre 4 b) (Bt_pre hb 4) ⟨#[]⟩ w hg).mono fun e w' ⟨he, hB⟩ => ⟨⟨_, Gds_t4 _, by omega, he⟩, hB⟩
  by_cases h16 : n = 16
  · subst h16
    refine law17_16w b z w hg (fun w hg => ?_) (fun w hg => ?_)
    · exact (iStr_6 b hb w hg).mono fun e w' ⟨⟨z, hz, he⟩, hB⟩ => by
        obtain ⟨s, h1, h2, h3, rfl⟩ := T6_good hb hz
        exact ⟨⟨s, h1, h2, h3, he⟩, hB⟩
    · exact (iExp_6 b hb w hg).mono fun e w' ⟨he, hB⟩ => ⟨⟨_, Gds_jp _ 8 (fun i hi => grp_lt _ _ (be8f_lt hb 0) (be8f_lt hb 8) i hi), by rw [jp_len]; omega, he⟩, hB⟩
  · exact law17_0 n h4 h16 b z w
end Go.Proofs.YtmlkcgacneealaaDoor
