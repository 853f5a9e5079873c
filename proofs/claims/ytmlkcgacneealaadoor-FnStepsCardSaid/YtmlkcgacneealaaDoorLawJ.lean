/- FnNextAndPrev returns true. Conditions: the listed variables as laid. -/
import Derived.Test.YtmlkcgacneealaaDoorLawF
import Derived.Test.YtmlkcgacneealaaDoorCmp
import Derived.Test.YtmlkcgacneealaaDoorLawE
import Derived.Deep.DeepCutAuto
set_option linter.unusedVariables false
set_option linter.unusedSimpArgs false
namespace Go.Proofs.YtmlkcgacneealaaDoor
open Go.RowKit

/-- The first k bytes are 255. -/
def lst (k : Nat) (c : Nat → Int) : Nat → Int := fun i => if i < k then 255 else c i
theorem lst_zero (c : Nat → Int) : lst 0 c = c := by funext i; simp [lst]
theorem lst_succ (k : Nat) (c : Nat → Int) : upd (lst k c) k 255 = lst (k + 1) c := by
  funext i
  unfold upd lst
  by_cases h : i = k
  · subst h; simp
  · by_cases h1 : i < k
    · simp [h, h1]; omega
    · have : ¬ i < k + 1 := by omega
      simp [h, h1, this]
theorem pre_pre4 (b : Nat → Int) : pre 4 (pre 4 b) = pre 4 b := by funext i; unfold pre; split <;> rfl
theorem lsame_pre (b : Nat → Int) (w : World) : Calls Tryd.prog 47 #[.agg (adr 4 (pre 4 b) ⟨#[]⟩)] w fun e w' => e = .returned (.agg (adr 4 (pre 4 b) ⟨#[]⟩)) ∧ Below w.heap.size w w' := by
  have h := lsame_4 (pre 4 b) ⟨#[]⟩ w
  rw [pre_pre4] at h; exact h
set_option maxHeartbeats 4000000 in
set_option maxRecDepth 100000 in
theorem law12_4A (b cn cp : Nat → Int) (z : ByteArray) (hcn : Bt cn) (hcp : Bt cp) {b4 o4 b6 o6 : Nat} (w : World) (hg : Gl b4 o4 b6 o6 w) (hN : ∀ w, Gl b4 o4 b6 o6 w → Calls Tryd.prog 41 #[.agg (adr 4 (pre 4 b) ⟨#[]⟩)] w fun e w' => e = .returned (.agg (adr 0 zb ⟨#[]⟩)) ∧ Below w.heap.size w w') (hP : ∀ w, Gl b4 o4 b6 o6 w → Calls Tryd.prog 39 #[.agg (adr 4 (pre 4 b) ⟨#[]⟩)] w fun e w' => e = .returned (.agg (adr 4 cp ⟨#[]⟩)) ∧ Below w.heap.size w w') (hPN : ∀ w, Gl b4 o4 b6 o6 w → Calls Tryd.prog 41 #[.agg (adr 4 cp ⟨#[]⟩)] w fun e w' => e = .returned (.agg (adr 4 (pre 4 b) ⟨#[]⟩)) ∧ Below w.heap.size w w')
    (hL : adrEq 4 (pre 4 b) ⟨#[]⟩ 4 (lst 4 (pre 4 b)) ⟨#[]⟩ = true) (hF : adrEq 4 (pre 4 b) ⟨#[]⟩ 4 zb ⟨#[]⟩ = false) :
    Calls Tryd.prog 12 #[.agg (adr 4 b z)] w fun e w' => e = .returned (.bool true) ∧ Below w.heap.size w w' := by
  have HG := Lib.hid hg
  have HCN := Lib.hid hcn
  have HCP := Lib.hid hcp
  have HN := Lib.hid hN
  have HP := Lib.hid hP
  have HPN := Lib.hid hPN
  have hEC : adrEq 4 (pre 4 b) ⟨#[]⟩ 4 (pre 4 b) ⟨#[]⟩ = true := (adrEq_iff _ _ _ _ _ _).2 ⟨rfl, fun _ _ => rfl, rfl⟩
  clear hg hcn hcp hN hP hPN
  go_enter Tryd.func12, Tryd.ntmps12
  go_upto_region 4 with (first
    | (go_at_call 52; (with_reducible refine (bare_4 _ _ _).mono ?_); rintro e w1 ⟨rfl, hb1⟩; have hk1 := blk?_below hb1; (try simp only [size_drew', size_drewN'] at hk1); have hB1 := below_via (w := w) (by repeat' (first | (with_reducible exact Below.refl _ _) | (with_reducible assumption) | (with_reducible refine Below.alloc ?_ ?_ _) | (with_reducible refine Below.drew ?_) | (with_reducible refine below_drewN ?_ _) | (with_reducible refine Below.setCell ?_ ?_ _) | (with_reducible refine below_setRow' ?_ ?_ _) | go_size)) hb1; have hL0 : w.heap.size < w1.heap.size := (by have hS0 := hb1.size; (try simp at hS0); omega); have hLe : w.heap.size ≤ w1.heap.size := hB1.size; clear hb1)
    | (go_at_call 36; (with_reducible refine (valid_4 _ _ _).mono ?_); rintro e w1 ⟨rfl, hb1⟩; have hk1 := blk?_below hb1; (try simp only [size_drew', size_drewN'] at hk1); have hB1 := below_via (w := w) (by repeat' (first | (with_reducible exact Below.refl _ _) | (with_reducible assumption) | (with_reducible refine Below.alloc ?_ ?_ _) | (with_reducible refine Below.drew ?_) | (with_reducible refine below_drewN ?_ _) | (with_reducible refine Below.setCell ?_ ?_ _) | (with_reducible refine below_setRow' ?_ ?_ _) | go_size)) hb1; have hL0 : w.heap.size < w1.heap.size := (by have hS0 := hb1.size; (try simp at hS0); omega); have hLe : w.heap.size ≤ w1.heap.size := hB1.size; clear hb1))
  go_cut [3, 4] (fun s3 s4 wx => ∃ g3 g4 : Nat, s3 = .pointer (some ⟨g3, 0, none⟩) ∧ s4 = .pointer (some ⟨g4, 0, none⟩) ∧ w.heap.size < g3 ∧ w.heap.size < g4 ∧ g3 ≠ g4 ∧ blk? wx w.heap.size = some (adr 4 (pre 4 b) ⟨#[]⟩) ∧ blk? wx g3 = some (adr 4 (pre 4 b) ⟨#[]⟩) ∧ blk? wx g4 = some (adr 4 zb ⟨#[]⟩) ∧ Below w.heap.size w wx)
  case first =>
    have k0 : blk? w1 w.heap.size = some (adr 4 (pre 4 b) ⟨#[]⟩) := by go_simp
    have hc0 : w1.cell? ⟨w.heap.size, 0, none⟩ = some (.int .i64 4) := by rw [blk?_cell k0]; rfl
    clear hk1
    have hQ0a : w.heap.size < w1.heap.size + 1 := by omega
    have hQ0b : w.heap.size < w1.heap.size + 1 + 1 := by omega
    go_region_held3 (fun w' => blk? w' (w.heap.size) = some (adr 4 (pre 4 b) ⟨#[]⟩) ∧ w'.cell? ⟨w.heap.size, 0, none⟩ = some (.int .i64 4)) (first | (refine ⟨?_, ?_⟩ <;> (first | go_simp | go_simp))) (first
    | (go_at_call 47; (with_reducible refine (lsame_pre _ _).mono ?_); rintro e wS ⟨rfl, hb1⟩; have hk1 := blk?_below hb1; (try simp only [size_drew', size_drewN'] at hk1); have hB1 := below_via (w := w) (by repeat' (first | (with_reducible exact Below.refl _ _) | (with_reducible assumption) | (with_reducible refine Below.alloc ?_ ?_ _) | (with_reducible refine Below.drew ?_) | (with_reducible refine below_drewN ?_ _) | (with_reducible refine Below.setCell ?_ ?_ _) | (with_reducible refine below_setRow' ?_ ?_ _) | go_size)) hb1; have hL0 : w.heap.size < wS.heap.size := (by have hS0 := hb1.size; (try simp at hS0); omega); have hLe : w.heap.size ≤ wS.heap.size := hB1.size; obtain ⟨hc1, hf1⟩ := bcell hb1; (try simp only [size_drew', size_drewN'] at hc1); (try simp only [size_drew', size_drewN'] at hf1); have hS9 := hb1.size; (try simp [Nat.add_one_le_iff] at hS9); (try (have hS8 := Nat.lt_of_succ_lt hS9)); have hQ0a : w.heap.size < wS.heap.size + 1 := (by omega); have hQ0b : w.heap.size < wS.heap.size + 1 + 1 := (by omega); clear hb1)
    | fail)
    all_goals (go_wp2_with fail; go_meet; refine ⟨_, _, rfl, rfl, ?_, ?_, ?_, ?_, ?_, ?_, (by repeat' (first | (with_reducible exact Below.refl _ _) | (with_reducible assumption) | (with_reducible refine Below.alloc ?_ ?_ _) | (with_reducible refine Below.drew ?_) | (with_reducible refine below_drewN ?_ _) | (with_reducible refine Below.setCell ?_ ?_ _) | (with_reducible refine below_setRow' ?_ ?_ _) | go_size))⟩)
    all_goals (first | omega | go_simp)
  case rest =>
    obtain ⟨g3, g4, rfl, rfl, hg3, hg4, hne, k0, k3, k4, hB⟩ := hcut
    have hc0 : wc.cell? ⟨w.heap.size, 0, none⟩ = some (.int .i64 4) := by rw [blk?_cell k0]; rfl
    go_wp2
    go_loopw [20, 5] (fun i v5 wr => ∃ k : Nat, k ≤ 4 ∧ i = .int .i64 k ∧ blk? wr w.heap.size = some (adr 4 (pre 4 b) ⟨#[]⟩) ∧ blk? wr g3 = some (adr 4 (lst k (pre 4 b)) ⟨#[]⟩) ∧ blk? wr g4 = some (adr 4 zb ⟨#[]⟩) ∧ Below w.heap.size w wr) (fun i _ _ => 4 - (intOf i).toNat)
    case atStart => exact ⟨0, by omega, rfl, k0, by rw [lst_zero]; exact k3, k4, hB⟩
    case round =>
      obtain ⟨k, hk, rfl, k0, k3, k4, hB⟩ := hrel
      have hl0 := blk?_lt k0
      have hl3 := blk?_lt k3
      have hl4 := blk?_lt k4
      by_cases hlt : k < 4
      · have h16 : k < 16 := by omega
        have hi0 : (0 : Int) ≤ (k : Int) := by omega
        have hi1 : (k : Int) < 4 := by omega
        have hi2 : (k : Int) < 16 := by omega
        have hld : wr.cell? ⟨g3, 1 + k, none⟩ = some (.int .u8 (lst k (pre 4 b) k)) := by rw [blk?_cell k3, adr_byte' _ _ _ _ h16]
        have hfz : wr.frozen? ⟨g3, 1 + k, none⟩ = false := blk?_frozen k3 _
        go_wp2
        go_roundw
        case rel => exact ⟨k + 1, by omega, by go_num, by rw [blk?_setOther _ _ _ _ (by show _ ≠ g3; omega)]; exact k0, by rw [blk?_setSame, k3, Option.map_some, adr_set' _ _ _ _ _ h16, lst_succ], by rw [blk?_setOther _ _ _ _ (by show _ ≠ g3; omega)]; exact k4, (by repeat' (first | (with_reducible exact Below.refl _ _) | (with_reducible assumption) | (with_reducible refine Below.alloc ?_ ?_ _) | (with_reducible refine Below.drew ?_) | (with_reducible refine below_drewN ?_ _) | (with_reducible refine Below.setCell ?_ ?_ _) | (with_reducible refine below_setRow' ?_ ?_ _) | go_size))⟩
        case measure => simp [intOf]; omega
      · obtain rfl : k = 4 := by omega
        have hQ0a : w.heap.size < wr.heap.size + 1 := by omega
        have hQ0b : w.heap.size < wr.heap.size + 1 + 1 := by omega
        have hQ3a : g3 < wr.heap.size + 1 := by omega
        have hQ3b : g3 < wr.heap.size + 1 + 1 := by omega
        have hQ4a : g4 < wr.heap.size + 1 := by omega
        have hQ4b : g4 < wr.heap.size + 1 + 1 := by omega
        go_upto_region 10 with fail
        go_cut [6, 7] (fun s6 s7 wx => ∃ g6 g7 : Nat, s6 = .pointer (some ⟨g6, 0, none⟩) ∧ s7 = .pointer (some ⟨g7, 0, none⟩) ∧ blk? wx w.heap.size = some (adr 4 (pre 4 b) ⟨#[]⟩) ∧ blk? wx g3 = some (adr 4 (lst 4 (pre 4 b)) ⟨#[]⟩) ∧ blk? wx g4 = some (adr 4 zb ⟨#[]⟩) ∧ blk? wx g6 = some (adr 0 zb ⟨#[]⟩) ∧ blk? wx g7 = some (adr 4 cp ⟨#[]⟩) ∧ Below w.heap.size w wx)
        case first =>
          go_region_held3 (fun w' => blk? w' (w.heap.size) = some (adr 4 (pre 4 b) ⟨#[]⟩) ∧ blk? w' (g3) = some (adr 4 (lst 4 (pre 4 b)) ⟨#[]⟩) ∧ blk? w' (g4) = some (adr 4 zb ⟨#[]⟩)) (first | (refine ⟨?_, ?_, ?_⟩ <;> go_simp)) (first
    | (go_at_call 41; (with_reducible refine (HN.out _ ?_).mono ?_); (exact HG.out.below (by repeat' (first | (with_reducible exact Below.refl _ _) | (with_reducible assumption) | (with_reducible refine Below.alloc ?_ ?_ _) | (with_reducible refine Below.drew ?_) | (with_reducible refine below_drewN ?_ _) | (with_reducible refine Below.setCell ?_ ?_ _) | (with_reducible refine below_setRow' ?_ ?_ _) | go_size)) (Nat.le_refl _)); rintro e wN ⟨rfl, hb1⟩; have hk1 := blk?_below hb1; (try simp only [size_drew', size_drewN'] at hk1); have hB1 := below_via (w := w) (by repeat' (first | (with_reducible exact Below.refl _ _) | (with_reducible assumption) | (with_reducible refine Below.alloc ?_ ?_ _) | (with_reducible refine Below.drew ?_) | (with_reducible refine below_drewN ?_ _) | (with_reducible refine Below.setCell ?_ ?_ _) | (with_reducible refine below_setRow' ?_ ?_ _) | go_size)) hb1; have hL0 : w.heap.size < wN.heap.size := (by have hS0 := hb1.size; (try simp at hS0); omega); have hL1 : g3 < wN.heap.size := (by have hS0 := hb1.size; (try simp at hS0); omega); have hL2 : g4 < wN.heap.size := (by have hS0 := hb1.size; (try simp at hS0); omega); have hLe : w.heap.size ≤ wN.heap.size := hB1.size; (try (have hT0 : wr.heap.size < wN.heap.size := (by have hS0 := hb1.size; (try simp at hS0); omega))); (try (have hT1 : wr.heap.size + 1 < wN.heap.size := (by have hS0 := hb1.size; (try simp at hS0); omega))); have hQ0a : w.heap.size < wN.heap.size + 1 := (by omega); have hQ0b : w.heap.size < wN.heap.size + 1 + 1 := (by omega); have hQ1a : g3 < wN.heap.size + 1 := (by omega); have hQ1b : g3 < wN.heap.size + 1 + 1 := (by omega); have hQ2a : g4 < wN.heap.size + 1 := (by omega); have hQ2b : g4 < wN.heap.size + 1 + 1 := (by omega); clear hb1)
    | (go_at_call 39; (with_reducible refine (HP.out _ ?_).mono ?_); (exact HG.out.below (by repeat' (first | (with_reducible exact Below.refl _ _) | (with_reducible assumption) | (with_reducible refine Below.alloc ?_ ?_ _) | (with_reducible refine Below.drew ?_) | (with_reducible refine below_drewN ?_ _) | (with_reducible refine Below.setCell ?_ ?_ _) | (with_reducible refine below_setRow' ?_ ?_ _) | go_size)) (Nat.le_refl _)); rintro e wP ⟨rfl, hb1⟩; have hk1 := blk?_below hb1; (try simp only [size_drew', size_drewN'] at hk1); have hB1 := below_via (w := w) (by repeat' (first | (with_reducible exact Below.refl _ _) | (with_reducible assumption) | (with_reducible refine Below.alloc ?_ ?_ _) | (with_reducible refine Below.drew ?_) | (with_reducible refine below_drewN ?_ _) | (with_reducible refine Below.setCell ?_ ?_ _) | (with_reducible refine below_setRow' ?_ ?_ _) | go_size)) hb1; have hL0 : w.heap.size < wP.heap.size := (by have hS0 := hb1.size; (try simp at hS0); omega); have hL1 : g3 < wP.heap.size := (by have hS0 := hb1.size; (try simp at hS0); omega); have hL2 : g4 < wP.heap.size := (by have hS0 := hb1.size; (try simp at hS0); omega); have hLe : w.heap.size ≤ wP.heap.size := hB1.size; (try (have hT0 : wr.heap.size < wP.heap.size := (by have hS0 := hb1.size; (try simp at hS0); omega))); (try (have hT1 : wr.heap.size + 1 < wP.heap.size := (by have hS0 := hb1.size; (try simp at hS0); omega))); (try (have hT2 : wN.heap.size < wP.heap.size := (by have hS0 := hb1.size; (try simp at hS0); omega))); (try (have hT3 : wN.heap.size + 1 < wP.heap.size := (by have hS0 := hb1.size; (try simp at hS0); omega))); have hQ0a : w.heap.size < wP.heap.size + 1 := (by omega); have hQ0b : w.heap.size < wP.heap.size + 1 + 1 := (by omega); have hQ1a : g3 < wP.heap.size + 1 := (by omega); have hQ1b : g3 < wP.heap.size + 1 + 1 := (by omega); have hQ2a : g4 < wP.heap.size + 1 := (by omega); have hQ2b : g4 < wP.heap.size + 1 + 1 := (by omega); clear hb1))
          all_goals (go_wp2_with fail; go_meet; refine ⟨_, _, rfl, rfl, ?_, ?_, ?_, ?_, ?_, (by repeat' (first | (with_reducible exact Below.refl _ _) | (with_reducible assumption) | (with_reducible refine Below.alloc ?_ ?_ _) | (with_reducible refine Below.drew ?_) | (with_reducible refine below_drewN ?_ _) | (with_reducible refine Below.setCell ?_ ?_ _) | (with_reducible refine below_setRow' ?_ ?_ _) | go_size))⟩)
          all_goals go_simp
        case rest =>
          obtain ⟨g6, g7, rfl, rfl, k0, k3, k4, k6, k7, hB⟩ := hcut
          have hl0 := blk?_lt k0
          have hl3 := blk?_lt k3
          have hl4 := blk?_lt k4
          have hl6 := blk?_lt k6
          have hl7 := blk?_lt k7
          go_upto_region 11 with fail
          go_cut [44] (fun s44 wx => s44 = .bool false ∧ blk? wx w.heap.size = some (adr 4 (pre 4 b) ⟨#[]⟩) ∧ blk? wx g3 = some (adr 4 (lst 4 (pre 4 b)) ⟨#[]⟩) ∧ blk? wx g4 = some (adr 4 zb ⟨#[]⟩) ∧ blk? wx g6 = some (adr 0 zb ⟨#[]⟩) ∧ blk? wx g7 = some (adr 4 cp ⟨#[]⟩) ∧ Below w.heap.size w wx)
          case first =>
            go_region_held3 (fun w' => blk? w' (w.heap.size) = some (adr 4 (pre 4 b) ⟨#[]⟩) ∧ blk? w' (g3) = some (adr 4 (lst 4 (pre 4 b)) ⟨#[]⟩) ∧ blk? w' (g4) = some (adr 4 zb ⟨#[]⟩) ∧ blk? w' (g6) = some (adr 0 zb ⟨#[]⟩) ∧ blk? w' (g7) = some (adr 4 cp ⟨#[]⟩)) (first | (refine ⟨?_, ?_, ?_, ?_, ?_⟩ <;> go_simp)) (first
    | (go_at_call 53; (with_reducible refine (iIsValid_0 (b4 := b4) (o4 := o4) 0 (by omega) (by omega) zb Bt_zb _ _ ?_).mono ?_); (exact HG.out.g4.below (by repeat' (first | (with_reducible exact Below.refl _ _) | (with_reducible assumption) | (with_reducible refine Below.alloc ?_ ?_ _) | (with_reducible refine Below.drew ?_) | (with_reducible refine below_drewN ?_ _) | (with_reducible refine Below.setCell ?_ ?_ _) | (with_reducible refine below_setRow' ?_ ?_ _) | go_size)) (Nat.le_refl _)); rintro e w1 ⟨rfl, hb1⟩; have hk1 := blk?_below hb1; (try simp only [size_drew', size_drewN'] at hk1); have hB1 := below_via (w := w) (by repeat' (first | (with_reducible exact Below.refl _ _) | (with_reducible assumption) | (with_reducible refine Below.alloc ?_ ?_ _) | (with_reducible refine Below.drew ?_) | (with_reducible refine below_drewN ?_ _) | (with_reducible refine Below.setCell ?_ ?_ _) | (with_reducible refine below_setRow' ?_ ?_ _) | go_size)) hb1; have hL0 : w.heap.size < w1.heap.size := (by have hS0 := hb1.size; (try simp at hS0); omega); have hL1 : g3 < w1.heap.size := (by have hS0 := hb1.size; (try simp at hS0); omega); have hL2 : g4 < w1.heap.size := (by have hS0 := hb1.size; (try simp at hS0); omega); have hL3 : g6 < w1.heap.size := (by have hS0 := hb1.size; (try simp at hS0); omega); have hL4 : g7 < w1.heap.size := (by have hS0 := hb1.size; (try simp at hS0); omega); have hLe : w.heap.size ≤ w1.heap.size := hB1.size; clear hb1)
    | (go_at_call 53; (with_reducible refine (iIsValid_4 (b4 := b4) (o4 := o4) cp HCP.out _ _ ?_).mono ?_); (exact HG.out.g4.below (by repeat' (first | (with_reducible exact Below.refl _ _) | (with_reducible assumption) | (with_reducible refine Below.alloc ?_ ?_ _) | (with_reducible refine Below.drew ?_) | (with_reducible refine below_drewN ?_ _) | (with_reducible refine Below.setCell ?_ ?_ _) | (with_reducible refine below_setRow' ?_ ?_ _) | go_size)) (Nat.le_refl _)); rintro e w1 ⟨rfl, hb1⟩; have hk1 := blk?_below hb1; (try simp only [size_drew', size_drewN'] at hk1); have hB1 := below_via (w := w) (by repeat' (first | (with_reducible exact Below.refl _ _) | (with_reducible assumption) | (with_reducible refine Below.alloc ?_ ?_ _) | (with_reducible refine Below.drew ?_) | (with_reducible refine below_drewN ?_ _) | (with_reducible refine Below.setCell ?_ ?_ _) | (with_reducible refine below_setRow' ?_ ?_ _) | go_size)) hb1; have hL0 : w.heap.size < w1.heap.size := (by have hS0 := hb1.size; (try simp at hS0); omega); have hL1 : g3 < w1.heap.size := (by have hS0 := hb1.size; (try simp at hS0); omega); have hL2 : g4 < w1.heap.size := (by have hS0 := hb1.size; (try simp at hS0); omega); have hL3 : g6 < w1.heap.size := (by have hS0 := hb1.size; (try simp at hS0); omega); have hL4 : g7 < w1.heap.size := (by have hS0 := hb1.size; (try simp at hS0); omega); have hLe : w.heap.size ≤ w1.heap.size := hB1.size; clear hb1))
            all_goals (go_wp2_with fail; go_meet; refine ⟨rfl, ?_, ?_, ?_, ?_, ?_, (by repeat' (first | (with_reducible exact Below.refl _ _) | (with_reducible assumption) | (with_reducible refine Below.alloc ?_ ?_ _) | (with_reducible refine Below.drew ?_) | (with_reducible refine below_drewN ?_ _) | (with_reducible refine Below.setCell ?_ ?_ _) | (with_reducible refine below_setRow' ?_ ?_ _) | go_size))⟩)
            all_goals go_simp
          case rest =>
            obtain ⟨rfl, k0, k3, k4, k6, k7, hB⟩ := hcut
            have hl0 := blk?_lt k0
            have hl3 := blk?_lt k3
            have hl4 := blk?_lt k4
            have hl6 := blk?_lt k6
            have hl7 := blk?_lt k7
            go_wp2_with fail
            refine wp_region_held_drew (S := fun w' => blk? w' (w.heap.size) = some (adr 4 (pre 4 b) ⟨#[]⟩) ∧ blk? w' (g3) = some (adr 4 (lst 4 (pre 4 b)) ⟨#[]⟩) ∧ blk? w' (g4) = some (adr 4 zb ⟨#[]⟩) ∧ blk? w' (g6) = some (adr 0 zb ⟨#[]⟩) ∧ blk? w' (g7) = some (adr 4 cp ⟨#[]⟩)) (by kernel_rfl) ?_ (fun hHeld0 => ?_)
            · ((try dsimp only); (refine ⟨?_, ?_, ?_, ?_, ?_⟩ <;> go_simp))
            refine wpAnyH_take (i := 0) (oi := _) (v := ?_) rfl (by kernel_rfl) (by kernel_rfl) (by kernel_rfl) (fun _ _ _ h => h) (Or.inl ⟨by rfl, ?_⟩) (by assumption) ?_
            rotate_left 1
            · (intro w hSw; (try dsimp only at hSw); (try simp only [List.getElem_toArray, List.getElem_cons_succ, List.getElem_cons_zero]); first | (go_simp; done) | (go_simp; with_reducible rfl))
            (try simp only [Act.put, List.setIfInBounds_toArray, List.set_cons_zero, List.set_cons_succ, List.getElem_toArray, List.getElem_cons_succ, List.getElem_cons_zero])
            refine wpAnyH_take (i := 1) (oi := _) (v := ?_) rfl (by kernel_rfl) (by kernel_rfl) (by kernel_rfl) (fun _ _ _ h => h) (Or.inl ⟨by rfl, ?_⟩) (by assumption) ?_
            rotate_left 1
            · (intro w hSw; (try dsimp only at hSw); (try simp only [List.getElem_toArray, List.getElem_cons_succ, List.getElem_cons_zero]); first | (go_simp; done) | (go_simp; with_reducible rfl))
            (try simp only [Act.put, List.setIfInBounds_toArray, List.set_cons_zero, List.set_cons_succ, List.getElem_toArray, List.getElem_cons_succ, List.getElem_cons_zero])
            refine wpAnyH_take (i := 2) (oi := _) (v := ?_) rfl (by kernel_rfl) (by kernel_rfl) (by kernel_rfl) (fun _ _ _ h => h) (Or.inl ⟨by rfl, ?_⟩) (by assumption) ?_
            rotate_left 1
            · (intro w hSw; (try dsimp only at hSw); (try simp only [List.getElem_toArray, List.getElem_cons_succ, List.getElem_cons_zero]); first | (go_simp; done) | (go_simp; with_reducible rfl))
            (try simp only [Act.put, List.setIfInBounds_toArray, List.set_cons_zero, List.set_cons_succ, List.getElem_toArray, List.getElem_cons_succ, List.getElem_cons_zero])
            refine wpAnyH_take (i := 3) (oi := _) (v := ?_) rfl (by kernel_rfl) (by kernel_rfl) (by kernel_rfl) (fun _ _ _ h => h) (Or.inl ⟨by rfl, ?_⟩) (by assumption) ?_
            rotate_left 1
            · (intro w hSw; (try dsimp only at hSw); (try simp only [List.getElem_toArray, List.getElem_cons_succ, List.getElem_cons_zero]); first | (go_simp; done) | (go_simp; with_reducible rfl))
            (try simp only [Act.put, List.setIfInBounds_toArray, List.set_cons_zero, List.set_cons_succ, List.getElem_toArray, List.getElem_cons_succ, List.getElem_cons_zero])
            refine wpAnyH_take (i := 4) (oi := _) (v := undef) rfl (by kernel_rfl) (by kernel_rfl) (by kernel_rfl) (fun _ _ _ h => h) (Or.inr ⟨by rfl, rfl⟩) (by assumption) ?_
            (try simp only [Act.put, List.setIfInBounds_toArray, List.set_cons_zero, List.set_cons_succ, List.getElem_toArray, List.getElem_cons_succ, List.getElem_cons_zero])
            refine wpAnyH_take (i := 6) (oi := _) (v := undef) rfl (by kernel_rfl) (by kernel_rfl) (by kernel_rfl) (fun _ _ _ h => h) (Or.inr ⟨by rfl, rfl⟩) (by assumption) ?_
            (try simp only [Act.put, List.setIfInBounds_toArray, List.set_cons_zero, List.set_cons_succ, List.getElem_toArray, List.getElem_cons_succ, List.getElem_cons_zero])
            refine wpAnyH_ready (rs := [5]) (by kernel_rfl) (by simp) (AllReadyH.cons rfl (fun K hK => ?_) AllReadyH.nil)
            go_simp
            refine hK.out _ _ ?_ (fun hHeld1 => ?_)
            · ((try dsimp only); (refine ⟨?_, ?_, ?_, ?_, ?_⟩ <;> go_simp))
            clear hK K hHeld0
            (try simp only [Act.put, List.setIfInBounds_toArray, List.set_cons_zero, List.set_cons_succ, List.getElem_toArray, List.getElem_cons_succ, List.getElem_cons_zero])
            refine wpAnyH_take (i := 7) (oi := _) (v := undef) rfl (by kernel_rfl) (by kernel_rfl) (by kernel_rfl) (fun _ _ _ h => h) (Or.inr ⟨by rfl, rfl⟩) (by assumption) ?_
            (try simp only [Act.put, List.setIfInBounds_toArray, List.set_cons_zero, List.set_cons_succ, List.getElem_toArray, List.getElem_cons_succ, List.getElem_cons_zero])
            refine wpAnyH_take (i := 8) (oi := _) (v := ?_) rfl (by kernel_rfl) (by kernel_rfl) (by kernel_rfl) (fun _ _ _ h => h) (Or.inl ⟨by rfl, ?_⟩) (by assumption) ?_
            rotate_left 1
            · (intro w hSw; (try dsimp only at hSw); (try simp only [List.getElem_toArray, List.getElem_cons_succ, List.getElem_cons_zero]); first | (go_simp; done) | (go_simp; with_reducible rfl))
            (try simp only [Act.put, List.setIfInBounds_toArray, List.set_cons_zero, List.set_cons_succ, List.getElem_toArray, List.getElem_cons_succ, List.getElem_cons_zero])
            refine wpAnyH_take (i := 9) (oi := _) (v := ?_) rfl (by kernel_rfl) (by kernel_rfl) (by kernel_rfl) (fun _ _ _ h => h) (Or.inl ⟨by rfl, ?_⟩) (by assumption) ?_
            rotate_left 1
            · (intro w hSw; (try dsimp only at hSw); (try simp only [List.getElem_toArray, List.getElem_cons_succ, List.getElem_cons_zero]); first | (go_simp; done) | (go_simp; with_reducible rfl))
            (try simp only [Act.put, List.setIfInBounds_toArray, List.set_cons_zero, List.set_cons_succ, List.getElem_toArray, List.getElem_cons_succ, List.getElem_cons_zero])
            refine wpAnyH_take (i := 10) (oi := _) (v := ?_) rfl (by kernel_rfl) (by kernel_rfl) (by kernel_rfl) (fun _ _ _ h => h) (Or.inl ⟨by rfl, ?_⟩) (by assumption) ?_
            rotate_left 1
            · (intro w hSw; (try dsimp only at hSw); (try simp only [List.getElem_toArray, List.getElem_cons_succ, List.getElem_cons_zero]); first | (go_simp; done) | (go_simp; with_reducible rfl))
            (try simp only [Act.put, List.setIfInBounds_toArray, List.set_cons_zero, List.set_cons_succ, List.getElem_toArray, List.getElem_cons_succ, List.getElem_cons_zero])
            refine wpAnyH_take (i := 11) (oi := _) (v := ?_) rfl (by kernel_rfl) (by kernel_rfl) (by kernel_rfl) (fun _ _ _ h => h) (Or.inl ⟨by rfl, ?_⟩) (by assumption) ?_
            rotate_left 1
            · (intro w hSw; (try dsimp only at hSw); (try simp only [List.getElem_toArray, List.getElem_cons_succ, List.getElem_cons_zero]); first | (go_simp; done) | (go_simp; with_reducible rfl))
            (try simp only [Act.put, List.setIfInBounds_toArray, List.set_cons_zero, List.set_cons_succ, List.getElem_toArray, List.getElem_cons_succ, List.getElem_cons_zero])
            refine wpAnyH_take (i := 12) (oi := _) (v := ?_) rfl (by kernel_rfl) (by kernel_rfl) (by kernel_rfl) (fun _ _ _ h => h) (Or.inl ⟨by rfl, ?_⟩) (by assumption) ?_
            rotate_left 1
            · (intro w hSw; (try dsimp only at hSw); (try simp only [List.getElem_toArray, List.getElem_cons_succ, List.getElem_cons_zero]); first | (go_simp; done) | (go_simp; with_reducible rfl))
            (try simp only [Act.put, List.setIfInBounds_toArray, List.set_cons_zero, List.set_cons_succ, List.getElem_toArray, List.getElem_cons_succ, List.getElem_cons_zero])
            refine wpAnyH_take (i := 13) (oi := _) (v := ?_) rfl (by kernel_rfl) (by kernel_rfl) (by kernel_rfl) (fun _ _ _ h => h) (Or.inl ⟨by rfl, ?_⟩) (by assumption) ?_
            rotate_left 1
            · (intro w hSw; (try dsimp only at hSw); (try simp only [List.getElem_toArray, List.getElem_cons_succ, List.getElem_cons_zero]); first | (go_simp; done) | (go_simp; with_reducible rfl))
            (try simp only [Act.put, List.setIfInBounds_toArray, List.set_cons_zero, List.set_cons_succ, List.getElem_toArray, List.getElem_cons_succ, List.getElem_cons_zero])
            refine wpAnyH_take (i := 14) (oi := _) (v := ?_) rfl (by kernel_rfl) (by kernel_rfl) (by kernel_rfl) (fun _ _ _ h => h) (Or.inl ⟨by rfl, ?_⟩) (by assumption) ?_
            rotate_left 1
            · (intro w hSw; (try dsimp only at hSw); (try simp only [List.getElem_toArray, List.getElem_cons_succ, List.getElem_cons_zero]); first | (go_simp; done) | (go_simp; with_reducible rfl))
            (try simp only [Act.put, List.setIfInBounds_toArray, List.set_cons_zero, List.set_cons_succ, List.getElem_toArray, List.getElem_cons_succ, List.getElem_cons_zero])
            refine wpAnyH_take (i := 16) (oi := _) (v := ?_) rfl (by kernel_rfl) (by kernel_rfl) (by kernel_rfl) (fun _ _ _ h => h) (Or.inl ⟨by rfl, ?_⟩) (by assumption) ?_
            rotate_left 1
            · (intro w hSw; (try dsimp only at hSw); (try simp only [List.getElem_toArray, List.getElem_cons_succ, List.getElem_cons_zero]); first | (go_simp; done) | (go_simp; with_reducible rfl))
            (try simp only [Act.put, List.setIfInBounds_toArray, List.set_cons_zero, List.set_cons_succ, List.getElem_toArray, List.getElem_cons_succ, List.getElem_cons_zero])
            refine wpAnyH_ready (rs := [15]) (by kernel_rfl) (by simp) (AllReadyH.cons rfl (fun K hK => ?_) AllReadyH.nil)
            go_simp
            go_wp2_with (first
              | (go_at_call 41; (with_reducible refine (HPN.out _ ?_).mono ?_); (exact HG.out.below (by repeat' (first | (with_reducible exact Below.refl _ _) | (with_reducible assumption) | (with_reducible refine Below.alloc ?_ ?_ _) | (with_reducible refine Below.drew ?_) | (with_reducible refine below_drewN ?_ _) | (with_reducible refine Below.setCell ?_ ?_ _) | (with_reducible refine below_setRow' ?_ ?_ _) | go_size)) (Nat.le_refl _)); rintro e w1 ⟨rfl, hb1⟩; have hk1 := blk?_below hb1; (try simp only [size_drew', size_drewN'] at hk1); have hB1 := below_via (w := w) (by repeat' (first | (with_reducible exact Below.refl _ _) | (with_reducible assumption) | (with_reducible refine Below.alloc ?_ ?_ _) | (with_reducible refine Below.drew ?_) | (with_reducible refine below_drewN ?_ _) | (with_reducible refine Below.setCell ?_ ?_ _) | (with_reducible refine below_setRow' ?_ ?_ _) | go_size)) hb1; have hL0 : w.heap.size < w1.heap.size := (by have hS0 := hb1.size; (try simp at hS0); omega); have hL1 : g3 < w1.heap.size := (by have hS0 := hb1.size; (try simp at hS0); omega); have hL2 : g4 < w1.heap.size := (by have hS0 := hb1.size; (try simp at hS0); omega); have hL3 : g6 < w1.heap.size := (by have hS0 := hb1.size; (try simp at hS0); omega); have hL4 : g7 < w1.heap.size := (by have hS0 := hb1.size; (try simp at hS0); omega); have hLe : w.heap.size ≤ w1.heap.size := hB1.size; clear hb1))
            refine hK.out _ _ ?_ (fun hHeld2 => ?_)
            · ((try dsimp only); (refine ⟨?_, ?_, ?_, ?_, ?_⟩ <;> go_simp))
            clear hK K hHeld1
            (try simp only [Act.put, List.setIfInBounds_toArray, List.set_cons_zero, List.set_cons_succ, List.getElem_toArray, List.getElem_cons_succ, List.getElem_cons_zero])
            refine wpAnyH_take (i := 17) (oi := _) (v := ?_) rfl (by kernel_rfl) (by kernel_rfl) (by kernel_rfl) (fun _ _ _ h => h) (Or.inl ⟨by rfl, ?_⟩) (by assumption) ?_
            rotate_left 1
            · (intro w hSw; (try dsimp only at hSw); (try simp only [List.getElem_toArray, List.getElem_cons_succ, List.getElem_cons_zero]); first | (go_simp; done) | (go_simp; with_reducible rfl))
            (try simp only [Act.put, List.setIfInBounds_toArray, List.set_cons_zero, List.set_cons_succ, List.getElem_toArray, List.getElem_cons_succ, List.getElem_cons_zero])
            refine wpAnyH_take (i := 18) (oi := _) (v := ?_) rfl (by kernel_rfl) (by kernel_rfl) (by kernel_rfl) (fun _ _ _ h => h) (Or.inl ⟨by rfl, ?_⟩) (by assumption) ?_
            rotate_left 1
            · (intro w hSw; (try dsimp only at hSw); (try simp only [List.getElem_toArray, List.getElem_cons_succ, List.getElem_cons_zero]); first | (go_simp; done) | (go_simp; with_reducible rfl))
            (try simp only [Act.put, List.setIfInBounds_toArray, List.set_cons_zero, List.set_cons_succ, List.getElem_toArray, List.getElem_cons_succ, List.getElem_cons_zero])
            refine wpAnyH_take (i := 19) (oi := _) (v := ?_) rfl (by kernel_rfl) (by kernel_rfl) (by kernel_rfl) (fun _ _ _ h => h) (Or.inl ⟨by rfl, ?_⟩) (by assumption) ?_
            rotate_left 1
            · (intro w hSw; (try dsimp only at hSw); (try simp only [List.getElem_toArray, List.getElem_cons_succ, List.getElem_cons_zero]); first | (go_simp; done) | (go_simp; with_reducible rfl))
            (try simp only [Act.put, List.setIfInBounds_toArray, List.set_cons_zero, List.set_cons_succ, List.getElem_toArray, List.getElem_cons_succ, List.getElem_cons_zero])
            refine wpAnyH_take (i := 20) (oi := _) (v := ?_) rfl (by kernel_rfl) (by kernel_rfl) (by kernel_rfl) (fun _ _ _ h => h) (Or.inl ⟨by rfl, ?_⟩) (by assumption) ?_
            rotate_left 1
            · (intro w hSw; (try dsimp only at hSw); (try simp only [List.getElem_toArray, List.getElem_cons_succ, List.getElem_cons_zero]); first | (go_simp; done) | (go_simp; with_reducible rfl))
            (try simp only [Act.put, List.setIfInBounds_toArray, List.set_cons_zero, List.set_cons_succ, List.getElem_toArray, List.getElem_cons_succ, List.getElem_cons_zero])
            refine wpAnyH_done (by kernel_rfl) ?_ _
            all_goals (go_wp2; go_ret; exact ⟨rfl, (by repeat' (first | (with_reducible exact Below.refl _ _) | (with_reducible assumption) | (with_reducible refine Below.alloc ?_ ?_ _) | (with_reducible refine Below.drew ?_) | (with_reducible refine below_drewN ?_ _) | (with_reducible refine Below.setCell ?_ ?_ _) | (with_reducible refine below_setRow' ?_ ?_ _) | go_size))⟩)
set_option maxHeartbeats 4000000 in
set_option maxRecDepth 100000 in
theorem law12_4B (b cn cp : Nat → Int) (z : ByteArray) (hcn : Bt cn) (hcp : Bt cp) {b4 o4 b6 o6 : Nat} (w : World) (hg : Gl b4 o4 b6 o6 w) (hN : ∀ w, Gl b4 o4 b6 o6 w → Calls Tryd.prog 41 #[.agg (adr 4 (pre 4 b) ⟨#[]⟩)] w fun e w' => e = .returned (.agg (adr 4 cn ⟨#[]⟩)) ∧ Below w.heap.size w w') (hP : ∀ w, Gl b4 o4 b6 o6 w → Calls Tryd.prog 39 #[.agg (adr 4 (pre 4 b) ⟨#[]⟩)] w fun e w' => e = .returned (.agg (adr 0 zb ⟨#[]⟩)) ∧ Below w.heap.size w w') (hNP : ∀ w, Gl b4 o4 b6 o6 w → Calls Tryd.prog 39 #[.agg (adr 4 cn ⟨#[]⟩)] w fun e w' => e = .returned (.agg (adr 4 (pre 4 b) ⟨#[]⟩)) ∧ Below w.heap.size w w')
    (hL : adrEq 4 (pre 4 b) ⟨#[]⟩ 4 (lst 4 (pre 4 b)) ⟨#[]⟩ = false) (hF : adrEq 4 (pre 4 b) ⟨#[]⟩ 4 zb ⟨#[]⟩ = true) :
    Calls Tryd.prog 12 #[.agg (adr 4 b z)] w fun e w' => e = .returned (.bool true) ∧ Below w.heap.size w w' := by
  have HG := Lib.hid hg
  have HCN := Lib.hid hcn
  have HCP := Lib.hid hcp
  have HN := Lib.hid hN
  have HP := Lib.hid hP
  have HNP := Lib.hid hNP
  have hEC : adrEq 4 (pre 4 b) ⟨#[]⟩ 4 (pre 4 b) ⟨#[]⟩ = true := (adrEq_iff _ _ _ _ _ _).2 ⟨rfl, fun _ _ => rfl, rfl⟩
  clear hg hcn hcp hN hP hNP
  go_enter Tryd.func12, Tryd.ntmps12
  go_upto_region 4 with (first
    | (go_at_call 52; (with_reducible refine (bare_4 _ _ _).mono ?_); rintro e w1 ⟨rfl, hb1⟩; have hk1 := blk?_below hb1; (try simp only [size_drew', size_drewN'] at hk1); have hB1 := below_via (w := w) (by repeat' (first | (with_reducible exact Below.refl _ _) | (with_reducible assumption) | (with_reducible refine Below.alloc ?_ ?_ _) | (with_reducible refine Below.drew ?_) | (with_reducible refine below_drewN ?_ _) | (with_reducible refine Below.setCell ?_ ?_ _) | (with_reducible refine below_setRow' ?_ ?_ _) | go_size)) hb1; have hL0 : w.heap.size < w1.heap.size := (by have hS0 := hb1.size; (try simp at hS0); omega); have hLe : w.heap.size ≤ w1.heap.size := hB1.size; clear hb1)
    | (go_at_call 36; (with_reducible refine (valid_4 _ _ _).mono ?_); rintro e w1 ⟨rfl, hb1⟩; have hk1 := blk?_below hb1; (try simp only [size_drew', size_drewN'] at hk1); have hB1 := below_via (w := w) (by repeat' (first | (with_reducible exact Below.refl _ _) | (with_reducible assumption) | (with_reducible refine Below.alloc ?_ ?_ _) | (with_reducible refine Below.drew ?_) | (with_reducible refine below_drewN ?_ _) | (with_reducible refine Below.setCell ?_ ?_ _) | (with_reducible refine below_setRow' ?_ ?_ _) | go_size)) hb1; have hL0 : w.heap.size < w1.heap.size := (by have hS0 := hb1.size; (try simp at hS0); omega); have hLe : w.heap.size ≤ w1.heap.size := hB1.size; clear hb1))
  go_cut [3, 4] (fun s3 s4 wx => ∃ g3 g4 : Nat, s3 = .pointer (some ⟨g3, 0, none⟩) ∧ s4 = .pointer (some ⟨g4, 0, none⟩) ∧ w.heap.size < g3 ∧ w.heap.size < g4 ∧ g3 ≠ g4 ∧ blk? wx w.heap.size = some (adr 4 (pre 4 b) ⟨#[]⟩) ∧ blk? wx g3 = some (adr 4 (pre 4 b) ⟨#[]⟩) ∧ blk? wx g4 = some (adr 4 zb ⟨#[]⟩) ∧ Below w.heap.size w wx)
  case first =>
    have k0 : blk? w1 w.heap.size = some (adr 4 (pre 4 b) ⟨#[]⟩) := by go_simp
    have hc0 : w1.cell? ⟨w.heap.size, 0, none⟩ = some (.int .i64 4) := by rw [blk?_cell k0]; rfl
    clear hk1
    have hQ0a : w.heap.size < w1.heap.size + 1 := by omega
    have hQ0b : w.heap.size < w1.heap.size + 1 + 1 := by omega
    go_region_held3 (fun w' => blk? w' (w.heap.size) = some (adr 4 (pre 4 b) ⟨#[]⟩) ∧ w'.cell? ⟨w.heap.size, 0, none⟩ = some (.int .i64 4)) (first | (refine ⟨?_, ?_⟩ <;> (first | go_simp | go_simp))) (first
    | (go_at_call 47; (with_reducible refine (lsame_pre _ _).mono ?_); rintro e wS ⟨rfl, hb1⟩; have hk1 := blk?_below hb1; (try simp only [size_drew', size_drewN'] at hk1); have hB1 := below_via (w := w) (by repeat' (first | (with_reducible exact Below.refl _ _) | (with_reducible assumption) | (with_reducible refine Below.alloc ?_ ?_ _) | (with_reducible refine Below.drew ?_) | (with_reducible refine below_drewN ?_ _) | (with_reducible refine Below.setCell ?_ ?_ _) | (with_reducible refine below_setRow' ?_ ?_ _) | go_size)) hb1; have hL0 : w.heap.size < wS.heap.size := (by have hS0 := hb1.size; (try simp at hS0); omega); have hLe : w.heap.size ≤ wS.heap.size := hB1.size; obtain ⟨hc1, hf1⟩ := bcell hb1; (try simp only [size_drew', size_drewN'] at hc1); (try simp only [size_drew', size_drewN'] at hf1); have hS9 := hb1.size; (try simp [Nat.add_one_le_iff] at hS9); (try (have hS8 := Nat.lt_of_succ_lt hS9)); have hQ0a : w.heap.size < wS.heap.size + 1 := (by omega); have hQ0b : w.heap.size < wS.heap.size + 1 + 1 := (by omega); clear hb1)
    | fail)
    all_goals (go_wp2_with fail; go_meet; refine ⟨_, _, rfl, rfl, ?_, ?_, ?_, ?_, ?_, ?_, (by repeat' (first | (with_reducible exact Below.refl _ _) | (with_reducible assumption) | (with_reducible refine Below.alloc ?_ ?_ _) | (with_reducible refine Below.drew ?_) | (with_reducible refine below_drewN ?_ _) | (with_reducible refine Below.setCell ?_ ?_ _) | (with_reducible refine below_setRow' ?_ ?_ _) | go_size))⟩)
    all_goals (first | omega | go_simp)
  case rest =>
    obtain ⟨g3, g4, rfl, rfl, hg3, hg4, hne, k0, k3, k4, hB⟩ := hcut
    have hc0 : wc.cell? ⟨w.heap.size, 0, none⟩ = some (.int .i64 4) := by rw [blk?_cell k0]; rfl
    go_wp2
    go_loopw [20, 5] (fun i v5 wr => ∃ k : Nat, k ≤ 4 ∧ i = .int .i64 k ∧ blk? wr w.heap.size = some (adr 4 (pre 4 b) ⟨#[]⟩) ∧ blk? wr g3 = some (adr 4 (lst k (pre 4 b)) ⟨#[]⟩) ∧ blk? wr g4 = some (adr 4 zb ⟨#[]⟩) ∧ Below w.heap.size w wr) (fun i _ _ => 4 - (intOf i).toNat)
    case atStart => exact ⟨0, by omega, rfl, k0, by rw [lst_zero]; exact k3, k4, hB⟩
    case round =>
      obtain ⟨k, hk, rfl, k0, k3, k4, hB⟩ := hrel
      have hl0 := blk?_lt k0
      have hl3 := blk?_lt k3
      have hl4 := blk?_lt k4
      by_cases hlt : k < 4
      · have h16 : k < 16 := by omega
        have hi0 : (0 : Int) ≤ (k : Int) := by omega
        have hi1 : (k : Int) < 4 := by omega
        have hi2 : (k : Int) < 16 := by omega
        have hld : wr.cell? ⟨g3, 1 + k, none⟩ = some (.int .u8 (lst k (pre 4 b) k)) := by rw [blk?_cell k3, adr_byte' _ _ _ _ h16]
        have hfz : wr.frozen? ⟨g3, 1 + k, none⟩ = false := blk?_frozen k3 _
        go_wp2
        go_roundw
        case rel => exact ⟨k + 1, by omega, by go_num, by rw [blk?_setOther _ _ _ _ (by show _ ≠ g3; omega)]; exact k0, by rw [blk?_setSame, k3, Option.map_some, adr_set' _ _ _ _ _ h16, lst_succ], by rw [blk?_setOther _ _ _ _ (by show _ ≠ g3; omega)]; exact k4, (by repeat' (first | (with_reducible exact Below.refl _ _) | (with_reducible assumption) | (with_reducible refine Below.alloc ?_ ?_ _) | (with_reducible refine Below.drew ?_) | (with_reducible refine below_drewN ?_ _) | (with_reducible refine Below.setCell ?_ ?_ _) | (with_reducible refine below_setRow' ?_ ?_ _) | go_size))⟩
        case measure => simp [intOf]; omega
      · obtain rfl : k = 4 := by omega
        have hQ0a : w.heap.size < wr.heap.size + 1 := by omega
        have hQ0b : w.heap.size < wr.heap.size + 1 + 1 := by omega
        have hQ3a : g3 < wr.heap.size + 1 := by omega
        have hQ3b : g3 < wr.heap.size + 1 + 1 := by omega
        have hQ4a : g4 < wr.heap.size + 1 := by omega
        have hQ4b : g4 < wr.heap.size + 1 + 1 := by omega
        go_upto_region 10 with fail
        go_cut [6, 7] (fun s6 s7 wx => ∃ g6 g7 : Nat, s6 = .pointer (some ⟨g6, 0, none⟩) ∧ s7 = .pointer (some ⟨g7, 0, none⟩) ∧ blk? wx w.heap.size = some (adr 4 (pre 4 b) ⟨#[]⟩) ∧ blk? wx g3 = some (adr 4 (lst 4 (pre 4 b)) ⟨#[]⟩) ∧ blk? wx g4 = some (adr 4 zb ⟨#[]⟩) ∧ blk? wx g6 = some (adr 4 cn ⟨#[]⟩) ∧ blk? wx g7 = some (adr 0 zb ⟨#[]⟩) ∧ Below w.heap.size w wx)
        case first =>
          go_region_held3 (fun w' => blk? w' (w.heap.size) = some (adr 4 (pre 4 b) ⟨#[]⟩) ∧ blk? w' (g3) = some (adr 4 (lst 4 (pre 4 b)) ⟨#[]⟩) ∧ blk? w' (g4) = some (adr 4 zb ⟨#[]⟩)) (first | (refine ⟨?_, ?_, ?_⟩ <;> go_simp)) (first
    | (go_at_call 41; (with_reducible refine (HN.out _ ?_).mono ?_); (exact HG.out.below (by repeat' (first | (with_reducible exact Below.refl _ _) | (with_reducible assumption) | (with_reducible refine Below.alloc ?_ ?_ _) | (with_reducible refine Below.drew ?_) | (with_reducible refine below_drewN ?_ _) | (with_reducible refine Below.setCell ?_ ?_ _) | (with_reducible refine below_setRow' ?_ ?_ _) | go_size)) (Nat.le_refl _)); rintro e wN ⟨rfl, hb1⟩; have hk1 := blk?_below hb1; (try simp only [size_drew', size_drewN'] at hk1); have hB1 := below_via (w := w) (by repeat' (first | (with_reducible exact Below.refl _ _) | (with_reducible assumption) | (with_reducible refine Below.alloc ?_ ?_ _) | (with_reducible refine Below.drew ?_) | (with_reducible refine below_drewN ?_ _) | (with_reducible refine Below.setCell ?_ ?_ _) | (with_reducible refine below_setRow' ?_ ?_ _) | go_size)) hb1; have hL0 : w.heap.size < wN.heap.size := (by have hS0 := hb1.size; (try simp at hS0); omega); have hL1 : g3 < wN.heap.size := (by have hS0 := hb1.size; (try simp at hS0); omega); have hL2 : g4 < wN.heap.size := (by have hS0 := hb1.size; (try simp at hS0); omega); have hLe : w.heap.size ≤ wN.heap.size := hB1.size; (try (have hT0 : wr.heap.size < wN.heap.size := (by have hS0 := hb1.size; (try simp at hS0); omega))); (try (have hT1 : wr.heap.size + 1 < wN.heap.size := (by have hS0 := hb1.size; (try simp at hS0); omega))); have hQ0a : w.heap.size < wN.heap.size + 1 := (by omega); have hQ0b : w.heap.size < wN.heap.size + 1 + 1 := (by omega); have hQ1a : g3 < wN.heap.size + 1 := (by omega); have hQ1b : g3 < wN.heap.size + 1 + 1 := (by omega); have hQ2a : g4 < wN.heap.size + 1 := (by omega); have hQ2b : g4 < wN.heap.size + 1 + 1 := (by omega); clear hb1)
    | (go_at_call 39; (with_reducible refine (HP.out _ ?_).mono ?_); (exact HG.out.below (by repeat' (first | (with_reducible exact Below.refl _ _) | (with_reducible assumption) | (with_reducible refine Below.alloc ?_ ?_ _) | (with_reducible refine Below.drew ?_) | (with_reducible refine below_drewN ?_ _) | (with_reducible refine Below.setCell ?_ ?_ _) | (with_reducible refine below_setRow' ?_ ?_ _) | go_size)) (Nat.le_refl _)); rintro e wP ⟨rfl, hb1⟩; have hk1 := blk?_below hb1; (try simp only [size_drew', size_drewN'] at hk1); have hB1 := below_via (w := w) (by repeat' (first | (with_reducible exact Below.refl _ _) | (with_reducible assumption) | (with_reducible refine Below.alloc ?_ ?_ _) | (with_reducible refine Below.drew ?_) | (with_reducible refine below_drewN ?_ _) | (with_reducible refine Below.setCell ?_ ?_ _) | (with_reducible refine below_setRow' ?_ ?_ _) | go_size)) hb1; have hL0 : w.heap.size < wP.heap.size := (by have hS0 := hb1.size; (try simp at hS0); omega); have hL1 : g3 < wP.heap.size := (by have hS0 := hb1.size; (try simp at hS0); omega); have hL2 : g4 < wP.heap.size := (by have hS0 := hb1.size; (try simp at hS0); omega); have hLe : w.heap.size ≤ wP.heap.size := hB1.size; (try (have hT0 : wr.heap.size < wP.heap.size := (by have hS0 := hb1.size; (try simp at hS0); omega))); (try (have hT1 : wr.heap.size + 1 < wP.heap.size := (by have hS0 := hb1.size; (try simp at hS0); omega))); (try (have hT2 : wN.heap.size < wP.heap.size := (by have hS0 := hb1.size; (try simp at hS0); omega))); (try (have hT3 : wN.heap.size + 1 < wP.heap.size := (by have hS0 := hb1.size; (try simp at hS0); omega))); have hQ0a : w.heap.size < wP.heap.size + 1 := (by omega); have hQ0b : w.heap.size < wP.heap.size + 1 + 1 := (by omega); have hQ1a : g3 < wP.heap.size + 1 := (by omega); have hQ1b : g3 < wP.heap.size + 1 + 1 := (by omega); have hQ2a : g4 < wP.heap.size + 1 := (by omega); have hQ2b : g4 < wP.heap.size + 1 + 1 := (by omega); clear hb1))
          all_goals (go_wp2_with fail; go_meet; refine ⟨_, _, rfl, rfl, ?_, ?_, ?_, ?_, ?_, (by repeat' (first | (with_reducible exact Below.refl _ _) | (with_reducible assumption) | (with_reducible refine Below.alloc ?_ ?_ _) | (with_reducible refine Below.drew ?_) | (with_reducible refine below_drewN ?_ _) | (with_reducible refine Below.setCell ?_ ?_ _) | (with_reducible refine below_setRow' ?_ ?_ _) | go_size))⟩)
          all_goals go_simp
        case rest =>
          obtain ⟨g6, g7, rfl, rfl, k0, k3, k4, k6, k7, hB⟩ := hcut
          have hl0 := blk?_lt k0
          have hl3 := blk?_lt k3
          have hl4 := blk?_lt k4
          have hl6 := blk?_lt k6
          have hl7 := blk?_lt k7
          go_upto_region 11 with fail
          go_cut [44] (fun s44 wx => s44 = .bool false ∧ blk? wx w.heap.size = some (adr 4 (pre 4 b) ⟨#[]⟩) ∧ blk? wx g3 = some (adr 4 (lst 4 (pre 4 b)) ⟨#[]⟩) ∧ blk? wx g4 = some (adr 4 zb ⟨#[]⟩) ∧ blk? wx g6 = some (adr 4 cn ⟨#[]⟩) ∧ blk? wx g7 = some (adr 0 zb ⟨#[]⟩) ∧ Below w.heap.size w wx)
          case first =>
            go_region_held3 (fun w' => blk? w' (w.heap.size) = some (adr 4 (pre 4 b) ⟨#[]⟩) ∧ blk? w' (g3) = some (adr 4 (lst 4 (pre 4 b)) ⟨#[]⟩) ∧ blk? w' (g4) = some (adr 4 zb ⟨#[]⟩) ∧ blk? w' (g6) = some (adr 4 cn ⟨#[]⟩) ∧ blk? w' (g7) = some (adr 0 zb ⟨#[]⟩)) (first | (refine ⟨?_, ?_, ?_, ?_, ?_⟩ <;> go_simp)) (first
    | (go_at_call 53; (with_reducible refine (iIsValid_0 (b4 := b4) (o4 := o4) 0 (by omega) (by omega) zb Bt_zb _ _ ?_).mono ?_); (exact HG.out.g4.below (by repeat' (first | (with_reducible exact Below.refl _ _) | (with_reducible assumption) | (with_reducible refine Below.alloc ?_ ?_ _) | (with_reducible refine Below.drew ?_) | (with_reducible refine below_drewN ?_ _) | (with_reducible refine Below.setCell ?_ ?_ _) | (with_reducible refine below_setRow' ?_ ?_ _) | go_size)) (Nat.le_refl _)); rintro e w1 ⟨rfl, hb1⟩; have hk1 := blk?_below hb1; (try simp only [size_drew', size_drewN'] at hk1); have hB1 := below_via (w := w) (by repeat' (first | (with_reducible exact Below.refl _ _) | (with_reducible assumption) | (with_reducible refine Below.alloc ?_ ?_ _) | (with_reducible refine Below.drew ?_) | (with_reducible refine below_drewN ?_ _) | (with_reducible refine Below.setCell ?_ ?_ _) | (with_reducible refine below_setRow' ?_ ?_ _) | go_size)) hb1; have hL0 : w.heap.size < w1.heap.size := (by have hS0 := hb1.size; (try simp at hS0); omega); have hL1 : g3 < w1.heap.size := (by have hS0 := hb1.size; (try simp at hS0); omega); have hL2 : g4 < w1.heap.size := (by have hS0 := hb1.size; (try simp at hS0); omega); have hL3 : g6 < w1.heap.size := (by have hS0 := hb1.size; (try simp at hS0); omega); have hL4 : g7 < w1.heap.size := (by have hS0 := hb1.size; (try simp at hS0); omega); have hLe : w.heap.size ≤ w1.heap.size := hB1.size; clear hb1)
    | (go_at_call 53; (with_reducible refine (iIsValid_4 (b4 := b4) (o4 := o4) cn HCN.out _ _ ?_).mono ?_); (exact HG.out.g4.below (by repeat' (first | (with_reducible exact Below.refl _ _) | (with_reducible assumption) | (with_reducible refine Below.alloc ?_ ?_ _) | (with_reducible refine Below.drew ?_) | (with_reducible refine below_drewN ?_ _) | (with_reducible refine Below.setCell ?_ ?_ _) | (with_reducible refine below_setRow' ?_ ?_ _) | go_size)) (Nat.le_refl _)); rintro e w1 ⟨rfl, hb1⟩; have hk1 := blk?_below hb1; (try simp only [size_drew', size_drewN'] at hk1); have hB1 := below_via (w := w) (by repeat' (first | (with_reducible exact Below.refl _ _) | (with_reducible assumption) | (with_reducible refine Below.alloc ?_ ?_ _) | (with_reducible refine Below.drew ?_) | (with_reducible refine below_drewN ?_ _) | (with_reducible refine Below.setCell ?_ ?_ _) | (with_reducible refine below_setRow' ?_ ?_ _) | go_size)) hb1; have hL0 : w.heap.size < w1.heap.size := (by have hS0 := hb1.size; (try simp at hS0); omega); have hL1 : g3 < w1.heap.size := (by have hS0 := hb1.size; (try simp at hS0); omega); have hL2 : g4 < w1.heap.size := (by have hS0 := hb1.size; (try simp at hS0); omega); have hL3 : g6 < w1.heap.size := (by have hS0 := hb1.size; (try simp at hS0); omega); have hL4 : g7 < w1.heap.size := (by have hS0 := hb1.size; (try simp at hS0); omega); have hLe : w.heap.size ≤ w1.heap.size := hB1.size; clear hb1))
            all_goals (go_wp2_with fail; go_meet; refine ⟨rfl, ?_, ?_, ?_, ?_, ?_, (by repeat' (first | (with_reducible exact Below.refl _ _) | (with_reducible assumption) | (with_reducible refine Below.alloc ?_ ?_ _) | (with_reducible refine Below.drew ?_) | (with_reducible refine below_drewN ?_ _) | (with_reducible refine Below.setCell ?_ ?_ _) | (with_reducible refine below_setRow' ?_ ?_ _) | go_size))⟩)
            all_goals go_simp
          case rest =>
            obtain ⟨rfl, k0, k3, k4, k6, k7, hB⟩ := hcut
            have hl0 := blk?_lt k0
            have hl3 := blk?_lt k3
            have hl4 := blk?_lt k4
            have hl6 := blk?_lt k6
            have hl7 := blk?_lt k7
            go_wp2_with fail
            refine wp_region_held_drew (S := fun w' => blk? w' (w.heap.size) = some (adr 4 (pre 4 b) ⟨#[]⟩) ∧ blk? w' (g3) = some (adr 4 (lst 4 (pre 4 b)) ⟨#[]⟩) ∧ blk? w' (g4) = some (adr 4 zb ⟨#[]⟩) ∧ blk? w' (g6) = some (adr 4 cn ⟨#[]⟩) ∧ blk? w' (g7) = some (adr 0 zb ⟨#[]⟩)) (by kernel_rfl) ?_ (fun hHeld0 => ?_)
            · ((try dsimp only); (refine ⟨?_, ?_, ?_, ?_, ?_⟩ <;> go_simp))
            refine wpAnyH_take (i := 0) (oi := _) (v := ?_) rfl (by kernel_rfl) (by kernel_rfl) (by kernel_rfl) (fun _ _ _ h => h) (Or.inl ⟨by rfl, ?_⟩) (by assumption) ?_
            rotate_left 1
            · (intro w hSw; (try dsimp only at hSw); (try simp only [List.getElem_toArray, List.getElem_cons_succ, List.getElem_cons_zero]); first | (go_simp; done) | (go_simp; with_reducible rfl))
            (try simp only [Act.put, List.setIfInBounds_toArray, List.set_cons_zero, List.set_cons_succ, List.getElem_toArray, List.getElem_cons_succ, List.getElem_cons_zero])
            refine wpAnyH_take (i := 1) (oi := _) (v := ?_) rfl (by kernel_rfl) (by kernel_rfl) (by kernel_rfl) (fun _ _ _ h => h) (Or.inl ⟨by rfl, ?_⟩) (by assumption) ?_
            rotate_left 1
            · (intro w hSw; (try dsimp only at hSw); (try simp only [List.getElem_toArray, List.getElem_cons_succ, List.getElem_cons_zero]); first | (go_simp; done) | (go_simp; with_reducible rfl))
            (try simp only [Act.put, List.setIfInBounds_toArray, List.set_cons_zero, List.set_cons_succ, List.getElem_toArray, List.getElem_cons_succ, List.getElem_cons_zero])
            refine wpAnyH_take (i := 2) (oi := _) (v := ?_) rfl (by kernel_rfl) (by kernel_rfl) (by kernel_rfl) (fun _ _ _ h => h) (Or.inl ⟨by rfl, ?_⟩) (by assumption) ?_
            rotate_left 1
            · (intro w hSw; (try dsimp only at hSw); (try simp only [List.getElem_toArray, List.getElem_cons_succ, List.getElem_cons_zero]); first | (go_simp; done) | (go_simp; with_reducible rfl))
            (try simp only [Act.put, List.setIfInBounds_toArray, List.set_cons_zero, List.set_cons_succ, List.getElem_toArray, List.getElem_cons_succ, List.getElem_cons_zero])
            refine wpAnyH_take (i := 3) (oi := _) (v := ?_) rfl (by kernel_rfl) (by kernel_rfl) (by kernel_rfl) (fun _ _ _ h => h) (Or.inl ⟨by rfl, ?_⟩) (by assumption) ?_
            rotate_left 1
            · (intro w hSw; (try dsimp only at hSw); (try simp only [List.getElem_toArray, List.getElem_cons_succ, List.getElem_cons_zero]); first | (go_simp; done) | (go_simp; with_reducible rfl))
            (try simp only [Act.put, List.setIfInBounds_toArray, List.set_cons_zero, List.set_cons_succ, List.getElem_toArray, List.getElem_cons_succ, List.getElem_cons_zero])
            refine wpAnyH_take (i := 4) (oi := _) (v := ?_) rfl (by kernel_rfl) (by kernel_rfl) (by kernel_rfl) (fun _ _ _ h => h) (Or.inl ⟨by rfl, ?_⟩) (by assumption) ?_
            rotate_left 1
            · (intro w hSw; (try dsimp only at hSw); (try simp only [List.getElem_toArray, List.getElem_cons_succ, List.getElem_cons_zero]); first | (go_simp; done) | (go_simp; with_reducible rfl))
            (try simp only [Act.put, List.setIfInBounds_toArray, List.set_cons_zero, List.set_cons_succ, List.getElem_toArray, List.getElem_cons_succ, List.getElem_cons_zero])
            refine wpAnyH_take (i := 6) (oi := _) (v := ?_) rfl (by kernel_rfl) (by kernel_rfl) (by kernel_rfl) (fun _ _ _ h => h) (Or.inl ⟨by rfl, ?_⟩) (by assumption) ?_
            rotate_left 1
            · (intro w hSw; (try dsimp only at hSw); (try simp only [List.getElem_toArray, List.getElem_cons_succ, List.getElem_cons_zero]); first | (go_simp; done) | (go_simp; with_reducible rfl))
            (try simp only [Act.put, List.setIfInBounds_toArray, List.set_cons_zero, List.set_cons_succ, List.getElem_toArray, List.getElem_cons_succ, List.getElem_cons_zero])
            refine wpAnyH_ready (rs := [5]) (by kernel_rfl) (by simp) (AllReadyH.cons rfl (fun K hK => ?_) AllReadyH.nil)
            go_simp
            go_wp2_with (first
              | (go_at_call 39; (with_reducible refine (HNP.out _ ?_).mono ?_); (exact HG.out.below (by repeat' (first | (with_reducible exact Below.refl _ _) | (with_reducible assumption) | (with_reducible refine Below.alloc ?_ ?_ _) | (with_reducible refine Below.drew ?_) | (with_reducible refine below_drewN ?_ _) | (with_reducible refine Below.setCell ?_ ?_ _) | (with_reducible refine below_setRow' ?_ ?_ _) | go_size)) (Nat.le_refl _)); rintro e w1 ⟨rfl, hb1⟩; have hk1 := blk?_below hb1; (try simp only [size_drew', size_drewN'] at hk1); have hB1 := below_via (w := w) (by repeat' (first | (with_reducible exact Below.refl _ _) | (with_reducible assumption) | (with_reducible refine Below.alloc ?_ ?_ _) | (with_reducible refine Below.drew ?_) | (with_reducible refine below_drewN ?_ _) | (with_reducible refine Below.setCell ?_ ?_ _) | (with_reducible refine below_setRow' ?_ ?_ _) | go_size)) hb1; have hL0 : w.heap.size < w1.heap.size := (by have hS0 := hb1.size; (try simp at hS0); omega); have hL1 : g3 < w1.heap.size := (by have hS0 := hb1.size; (try simp at hS0); omega); have hL2 : g4 < w1.heap.size := (by have hS0 := hb1.size; (try simp at hS0); omega); have hL3 : g6 < w1.heap.size := (by have hS0 := hb1.size; (try simp at hS0); omega); have hL4 : g7 < w1.heap.size := (by have hS0 := hb1.size; (try simp at hS0); omega); have hLe : w.heap.size ≤ w1.heap.size := hB1.size; clear hb1))
            refine hK.out _ _ ?_ (fun hHeld1 => ?_)
            · ((try dsimp only); (refine ⟨?_, ?_, ?_, ?_, ?_⟩ <;> go_simp))
            clear hK K hHeld0
            (try simp only [Act.put, List.setIfInBounds_toArray, List.set_cons_zero, List.set_cons_succ, List.getElem_toArray, List.getElem_cons_succ, List.getElem_cons_zero])
            refine wpAnyH_take (i := 7) (oi := _) (v := ?_) rfl (by kernel_rfl) (by kernel_rfl) (by kernel_rfl) (fun _ _ _ h => h) (Or.inl ⟨by rfl, ?_⟩) (by assumption) ?_
            rotate_left 1
            · (intro w hSw; (try dsimp only at hSw); (try simp only [List.getElem_toArray, List.getElem_cons_succ, List.getElem_cons_zero]); first | (go_simp; done) | (go_simp; with_reducible rfl))
            (try simp only [Act.put, List.setIfInBounds_toArray, List.set_cons_zero, List.set_cons_succ, List.getElem_toArray, List.getElem_cons_succ, List.getElem_cons_zero])
            refine wpAnyH_take (i := 8) (oi := _) (v := ?_) rfl (by kernel_rfl) (by kernel_rfl) (by kernel_rfl) (fun _ _ _ h => h) (Or.inl ⟨by rfl, ?_⟩) (by assumption) ?_
            rotate_left 1
            · (intro w hSw; (try dsimp only at hSw); (try simp only [List.getElem_toArray, List.getElem_cons_succ, List.getElem_cons_zero]); first | (go_simp; done) | (go_simp; with_reducible rfl))
            (try simp only [Act.put, List.setIfInBounds_toArray, List.set_cons_zero, List.set_cons_succ, List.getElem_toArray, List.getElem_cons_succ, List.getElem_cons_zero])
            refine wpAnyH_take (i := 9) (oi := _) (v := ?_) rfl (by kernel_rfl) (by kernel_rfl) (by kernel_rfl) (fun _ _ _ h => h) (Or.inl ⟨by rfl, ?_⟩) (by assumption) ?_
            rotate_left 1
            · (intro w hSw; (try dsimp only at hSw); (try simp only [List.getElem_toArray, List.getElem_cons_succ, List.getElem_cons_zero]); first | (go_simp; done) | (go_simp; with_reducible rfl))
            (try simp only [Act.put, List.setIfInBounds_toArray, List.set_cons_zero, List.set_cons_succ, List.getElem_toArray, List.getElem_cons_succ, List.getElem_cons_zero])
            refine wpAnyH_take (i := 10) (oi := _) (v := ?_) rfl (by kernel_rfl) (by kernel_rfl) (by kernel_rfl) (fun _ _ _ h => h) (Or.inl ⟨by rfl, ?_⟩) (by assumption) ?_
            rotate_left 1
            · (intro w hSw; (try dsimp only at hSw); (try simp only [List.getElem_toArray, List.getElem_cons_succ, List.getElem_cons_zero]); first | (go_simp; done) | (go_simp; with_reducible rfl))
            (try simp only [Act.put, List.setIfInBounds_toArray, List.set_cons_zero, List.set_cons_succ, List.getElem_toArray, List.getElem_cons_succ, List.getElem_cons_zero])
            refine wpAnyH_take (i := 11) (oi := _) (v := ?_) rfl (by kernel_rfl) (by kernel_rfl) (by kernel_rfl) (fun _ _ _ h => h) (Or.inl ⟨by rfl, ?_⟩) (by assumption) ?_
            rotate_left 1
            · (intro w hSw; (try dsimp only at hSw); (try simp only [List.getElem_toArray, List.getElem_cons_succ, List.getElem_cons_zero]); first | (go_simp; done) | (go_simp; with_reducible rfl))
            (try simp only [Act.put, List.setIfInBounds_toArray, List.set_cons_zero, List.set_cons_succ, List.getElem_toArray, List.getElem_cons_succ, List.getElem_cons_zero])
            refine wpAnyH_take (i := 12) (oi := _) (v := ?_) rfl (by kernel_rfl) (by kernel_rfl) (by kernel_rfl) (fun _ _ _ h => h) (Or.inl ⟨by rfl, ?_⟩) (by assumption) ?_
            rotate_left 1
            · (intro w hSw; (try dsimp only at hSw); (try simp only [List.getElem_toArray, List.getElem_cons_succ, List.getElem_cons_zero]); first | (go_simp; done) | (go_simp; with_reducible rfl))
            (try simp only [Act.put, List.setIfInBounds_toArray, List.set_cons_zero, List.set_cons_succ, List.getElem_toArray, List.getElem_cons_succ, List.getElem_cons_zero])
            refine wpAnyH_take (i := 13) (oi := _) (v := ?_) rfl (by kernel_rfl) (by kernel_rfl) (by kernel_rfl) (fun _ _ _ h => h) (Or.inl ⟨by rfl, ?_⟩) (by assumption) ?_
            rotate_left 1
            · (intro w hSw; (try dsimp only at hSw); (try simp only [List.getElem_toArray, List.getElem_cons_succ, List.getElem_cons_zero]); first | (go_simp; done) | (go_simp; with_reducible rfl))
            (try simp only [Act.put, List.setIfInBounds_toArray, List.set_cons_zero, List.set_cons_succ, List.getElem_toArray, List.getElem_cons_succ, List.getElem_cons_zero])
            refine wpAnyH_take (i := 14) (oi := _) (v := undef) rfl (by kernel_rfl) (by kernel_rfl) (by kernel_rfl) (fun _ _ _ h => h) (Or.inr ⟨by rfl, rfl⟩) (by assumption) ?_
            (try simp only [Act.put, List.setIfInBounds_toArray, List.set_cons_zero, List.set_cons_succ, List.getElem_toArray, List.getElem_cons_succ, List.getElem_cons_zero])
            refine wpAnyH_take (i := 16) (oi := _) (v := undef) rfl (by kernel_rfl) (by kernel_rfl) (by kernel_rfl) (fun _ _ _ h => h) (Or.inr ⟨by rfl, rfl⟩) (by assumption) ?_
            (try simp only [Act.put, List.setIfInBounds_toArray, List.set_cons_zero, List.set_cons_succ, List.getElem_toArray, List.getElem_cons_succ, List.getElem_cons_zero])
            refine wpAnyH_ready (rs := [15]) (by kernel_rfl) (by simp) (AllReadyH.cons rfl (fun K hK => ?_) AllReadyH.nil)
            go_simp
            refine hK.out _ _ ?_ (fun hHeld2 => ?_)
            · ((try dsimp only); (refine ⟨?_, ?_, ?_, ?_, ?_⟩ <;> go_simp))
            clear hK K hHeld1
            (try simp only [Act.put, List.setIfInBounds_toArray, List.set_cons_zero, List.set_cons_succ, List.getElem_toArray, List.getElem_cons_succ, List.getElem_cons_zero])
            refine wpAnyH_take (i := 17) (oi := _) (v := undef) rfl (by kernel_rfl) (by kernel_rfl) (by kernel_rfl) (fun _ _ _ h => h) (Or.inr ⟨by rfl, rfl⟩) (by assumption) ?_
            (try simp only [Act.put, List.setIfInBounds_toArray, List.set_cons_zero, List.set_cons_succ, List.getElem_toArray, List.getElem_cons_succ, List.getElem_cons_zero])
            refine wpAnyH_take (i := 18) (oi := _) (v := ?_) rfl (by kernel_rfl) (by kernel_rfl) (by kernel_rfl) (fun _ _ _ h => h) (Or.inl ⟨by rfl, ?_⟩) (by assumption) ?_
            rotate_left 1
            · (intro w hSw; (try dsimp only at hSw); (try simp only [List.getElem_toArray, List.getElem_cons_succ, List.getElem_cons_zero]); first | (go_simp; done) | (go_simp; with_reducible rfl))
            (try simp only [Act.put, List.setIfInBounds_toArray, List.set_cons_zero, List.set_cons_succ, List.getElem_toArray, List.getElem_cons_succ, List.getElem_cons_zero])
            refine wpAnyH_take (i := 19) (oi := _) (v := ?_) rfl (by kernel_rfl) (by kernel_rfl) (by kernel_rfl) (fun _ _ _ h => h) (Or.inl ⟨by rfl, ?_⟩) (by assumption) ?_
            rotate_left 1
            · (intro w hSw; (try dsimp only at hSw); (try simp only [List.getElem_toArray, List.getElem_cons_succ, List.getElem_cons_zero]); first | (go_simp; done) | (go_simp; with_reducible rfl))
            (try simp only [Act.put, List.setIfInBounds_toArray, List.set_cons_zero, List.set_cons_succ, List.getElem_toArray, List.getElem_cons_succ, List.getElem_cons_zero])
            refine wpAnyH_take (i := 20) (oi := _) (v := ?_) rfl (by kernel_rfl) (by kernel_rfl) (by kernel_rfl) (fun _ _ _ h => h) (Or.inl ⟨by rfl, ?_⟩) (by assumption) ?_
            rotate_left 1
            · (intro w hSw; (try dsimp only at hSw); (try simp only [List.getElem_toArray, List.getElem_cons_succ, List.getElem_cons_zero]); first | (go_simp; done) | (go_simp; with_reducible rfl))
            (try simp only [Act.put, List.setIfInBounds_toArray, List.set_cons_zero, List.set_cons_succ, List.getElem_toArray, List.getElem_cons_succ, List.getElem_cons_zero])
            refine wpAnyH_done (by kernel_rfl) ?_ _
            all_goals (go_wp2; go_ret; exact ⟨rfl, (by repeat' (first | (with_reducible exact Below.refl _ _) | (with_reducible assumption) | (with_reducible refine Below.alloc ?_ ?_ _) | (with_reducible refine Below.drew ?_) | (with_reducible refine below_drewN ?_ _) | (with_reducible refine Below.setCell ?_ ?_ _) | (with_reducible refine below_setRow' ?_ ?_ _) | go_size))⟩)
set_option maxHeartbeats 4000000 in
set_option maxRecDepth 100000 in
theorem law12_4C (b cn cp : Nat → Int) (z : ByteArray) (hcn : Bt cn) (hcp : Bt cp) {b4 o4 b6 o6 : Nat} (w : World) (hg : Gl b4 o4 b6 o6 w) (hN : ∀ w, Gl b4 o4 b6 o6 w → Calls Tryd.prog 41 #[.agg (adr 4 (pre 4 b) ⟨#[]⟩)] w fun e w' => e = .returned (.agg (adr 4 cn ⟨#[]⟩)) ∧ Below w.heap.size w w') (hP : ∀ w, Gl b4 o4 b6 o6 w → Calls Tryd.prog 39 #[.agg (adr 4 (pre 4 b) ⟨#[]⟩)] w fun e w' => e = .returned (.agg (adr 4 cp ⟨#[]⟩)) ∧ Below w.heap.size w w') (hNP : ∀ w, Gl b4 o4 b6 o6 w → Calls Tryd.prog 39 #[.agg (adr 4 cn ⟨#[]⟩)] w fun e w' => e = .returned (.agg (adr 4 (pre 4 b) ⟨#[]⟩)) ∧ Below w.heap.size w w') (hPN : ∀ w, Gl b4 o4 b6 o6 w → Calls Tryd.prog 41 #[.agg (adr 4 cp ⟨#[]⟩)] w fun e w' => e = .returned (.agg (adr 4 (pre 4 b) ⟨#[]⟩)) ∧ Below w.heap.size w w')
    (hL : adrEq 4 (pre 4 b) ⟨#[]⟩ 4 (lst 4 (pre 4 b)) ⟨#[]⟩ = false) (hF : adrEq 4 (pre 4 b) ⟨#[]⟩ 4 zb ⟨#[]⟩ = false) :
    Calls Tryd.prog 12 #[.agg (adr 4 b z)] w fun e w' => e = .returned (.bool true) ∧ Below w.heap.size w w' := by
  have HG := Lib.hid hg
  have HCN := Lib.hid hcn
  have HCP := Lib.hid hcp
  have HN := Lib.hid hN
  have HP := Lib.hid hP
  have HNP := Lib.hid hNP
  have HPN := Lib.hid hPN
  have hEC : adrEq 4 (pre 4 b) ⟨#[]⟩ 4 (pre 4 b) ⟨#[]⟩ = true := (adrEq_iff _ _ _ _ _ _).2 ⟨rfl, fun _ _ => rfl, rfl⟩
  clear hg hcn hcp hN hP hNP hPN
  go_enter Tryd.func12, Tryd.ntmps12
  go_upto_region 4 with (first
    | (go_at_call 52; (with_reducible refine (bare_4 _ _ _).mono ?_); rintro e w1 ⟨rfl, hb1⟩; have hk1 := blk?_below hb1; (try simp only [size_drew', size_drewN'] at hk1); have hB1 := below_via (w := w) (by repeat' (first | (with_reducible exact Below.refl _ _) | (with_reducible assumption) | (with_reducible refine Below.alloc ?_ ?_ _) | (with_reducible refine Below.drew ?_) | (with_reducible refine below_drewN ?_ _) | (with_reducible refine Below.setCell ?_ ?_ _) | (with_reducible refine below_setRow' ?_ ?_ _) | go_size)) hb1; have hL0 : w.heap.size < w1.heap.size := (by have hS0 := hb1.size; (try simp at hS0); omega); have hLe : w.heap.size ≤ w1.heap.size := hB1.size; clear hb1)
    | (go_at_call 36; (with_reducible refine (valid_4 _ _ _).mono ?_); rintro e w1 ⟨rfl, hb1⟩; have hk1 := blk?_below hb1; (try simp only [size_drew', size_drewN'] at hk1); have hB1 := below_via (w := w) (by repeat' (first | (with_reducible exact Below.refl _ _) | (with_reducible assumption) | (with_reducible refine Below.alloc ?_ ?_ _) | (with_reducible refine Below.drew ?_) | (with_reducible refine below_drewN ?_ _) | (with_reducible refine Below.setCell ?_ ?_ _) | (with_reducible refine below_setRow' ?_ ?_ _) | go_size)) hb1; have hL0 : w.heap.size < w1.heap.size := (by have hS0 := hb1.size; (try simp at hS0); omega); have hLe : w.heap.size ≤ w1.heap.size := hB1.size; clear hb1))
  go_cut [3, 4] (fun s3 s4 wx => ∃ g3 g4 : Nat, s3 = .pointer (some ⟨g3, 0, none⟩) ∧ s4 = .pointer (some ⟨g4, 0, none⟩) ∧ w.heap.size < g3 ∧ w.heap.size < g4 ∧ g3 ≠ g4 ∧ blk? wx w.heap.size = some (adr 4 (pre 4 b) ⟨#[]⟩) ∧ blk? wx g3 = some (adr 4 (pre 4 b) ⟨#[]⟩) ∧ blk? wx g4 = some (adr 4 zb ⟨#[]⟩) ∧ Below w.heap.size w wx)
  case first =>
    have k0 : blk? w1 w.heap.size = some (adr 4 (pre 4 b) ⟨#[]⟩) := by go_simp
    have hc0 : w1.cell? ⟨w.heap.size, 0, none⟩ = some (.int .i64 4) := by rw [blk?_cell k0]; rfl
    clear hk1
    have hQ0a : w.heap.size < w1.heap.size + 1 := by omega
    have hQ0b : w.heap.size < w1.heap.size + 1 + 1 := by omega
    go_region_held3 (fun w' => blk? w' (w.heap.size) = some (adr 4 (pre 4 b) ⟨#[]⟩) ∧ w'.cell? ⟨w.heap.size, 0, none⟩ = some (.int .i64 4)) (first | (refine ⟨?_, ?_⟩ <;> (first | go_simp | go_simp))) (first
    | (go_at_call 47; (with_reducible refine (lsame_pre _ _).mono ?_); rintro e wS ⟨rfl, hb1⟩; have hk1 := blk?_below hb1; (try simp only [size_drew', size_drewN'] at hk1); have hB1 := below_via (w := w) (by repeat' (first | (with_reducible exact Below.refl _ _) | (with_reducible assumption) | (with_reducible refine Below.alloc ?_ ?_ _) | (with_reducible refine Below.drew ?_) | (with_reducible refine below_drewN ?_ _) | (with_reducible refine Below.setCell ?_ ?_ _) | (with_reducible refine below_setRow' ?_ ?_ _) | go_size)) hb1; have hL0 : w.heap.size < wS.heap.size := (by have hS0 := hb1.size; (try simp at hS0); omega); have hLe : w.heap.size ≤ wS.heap.size := hB1.size; obtain ⟨hc1, hf1⟩ := bcell hb1; (try simp only [size_drew', size_drewN'] at hc1); (try simp only [size_drew', size_drewN'] at hf1); have hS9 := hb1.size; (try simp [Nat.add_one_le_iff] at hS9); (try (have hS8 := Nat.lt_of_succ_lt hS9)); have hQ0a : w.heap.size < wS.heap.size + 1 := (by omega); have hQ0b : w.heap.size < wS.heap.size + 1 + 1 := (by omega); clear hb1)
    | fail)
    all_goals (go_wp2_with fail; go_meet; refine ⟨_, _, rfl, rfl, ?_, ?_, ?_, ?_, ?_, ?_, (by repeat' (first | (with_reducible exact Below.refl _ _) | (with_reducible assumption) | (with_reducible refine Below.alloc ?_ ?_ _) | (with_reducible refine Below.drew ?_) | (with_reducible refine below_drewN ?_ _) | (with_reducible refine Below.setCell ?_ ?_ _) | (with_reducible refine below_setRow' ?_ ?_ _) | go_size))⟩)
    all_goals (first | omega | go_simp)
  case rest =>
    obtain ⟨g3, g4, rfl, rfl, hg3, hg4, hne, k0, k3, k4, hB⟩ := hcut
    have hc0 : wc.cell? ⟨w.heap.size, 0, none⟩ = some (.int .i64 4) := by rw [blk?_cell k0]; rfl
    go_wp2
    go_loopw [20, 5] (fun i v5 wr => ∃ k : Nat, k ≤ 4 ∧ i = .int .i64 k ∧ blk? wr w.heap.size = some (adr 4 (pre 4 b) ⟨#[]⟩) ∧ blk? wr g3 = some (adr 4 (lst k (pre 4 b)) ⟨#[]⟩) ∧ blk? wr g4 = some (adr 4 zb ⟨#[]⟩) ∧ Below w.heap.size w wr) (fun i _ _ => 4 - (intOf i).toNat)
    case atStart => exact ⟨0, by omega, rfl, k0, by rw [lst_zero]; exact k3, k4, hB⟩
    case round =>
      obtain ⟨k, hk, rfl, k0, k3, k4, hB⟩ := hrel
      have hl0 := blk?_lt k0
      have hl3 := blk?_lt k3
      have hl4 := blk?_lt k4
      by_cases hlt : k < 4
      · have h16 : k < 16 := by omega
        have hi0 : (0 : Int) ≤ (k : Int) := by omega
        have hi1 : (k : Int) < 4 := by omega
        have hi2 : (k : Int) < 16 := by omega
        have hld : wr.cell? ⟨g3, 1 + k, none⟩ = some (.int .u8 (lst k (pre 4 b) k)) := by rw [blk?_cell k3, adr_byte' _ _ _ _ h16]
        have hfz : wr.frozen? ⟨g3, 1 + k, none⟩ = false := blk?_frozen k3 _
        go_wp2
        go_roundw
        case rel => exact ⟨k + 1, by omega, by go_num, by rw [blk?_setOther _ _ _ _ (by show _ ≠ g3; omega)]; exact k0, by rw [blk?_setSame, k3, Option.map_some, adr_set' _ _ _ _ _ h16, lst_succ], by rw [blk?_setOther _ _ _ _ (by show _ ≠ g3; omega)]; exact k4, (by repeat' (first | (with_reducible exact Below.refl _ _) | (with_reducible assumption) | (with_reducible refine Below.alloc ?_ ?_ _) | (with_reducible refine Below.drew ?_) | (with_reducible refine below_drewN ?_ _) | (with_reducible refine Below.setCell ?_ ?_ _) | (with_reducible refine below_setRow' ?_ ?_ _) | go_size))⟩
        case measure => simp [intOf]; omega
      · obtain rfl : k = 4 := by omega
        have hQ0a : w.heap.size < wr.heap.size + 1 := by omega
        have hQ0b : w.heap.size < wr.heap.size + 1 + 1 := by omega
        have hQ3a : g3 < wr.heap.size + 1 := by omega
        have hQ3b : g3 < wr.heap.size + 1 + 1 := by omega
        have hQ4a : g4 < wr.heap.size + 1 := by omega
        have hQ4b : g4 < wr.heap.size + 1 + 1 := by omega
        go_upto_region 10 with fail
        go_cut [6, 7] (fun s6 s7 wx => ∃ g6 g7 : Nat, s6 = .pointer (some ⟨g6, 0, none⟩) ∧ s7 = .pointer (some ⟨g7, 0, none⟩) ∧ blk? wx w.heap.size = some (adr 4 (pre 4 b) ⟨#[]⟩) ∧ blk? wx g3 = some (adr 4 (lst 4 (pre 4 b)) ⟨#[]⟩) ∧ blk? wx g4 = some (adr 4 zb ⟨#[]⟩) ∧ blk? wx g6 = some (adr 4 cn ⟨#[]⟩) ∧ blk? wx g7 = some (adr 4 cp ⟨#[]⟩) ∧ Below w.heap.size w wx)
        case first =>
          go_region_held3 (fun w' => blk? w' (w.heap.size) = some (adr 4 (pre 4 b) ⟨#[]⟩) ∧ blk? w' (g3) = some (adr 4 (lst 4 (pre 4 b)) ⟨#[]⟩) ∧ blk? w' (g4) = some (adr 4 zb ⟨#[]⟩)) (first | (refine ⟨?_, ?_, ?_⟩ <;> go_simp)) (first
    | (go_at_call 41; (with_reducible refine (HN.out _ ?_).mono ?_); (exact HG.out.below (by repeat' (first | (with_reducible exact Below.refl _ _) | (with_reducible assumption) | (with_reducible refine Below.alloc ?_ ?_ _) | (with_reducible refine Below.drew ?_) | (with_reducible refine below_drewN ?_ _) | (with_reducible refine Below.setCell ?_ ?_ _) | (with_reducible refine below_setRow' ?_ ?_ _) | go_size)) (Nat.le_refl _)); rintro e wN ⟨rfl, hb1⟩; have hk1 := blk?_below hb1; (try simp only [size_drew', size_drewN'] at hk1); have hB1 := below_via (w := w) (by repeat' (first | (with_reducible exact Below.refl _ _) | (with_reducible assumption) | (with_reducible refine Below.alloc ?_ ?_ _) | (with_reducible refine Below.drew ?_) | (with_reducible refine below_drewN ?_ _) | (with_reducible refine Below.setCell ?_ ?_ _) | (with_reducible refine below_setRow' ?_ ?_ _) | go_size)) hb1; have hL0 : w.heap.size < wN.heap.size := (by have hS0 := hb1.size; (try simp at hS0); omega); have hL1 : g3 < wN.heap.size := (by have hS0 := hb1.size; (try simp at hS0); omega); have hL2 : g4 < wN.heap.size := (by have hS0 := hb1.size; (try simp at hS0); omega); have hLe : w.heap.size ≤ wN.heap.size := hB1.size; (try (have hT0 : wr.heap.size < wN.heap.size := (by have hS0 := hb1.size; (try simp at hS0); omega))); (try (have hT1 : wr.heap.size + 1 < wN.heap.size := (by have hS0 := hb1.size; (try simp at hS0); omega))); have hQ0a : w.heap.size < wN.heap.size + 1 := (by omega); have hQ0b : w.heap.size < wN.heap.size + 1 + 1 := (by omega); have hQ1a : g3 < wN.heap.size + 1 := (by omega); have hQ1b : g3 < wN.heap.size + 1 + 1 := (by omega); have hQ2a : g4 < wN.heap.size + 1 := (by omega); have hQ2b : g4 < wN.heap.size + 1 + 1 := (by omega); clear hb1)
    | (go_at_call 39; (with_reducible refine (HP.out _ ?_).mono ?_); (exact HG.out.below (by repeat' (first | (with_reducible exact Below.refl _ _) | (with_reducible assumption) | (with_reducible refine Below.alloc ?_ ?_ _) | (with_reducible refine Below.drew ?_) | (with_reducible refine below_drewN ?_ _) | (with_reducible refine Below.setCell ?_ ?_ _) | (with_reducible refine below_setRow' ?_ ?_ _) | go_size)) (Nat.le_refl _)); rintro e wP ⟨rfl, hb1⟩; have hk1 := blk?_below hb1; (try simp only [size_drew', size_drewN'] at hk1); have hB1 := below_via (w := w) (by repeat' (first | (with_reducible exact Below.refl _ _) | (with_reducible assumption) | (with_reducible refine Below.alloc ?_ ?_ _) | (with_reducible refine Below.drew ?_) | (with_reducible refine below_drewN ?_ _) | (with_reducible refine Below.setCell ?_ ?_ _) | (with_reducible refine below_setRow' ?_ ?_ _) | go_size)) hb1; have hL0 : w.heap.size < wP.heap.size := (by have hS0 := hb1.size; (try simp at hS0); omega); have hL1 : g3 < wP.heap.size := (by have hS0 := hb1.size; (try simp at hS0); omega); have hL2 : g4 < wP.heap.size := (by have hS0 := hb1.size; (try simp at hS0); omega); have hLe : w.heap.size ≤ wP.heap.size := hB1.size; (try (have hT0 : wr.heap.size < wP.heap.size := (by have hS0 := hb1.size; (try simp at hS0); omega))); (try (have hT1 : wr.heap.size + 1 < wP.heap.size := (by have hS0 := hb1.size; (try simp at hS0); omega))); (try (have hT2 : wN.heap.size < wP.heap.size := (by have hS0 := hb1.size; (try simp at hS0); omega))); (try (have hT3 : wN.heap.size + 1 < wP.heap.size := (by have hS0 := hb1.size; (try simp at hS0); omega))); have hQ0a : w.heap.size < wP.heap.size + 1 := (by omega); have hQ0b : w.heap.size < wP.heap.size + 1 + 1 := (by omega); have hQ1a : g3 < wP.heap.size + 1 := (by omega); have hQ1b : g3 < wP.heap.size + 1 + 1 := (by omega); have hQ2a : g4 < wP.heap.size + 1 := (by omega); have hQ2b : g4 < wP.heap.size + 1 + 1 := (by omega); clear hb1))
          all_goals (go_wp2_with fail; go_meet; refine ⟨_, _, rfl, rfl, ?_, ?_, ?_, ?_, ?_, (by repeat' (first | (with_reducible exact Below.refl _ _) | (with_reducible assumption) | (with_reducible refine Below.alloc ?_ ?_ _) | (with_reducible refine Below.drew ?_) | (with_reducible refine below_drewN ?_ _) | (with_reducible refine Below.setCell ?_ ?_ _) | (with_reducible refine below_setRow' ?_ ?_ _) | go_size))⟩)
          all_goals go_simp
        case rest =>
          obtain ⟨g6, g7, rfl, rfl, k0, k3, k4, k6, k7, hB⟩ := hcut
          have hl0 := blk?_lt k0
          have hl3 := blk?_lt k3
          have hl4 := blk?_lt k4
          have hl6 := blk?_lt k6
          have hl7 := blk?_lt k7
          go_upto_region 11 with fail
          go_cut [44] (fun s44 wx => s44 = .bool false ∧ blk? wx w.heap.size = some (adr 4 (pre 4 b) ⟨#[]⟩) ∧ blk? wx g3 = some (adr 4 (lst 4 (pre 4 b)) ⟨#[]⟩) ∧ blk? wx g4 = some (adr 4 zb ⟨#[]⟩) ∧ blk? wx g6 = some (adr 4 cn ⟨#[]⟩) ∧ blk? wx g7 = some (adr 4 cp ⟨#[]⟩) ∧ Below w.heap.size w wx)
          case first =>
            go_region_held3 (fun w' => blk? w' (w.heap.size) = some (adr 4 (pre 4 b) ⟨#[]⟩) ∧ blk? w' (g3) = some (adr 4 (lst 4 (pre 4 b)) ⟨#[]⟩) ∧ blk? w' (g4) = some (adr 4 zb ⟨#[]⟩) ∧ blk? w' (g6) = some (adr 4 cn ⟨#[]⟩) ∧ blk? w' (g7) = some (adr 4 cp ⟨#[]⟩)) (first | (refine ⟨?_, ?_, ?_, ?_, ?_⟩ <;> go_simp)) (first
    | (go_at_call 53; (with_reducible refine (iIsValid_4 (b4 := b4) (o4 := o4) cn HCN.out _ _ ?_).mono ?_); (exact HG.out.g4.below (by repeat' (first | (with_reducible exact Below.refl _ _) | (with_reducible assumption) | (with_reducible refine Below.alloc ?_ ?_ _) | (with_reducible refine Below.drew ?_) | (with_reducible refine below_drewN ?_ _) | (with_reducible refine Below.setCell ?_ ?_ _) | (with_reducible refine below_setRow' ?_ ?_ _) | go_size)) (Nat.le_refl _)); rintro e w1 ⟨rfl, hb1⟩; have hk1 := blk?_below hb1; (try simp only [size_drew', size_drewN'] at hk1); have hB1 := below_via (w := w) (by repeat' (first | (with_reducible exact Below.refl _ _) | (with_reducible assumption) | (with_reducible refine Below.alloc ?_ ?_ _) | (with_reducible refine Below.drew ?_) | (with_reducible refine below_drewN ?_ _) | (with_reducible refine Below.setCell ?_ ?_ _) | (with_reducible refine below_setRow' ?_ ?_ _) | go_size)) hb1; have hL0 : w.heap.size < w1.heap.size := (by have hS0 := hb1.size; (try simp at hS0); omega); have hL1 : g3 < w1.heap.size := (by have hS0 := hb1.size; (try simp at hS0); omega); have hL2 : g4 < w1.heap.size := (by have hS0 := hb1.size; (try simp at hS0); omega); have hL3 : g6 < w1.heap.size := (by have hS0 := hb1.size; (try simp at hS0); omega); have hL4 : g7 < w1.heap.size := (by have hS0 := hb1.size; (try simp at hS0); omega); have hLe : w.heap.size ≤ w1.heap.size := hB1.size; clear hb1)
    | (go_at_call 53; (with_reducible refine (iIsValid_4 (b4 := b4) (o4 := o4) cp HCP.out _ _ ?_).mono ?_); (exact HG.out.g4.below (by repeat' (first | (with_reducible exact Below.refl _ _) | (with_reducible assumption) | (with_reducible refine Below.alloc ?_ ?_ _) | (with_reducible refine Below.drew ?_) | (with_reducible refine below_drewN ?_ _) | (with_reducible refine Below.setCell ?_ ?_ _) | (with_reducible refine below_setRow' ?_ ?_ _) | go_size)) (Nat.le_refl _)); rintro e w1 ⟨rfl, hb1⟩; have hk1 := blk?_below hb1; (try simp only [size_drew', size_drewN'] at hk1); have hB1 := below_via (w := w) (by repeat' (first | (with_reducible exact Below.refl _ _) | (with_reducible assumption) | (with_reducible refine Below.alloc ?_ ?_ _) | (with_reducible refine Below.drew ?_) | (with_reducible refine below_drewN ?_ _) | (with_reducible refine Below.setCell ?_ ?_ _) | (with_reducible refine below_setRow' ?_ ?_ _) | go_size)) hb1; have hL0 : w.heap.size < w1.heap.size := (by have hS0 := hb1.size; (try simp at hS0); omega); have hL1 : g3 < w1.heap.size := (by have hS0 := hb1.size; (try simp at hS0); omega); have hL2 : g4 < w1.heap.size := (by have hS0 := hb1.size; (try simp at hS0); omega); have hL3 : g6 < w1.heap.size := (by have hS0 := hb1.size; (try simp at hS0); omega); have hL4 : g7 < w1.heap.size := (by have hS0 := hb1.size; (try simp at hS0); omega); have hLe : w.heap.size ≤ w1.heap.size := hB1.size; clear hb1))
            all_goals (go_wp2_with fail; go_meet; refine ⟨rfl, ?_, ?_, ?_, ?_, ?_, (by repeat' (first | (with_reducible exact Below.refl _ _) | (with_reducible assumption) | (with_reducible refine Below.alloc ?_ ?_ _) | (with_reducible refine Below.drew ?_) | (with_reducible refine below_drewN ?_ _) | (with_reducible refine Below.setCell ?_ ?_ _) | (with_reducible refine below_setRow' ?_ ?_ _) | go_size))⟩)
            all_goals go_simp
          case rest =>
            obtain ⟨rfl, k0, k3, k4, k6, k7, hB⟩ := hcut
            have hl0 := blk?_lt k0
            have hl3 := blk?_lt k3
            have hl4 := blk?_lt k4
            have hl6 := blk?_lt k6
            have hl7 := blk?_lt k7
            go_wp2_with fail
            go_region_held3 (fun w' => blk? w' (w.heap.size) = some (adr 4 (pre 4 b) ⟨#[]⟩) ∧ blk? w' (g3) = some (adr 4 (lst 4 (pre 4 b)) ⟨#[]⟩) ∧ blk? w' (g4) = some (adr 4 zb ⟨#[]⟩) ∧ blk? w' (g6) = some (adr 4 cn ⟨#[]⟩) ∧ blk? w' (g7) = some (adr 4 cp ⟨#[]⟩)) (first | (refine ⟨?_, ?_, ?_, ?_, ?_⟩ <;> go_simp)) (first
    | (go_at_call 39; (with_reducible refine (HNP.out _ ?_).mono ?_); (exact HG.out.below (by repeat' (first | (with_reducible exact Below.refl _ _) | (with_reducible assumption) | (with_reducible refine Below.alloc ?_ ?_ _) | (with_reducible refine Below.drew ?_) | (with_reducible refine below_drewN ?_ _) | (with_reducible refine Below.setCell ?_ ?_ _) | (with_reducible refine below_setRow' ?_ ?_ _) | go_size)) (Nat.le_refl _)); rintro e w1 ⟨rfl, hb1⟩; have hk1 := blk?_below hb1; (try simp only [size_drew', size_drewN'] at hk1); have hB1 := below_via (w := w) (by repeat' (first | (with_reducible exact Below.refl _ _) | (with_reducible assumption) | (with_reducible refine Below.alloc ?_ ?_ _) | (with_reducible refine Below.drew ?_) | (with_reducible refine below_drewN ?_ _) | (with_reducible refine Below.setCell ?_ ?_ _) | (with_reducible refine below_setRow' ?_ ?_ _) | go_size)) hb1; have hL0 : w.heap.size < w1.heap.size := (by have hS0 := hb1.size; (try simp at hS0); omega); have hL1 : g3 < w1.heap.size := (by have hS0 := hb1.size; (try simp at hS0); omega); have hL2 : g4 < w1.heap.size := (by have hS0 := hb1.size; (try simp at hS0); omega); have hL3 : g6 < w1.heap.size := (by have hS0 := hb1.size; (try simp at hS0); omega); have hL4 : g7 < w1.heap.size := (by have hS0 := hb1.size; (try simp at hS0); omega); have hLe : w.heap.size ≤ w1.heap.size := hB1.size; clear hb1)
    | (go_at_call 41; (with_reducible refine (HPN.out _ ?_).mono ?_); (exact HG.out.below (by repeat' (first | (with_reducible exact Below.refl _ _) | (with_reducible assumption) | (with_reducible refine Below.alloc ?_ ?_ _) | (with_reducible refine Below.drew ?_) | (with_reducible refine below_drewN ?_ _) | (with_reducible refine Below.setCell ?_ ?_ _) | (with_reducible refine below_setRow' ?_ ?_ _) | go_size)) (Nat.le_refl _)); rintro e w1 ⟨rfl, hb1⟩; have hk1 := blk?_below hb1; (try simp only [size_drew', size_drewN'] at hk1); have hB1 := below_via (w := w) (by repeat' (first | (with_reducible exact Below.refl _ _) | (with_reducible assumption) | (with_reducible refine Below.alloc ?_ ?_ _) | (with_reducible refine Below.drew ?_) | (with_reducible refine below_drewN ?_ _) | (with_reducible refine Below.setCell ?_ ?_ _) | (with_reducible refine below_setRow' ?_ ?_ _) | go_size)) hb1; have hL0 : w.heap.size < w1.heap.size := (by have hS0 := hb1.size; (try simp at hS0); omega); have hL1 : g3 < w1.heap.size := (by have hS0 := hb1.size; (try simp at hS0); omega); have hL2 : g4 < w1.heap.size := (by have hS0 := hb1.size; (try simp at hS0); omega); have hL3 : g6 < w1.heap.size := (by have hS0 := hb1.size; (try simp at hS0); omega); have hL4 : g7 < w1.heap.size := (by have hS0 := hb1.size; (try simp at hS0); omega); have hLe : w.heap.size ≤ w1.heap.size := hB1.size; clear hb1))
            all_goals (go_wp2; go_ret; exact ⟨rfl, (by repeat' (first | (with_reducible exact Below.refl _ _) | (with_reducible assumption) | (with_reducible refine Below.alloc ?_ ?_ _) | (with_reducible refine Below.drew ?_) | (with_reducible refine below_drewN ?_ _) | (with_reducible refine Below.setCell ?_ ?_ _) | (with_reducible refine below_setRow' ?_ ?_ _) | go_size))⟩)
set_option maxHeartbeats 4000000 in
set_option maxRecDepth 100000 in
theorem law12_16A (b cn cp : Nat → Int) (z : ByteArray) (hcn : Bt cn) (hcp : Bt cp) {b4 o4 b6 o6 : Nat} (w : World) (hg : Gl b4 o4 b6 o6 w) (hN : ∀ w, Gl b4 o4 b6 o6 w → Calls Tryd.prog 41 #[.agg (adr 16 (b) ⟨#[]⟩)] w fun e w' => e = .returned (.agg (adr 0 zb ⟨#[]⟩)) ∧ Below w.heap.size w w') (hP : ∀ w, Gl b4 o4 b6 o6 w → Calls Tryd.prog 39 #[.agg (adr 16 (b) ⟨#[]⟩)] w fun e w' => e = .returned (.agg (adr 16 cp ⟨#[]⟩)) ∧ Below w.heap.size w w') (hPN : ∀ w, Gl b4 o4 b6 o6 w → Calls Tryd.prog 41 #[.agg (adr 16 cp ⟨#[]⟩)] w fun e w' => e = .returned (.agg (adr 16 (b) ⟨#[]⟩)) ∧ Below w.heap.size w w')
    (hL : adrEq 16 (b) ⟨#[]⟩ 16 (lst 16 (b)) ⟨#[]⟩ = true) (hF : adrEq 16 (b) ⟨#[]⟩ 16 zb ⟨#[]⟩ = false) :
    Calls Tryd.prog 12 #[.agg (adr 16 b z)] w fun e w' => e = .returned (.bool true) ∧ Below w.heap.size w w' := by
  have HG := Lib.hid hg
  have HCN := Lib.hid hcn
  have HCP := Lib.hid hcp
  have HN := Lib.hid hN
  have HP := Lib.hid hP
  have HPN := Lib.hid hPN
  have hEC : adrEq 16 (b) ⟨#[]⟩ 16 (b) ⟨#[]⟩ = true := (adrEq_iff _ _ _ _ _ _).2 ⟨rfl, fun _ _ => rfl, rfl⟩
  clear hg hcn hcp hN hP hPN
  go_enter Tryd.func12, Tryd.ntmps12
  go_upto_region 4 with (first
    | (go_at_call 52; (with_reducible refine (bare_16 _ _ _).mono ?_); rintro e w1 ⟨rfl, hb1⟩; have hk1 := blk?_below hb1; (try simp only [size_drew', size_drewN'] at hk1); have hB1 := below_via (w := w) (by repeat' (first | (with_reducible exact Below.refl _ _) | (with_reducible assumption) | (with_reducible refine Below.alloc ?_ ?_ _) | (with_reducible refine Below.drew ?_) | (with_reducible refine below_drewN ?_ _) | (with_reducible refine Below.setCell ?_ ?_ _) | (with_reducible refine below_setRow' ?_ ?_ _) | go_size)) hb1; have hL0 : w.heap.size < w1.heap.size := (by have hS0 := hb1.size; (try simp at hS0); omega); have hLe : w.heap.size ≤ w1.heap.size := hB1.size; clear hb1)
    | (go_at_call 36; (with_reducible refine (valid_16 _ _ _).mono ?_); rintro e w1 ⟨rfl, hb1⟩; have hk1 := blk?_below hb1; (try simp only [size_drew', size_drewN'] at hk1); have hB1 := below_via (w := w) (by repeat' (first | (with_reducible exact Below.refl _ _) | (with_reducible assumption) | (with_reducible refine Below.alloc ?_ ?_ _) | (with_reducible refine Below.drew ?_) | (with_reducible refine below_drewN ?_ _) | (with_reducible refine Below.setCell ?_ ?_ _) | (with_reducible refine below_setRow' ?_ ?_ _) | go_size)) hb1; have hL0 : w.heap.size < w1.heap.size := (by have hS0 := hb1.size; (try simp at hS0); omega); have hLe : w.heap.size ≤ w1.heap.size := hB1.size; clear hb1))
  go_cut [3, 4] (fun s3 s4 wx => ∃ g3 g4 : Nat, s3 = .pointer (some ⟨g3, 0, none⟩) ∧ s4 = .pointer (some ⟨g4, 0, none⟩) ∧ w.heap.size < g3 ∧ w.heap.size < g4 ∧ g3 ≠ g4 ∧ blk? wx w.heap.size = some (adr 16 (b) ⟨#[]⟩) ∧ blk? wx g3 = some (adr 16 (b) ⟨#[]⟩) ∧ blk? wx g4 = some (adr 16 zb ⟨#[]⟩) ∧ Below w.heap.size w wx)
  case first =>
    have k0 : blk? w1 w.heap.size = some (adr 16 (b) ⟨#[]⟩) := by go_simp
    have hc0 : w1.cell? ⟨w.heap.size, 0, none⟩ = some (.int .i64 16) := by rw [blk?_cell k0]; rfl
    clear hk1
    have hQ0a : w.heap.size < w1.heap.size + 1 := by omega
    have hQ0b : w.heap.size < w1.heap.size + 1 + 1 := by omega
    go_region_held3 (fun w' => blk? w' (w.heap.size) = some (adr 16 (b) ⟨#[]⟩) ∧ w'.cell? ⟨w.heap.size, 0, none⟩ = some (.int .i64 16)) (first | (refine ⟨?_, ?_⟩ <;> (first | go_simp | go_simp))) (first
    | (go_at_call 47; (with_reducible refine (lsame_16 _ _ _).mono ?_); rintro e wS ⟨rfl, hb1⟩; have hk1 := blk?_below hb1; (try simp only [size_drew', size_drewN'] at hk1); have hB1 := below_via (w := w) (by repeat' (first | (with_reducible exact Below.refl _ _) | (with_reducible assumption) | (with_reducible refine Below.alloc ?_ ?_ _) | (with_reducible refine Below.drew ?_) | (with_reducible refine below_drewN ?_ _) | (with_reducible refine Below.setCell ?_ ?_ _) | (with_reducible refine below_setRow' ?_ ?_ _) | go_size)) hb1; have hL0 : w.heap.size < wS.heap.size := (by have hS0 := hb1.size; (try simp at hS0); omega); have hLe : w.heap.size ≤ wS.heap.size := hB1.size; obtain ⟨hc1, hf1⟩ := bcell hb1; (try simp only [size_drew', size_drewN'] at hc1); (try simp only [size_drew', size_drewN'] at hf1); have hS9 := hb1.size; (try simp [Nat.add_one_le_iff] at hS9); (try (have hS8 := Nat.lt_of_succ_lt hS9)); have hQ0a : w.heap.size < wS.heap.size + 1 := (by omega); have hQ0b : w.heap.size < wS.heap.size + 1 + 1 := (by omega); clear hb1)
    | fail)
    all_goals (go_wp2_with fail; go_meet; refine ⟨_, _, rfl, rfl, ?_, ?_, ?_, ?_, ?_, ?_, (by repeat' (first | (with_reducible exact Below.refl _ _) | (with_reducible assumption) | (with_reducible refine Below.alloc ?_ ?_ _) | (with_reducible refine Below.drew ?_) | (with_reducible refine below_drewN ?_ _) | (with_reducible refine Below.setCell ?_ ?_ _) | (with_reducible refine below_setRow' ?_ ?_ _) | go_size))⟩)
    all_goals (first | omega | go_simp)
  case rest =>
    obtain ⟨g3, g4, rfl, rfl, hg3, hg4, hne, k0, k3, k4, hB⟩ := hcut
    have hc0 : wc.cell? ⟨w.heap.size, 0, none⟩ = some (.int .i64 16) := by rw [blk?_cell k0]; rfl
    go_wp2
    go_loopw [20, 5] (fun i v5 wr => ∃ k : Nat, k ≤ 16 ∧ i = .int .i64 k ∧ blk? wr w.heap.size = some (adr 16 (b) ⟨#[]⟩) ∧ blk? wr g3 = some (adr 16 (lst k (b)) ⟨#[]⟩) ∧ blk? wr g4 = some (adr 16 zb ⟨#[]⟩) ∧ Below w.heap.size w wr) (fun i _ _ => 16 - (intOf i).toNat)
    case atStart => exact ⟨0, by omega, rfl, k0, by rw [lst_zero]; exact k3, k4, hB⟩
    case round =>
      obtain ⟨k, hk, rfl, k0, k3, k4, hB⟩ := hrel
      have hl0 := blk?_lt k0
      have hl3 := blk?_lt k3
      have hl4 := blk?_lt k4
      by_cases hlt : k < 16
      · have h16 : k < 16 := by omega
        have hi0 : (0 : Int) ≤ (k : Int) := by omega
        have hi1 : (k : Int) < 16 := by omega
        have hi2 : (k : Int) < 16 := by omega
        have hld : wr.cell? ⟨g3, 1 + k, none⟩ = some (.int .u8 (lst k (b) k)) := by rw [blk?_cell k3, adr_byte' _ _ _ _ h16]
        have hfz : wr.frozen? ⟨g3, 1 + k, none⟩ = false := blk?_frozen k3 _
        go_wp2
        go_roundw
        case rel => exact ⟨k + 1, by omega, by go_num, by rw [blk?_setOther _ _ _ _ (by show _ ≠ g3; omega)]; exact k0, by rw [blk?_setSame, k3, Option.map_some, adr_set' _ _ _ _ _ h16, lst_succ], by rw [blk?_setOther _ _ _ _ (by show _ ≠ g3; omega)]; exact k4, (by repeat' (first | (with_reducible exact Below.refl _ _) | (with_reducible assumption) | (with_reducible refine Below.alloc ?_ ?_ _) | (with_reducible refine Below.drew ?_) | (with_reducible refine below_drewN ?_ _) | (with_reducible refine Below.setCell ?_ ?_ _) | (with_reducible refine below_setRow' ?_ ?_ _) | go_size))⟩
        case measure => simp [intOf]; omega
      · obtain rfl : k = 16 := by omega
        have hQ0a : w.heap.size < wr.heap.size + 1 := by omega
        have hQ0b : w.heap.size < wr.heap.size + 1 + 1 := by omega
        have hQ3a : g3 < wr.heap.size + 1 := by omega
        have hQ3b : g3 < wr.heap.size + 1 + 1 := by omega
        have hQ4a : g4 < wr.heap.size + 1 := by omega
        have hQ4b : g4 < wr.heap.size + 1 + 1 := by omega
        go_upto_region 10 with fail
        go_cut [6, 7] (fun s6 s7 wx => ∃ g6 g7 : Nat, s6 = .pointer (some ⟨g6, 0, none⟩) ∧ s7 = .pointer (some ⟨g7, 0, none⟩) ∧ blk? wx w.heap.size = some (adr 16 (b) ⟨#[]⟩) ∧ blk? wx g3 = some (adr 16 (lst 16 (b)) ⟨#[]⟩) ∧ blk? wx g4 = some (adr 16 zb ⟨#[]⟩) ∧ blk? wx g6 = some (adr 0 zb ⟨#[]⟩) ∧ blk? wx g7 = some (adr 16 cp ⟨#[]⟩) ∧ Below w.heap.size w wx)
        case first =>
          go_region_held3 (fun w' => blk? w' (w.heap.size) = some (adr 16 (b) ⟨#[]⟩) ∧ blk? w' (g3) = some (adr 16 (lst 16 (b)) ⟨#[]⟩) ∧ blk? w' (g4) = some (adr 16 zb ⟨#[]⟩)) (first | (refine ⟨?_, ?_, ?_⟩ <;> go_simp)) (first
    | (go_at_call 41; (with_reducible refine (HN.out _ ?_).mono ?_); (exact HG.out.below (by repeat' (first | (with_reducible exact Below.refl _ _) | (with_reducible assumption) | (with_reducible refine Below.alloc ?_ ?_ _) | (with_reducible refine Below.drew ?_) | (with_reducible refine below_drewN ?_ _) | (with_reducible refine Below.setCell ?_ ?_ _) | (with_reducible refine below_setRow' ?_ ?_ _) | go_size)) (Nat.le_refl _)); rintro e wN ⟨rfl, hb1⟩; have hk1 := blk?_below hb1; (try simp only [size_drew', size_drewN'] at hk1); have hB1 := below_via (w := w) (by repeat' (first | (with_reducible exact Below.refl _ _) | (with_reducible assumption) | (with_reducible refine Below.alloc ?_ ?_ _) | (with_reducible refine Below.drew ?_) | (with_reducible refine below_drewN ?_ _) | (with_reducible refine Below.setCell ?_ ?_ _) | (with_reducible refine below_setRow' ?_ ?_ _) | go_size)) hb1; have hL0 : w.heap.size < wN.heap.size := (by have hS0 := hb1.size; (try simp at hS0); omega); have hL1 : g3 < wN.heap.size := (by have hS0 := hb1.size; (try simp at hS0); omega); have hL2 : g4 < wN.heap.size := (by have hS0 := hb1.size; (try simp at hS0); omega); have hLe : w.heap.size ≤ wN.heap.size := hB1.size; (try (have hT0 : wr.heap.size < wN.heap.size := (by have hS0 := hb1.size; (try simp at hS0); omega))); (try (have hT1 : wr.heap.size + 1 < wN.heap.size := (by have hS0 := hb1.size; (try simp at hS0); omega))); have hQ0a : w.heap.size < wN.heap.size + 1 := (by omega); have hQ0b : w.heap.size < wN.heap.size + 1 + 1 := (by omega); have hQ1a : g3 < wN.heap.size + 1 := (by omega); have hQ1b : g3 < wN.heap.size + 1 + 1 := (by omega); have hQ2a : g4 < wN.heap.size + 1 := (by omega); have hQ2b : g4 < wN.heap.size + 1 + 1 := (by omega); clear hb1)
    | (go_at_call 39; (with_reducible refine (HP.out _ ?_).mono ?_); (exact HG.out.below (by repeat' (first | (with_reducible exact Below.refl _ _) | (with_reducible assumption) | (with_reducible refine Below.alloc ?_ ?_ _) | (with_reducible refine Below.drew ?_) | (with_reducible refine below_drewN ?_ _) | (with_reducible refine Below.setCell ?_ ?_ _) | (with_reducible refine below_setRow' ?_ ?_ _) | go_size)) (Nat.le_refl _)); rintro e wP ⟨rfl, hb1⟩; have hk1 := blk?_below hb1; (try simp only [size_drew', size_drewN'] at hk1); have hB1 := below_via (w := w) (by repeat' (first | (with_reducible exact Below.refl _ _) | (with_reducible assumption) | (with_reducible refine Below.alloc ?_ ?_ _) | (with_reducible refine Below.drew ?_) | (with_reducible refine below_drewN ?_ _) | (with_reducible refine Below.setCell ?_ ?_ _) | (with_reducible refine below_setRow' ?_ ?_ _) | go_size)) hb1; have hL0 : w.heap.size < wP.heap.size := (by have hS0 := hb1.size; (try simp at hS0); omega); have hL1 : g3 < wP.heap.size := (by have hS0 := hb1.size; (try simp at hS0); omega); have hL2 : g4 < wP.heap.size := (by have hS0 := hb1.size; (try simp at hS0); omega); have hLe : w.heap.size ≤ wP.heap.size := hB1.size; (try (have hT0 : wr.heap.size < wP.heap.size := (by have hS0 := hb1.size; (try simp at hS0); omega))); (try (have hT1 : wr.heap.size + 1 < wP.heap.size := (by have hS0 := hb1.size; (try simp at hS0); omega))); (try (have hT2 : wN.heap.size < wP.heap.size := (by have hS0 := hb1.size; (try simp at hS0); omega))); (try (have hT3 : wN.heap.size + 1 < wP.heap.size := (by have hS0 := hb1.size; (try simp at hS0); omega))); have hQ0a : w.heap.size < wP.heap.size + 1 := (by omega); have hQ0b : w.heap.size < wP.heap.size + 1 + 1 := (by omega); have hQ1a : g3 < wP.heap.size + 1 := (by omega); have hQ1b : g3 < wP.heap.size + 1 + 1 := (by omega); have hQ2a : g4 < wP.heap.size + 1 := (by omega); have hQ2b : g4 < wP.heap.size + 1 + 1 := (by omega); clear hb1))
          all_goals (go_wp2_with fail; go_meet; refine ⟨_, _, rfl, rfl, ?_, ?_, ?_, ?_, ?_, (by repeat' (first | (with_reducible exact Below.refl _ _) | (with_reducible assumption) | (with_reducible refine Below.alloc ?_ ?_ _) | (with_reducible refine Below.drew ?_) | (with_reducible refine below_drewN ?_ _) | (with_reducible refine Below.setCell ?_ ?_ _) | (with_reducible refine below_setRow' ?_ ?_ _) | go_size))⟩)
          all_goals go_simp
        case rest =>
          obtain ⟨g6, g7, rfl, rfl, k0, k3, k4, k6, k7, hB⟩ := hcut
          have hl0 := blk?_lt k0
          have hl3 := blk?_lt k3
          have hl4 := blk?_lt k4
          have hl6 := blk?_lt k6
          have hl7 := blk?_lt k7
          go_upto_region 11 with fail
          go_cut [44] (fun s44 wx => s44 = .bool false ∧ blk? wx w.heap.size = some (adr 16 (b) ⟨#[]⟩) ∧ blk? wx g3 = some (adr 16 (lst 16 (b)) ⟨#[]⟩) ∧ blk? wx g4 = some (adr 16 zb ⟨#[]⟩) ∧ blk? wx g6 = some (adr 0 zb ⟨#[]⟩) ∧ blk? wx g7 = some (adr 16 cp ⟨#[]⟩) ∧ Below w.heap.size w wx)
          case first =>
            go_region_held3 (fun w' => blk? w' (w.heap.size) = some (adr 16 (b) ⟨#[]⟩) ∧ blk? w' (g3) = some (adr 16 (lst 16 (b)) ⟨#[]⟩) ∧ blk? w' (g4) = some (adr 16 zb ⟨#[]⟩) ∧ blk? w' (g6) = some (adr 0 zb ⟨#[]⟩) ∧ blk? w' (g7) = some (adr 16 cp ⟨#[]⟩)) (first | (refine ⟨?_, ?_, ?_, ?_, ?_⟩ <;> go_simp)) (first
    | (go_at_call 53; (with_reducible refine (iIsValid_0 (b4 := b4) (o4 := o4) 0 (by omega) (by omega) zb Bt_zb _ _ ?_).mono ?_); (exact HG.out.g4.below (by repeat' (first | (with_reducible exact Below.refl _ _) | (with_reducible assumption) | (with_reducible refine Below.alloc ?_ ?_ _) | (with_reducible refine Below.drew ?_) | (with_reducible refine below_drewN ?_ _) | (with_reducible refine Below.setCell ?_ ?_ _) | (with_reducible refine below_setRow' ?_ ?_ _) | go_size)) (Nat.le_refl _)); rintro e w1 ⟨rfl, hb1⟩; have hk1 := blk?_below hb1; (try simp only [size_drew', size_drewN'] at hk1); have hB1 := below_via (w := w) (by repeat' (first | (with_reducible exact Below.refl _ _) | (with_reducible assumption) | (with_reducible refine Below.alloc ?_ ?_ _) | (with_reducible refine Below.drew ?_) | (with_reducible refine below_drewN ?_ _) | (with_reducible refine Below.setCell ?_ ?_ _) | (with_reducible refine below_setRow' ?_ ?_ _) | go_size)) hb1; have hL0 : w.heap.size < w1.heap.size := (by have hS0 := hb1.size; (try simp at hS0); omega); have hL1 : g3 < w1.heap.size := (by have hS0 := hb1.size; (try simp at hS0); omega); have hL2 : g4 < w1.heap.size := (by have hS0 := hb1.size; (try simp at hS0); omega); have hL3 : g6 < w1.heap.size := (by have hS0 := hb1.size; (try simp at hS0); omega); have hL4 : g7 < w1.heap.size := (by have hS0 := hb1.size; (try simp at hS0); omega); have hLe : w.heap.size ≤ w1.heap.size := hB1.size; clear hb1)
    | (go_at_call 53; (with_reducible refine (iIsValid_16 (b4 := b4) (o4 := o4) (b6 := b6) (o6 := o6) cp HCP.out _ ?_).mono ?_); (exact HG.out.below (by repeat' (first | (with_reducible exact Below.refl _ _) | (with_reducible assumption) | (with_reducible refine Below.alloc ?_ ?_ _) | (with_reducible refine Below.drew ?_) | (with_reducible refine below_drewN ?_ _) | (with_reducible refine Below.setCell ?_ ?_ _) | (with_reducible refine below_setRow' ?_ ?_ _) | go_size)) (Nat.le_refl _)); rintro e w1 ⟨rfl, hb1⟩; have hk1 := blk?_below hb1; (try simp only [size_drew', size_drewN'] at hk1); have hB1 := below_via (w := w) (by repeat' (first | (with_reducible exact Below.refl _ _) | (with_reducible assumption) | (with_reducible refine Below.alloc ?_ ?_ _) | (with_reducible refine Below.drew ?_) | (with_reducible refine below_drewN ?_ _) | (with_reducible refine Below.setCell ?_ ?_ _) | (with_reducible refine below_setRow' ?_ ?_ _) | go_size)) hb1; have hL0 : w.heap.size < w1.heap.size := (by have hS0 := hb1.size; (try simp at hS0); omega); have hL1 : g3 < w1.heap.size := (by have hS0 := hb1.size; (try simp at hS0); omega); have hL2 : g4 < w1.heap.size := (by have hS0 := hb1.size; (try simp at hS0); omega); have hL3 : g6 < w1.heap.size := (by have hS0 := hb1.size; (try simp at hS0); omega); have hL4 : g7 < w1.heap.size := (by have hS0 := hb1.size; (try simp at hS0); omega); have hLe : w.heap.size ≤ w1.heap.size := hB1.size; clear hb1))
            all_goals (go_wp2_with fail; go_meet; refine ⟨rfl, ?_, ?_, ?_, ?_, ?_, (by repeat' (first | (with_reducible exact Below.refl _ _) | (with_reducible assumption) | (with_reducible refine Below.alloc ?_ ?_ _) | (with_reducible refine Below.drew ?_) | (with_reducible refine below_drewN ?_ _) | (with_reducible refine Below.setCell ?_ ?_ _) | (with_reducible refine below_setRow' ?_ ?_ _) | go_size))⟩)
            all_goals go_simp
          case rest =>
            obtain ⟨rfl, k0, k3, k4, k6, k7, hB⟩ := hcut
            have hl0 := blk?_lt k0
            have hl3 := blk?_lt k3
            have hl4 := blk?_lt k4
            have hl6 := blk?_lt k6
            have hl7 := blk?_lt k7
            go_wp2_with fail
            refine wp_region_held_drew (S := fun w' => blk? w' (w.heap.size) = some (adr 16 (b) ⟨#[]⟩) ∧ blk? w' (g3) = some (adr 16 (lst 16 (b)) ⟨#[]⟩) ∧ blk? w' (g4) = some (adr 16 zb ⟨#[]⟩) ∧ blk? w' (g6) = some (adr 0 zb ⟨#[]⟩) ∧ blk? w' (g7) = some (adr 16 cp ⟨#[]⟩)) (by kernel_rfl) ?_ (fun hHeld0 => ?_)
            · ((try dsimp only); (refine ⟨?_, ?_, ?_, ?_, ?_⟩ <;> go_simp))
            refine wpAnyH_take (i := 0) (oi := _) (v := ?_) rfl (by kernel_rfl) (by kernel_rfl) (by kernel_rfl) (fun _ _ _ h => h) (Or.inl ⟨by rfl, ?_⟩) (by assumption) ?_
            rotate_left 1
            · (intro w hSw; (try dsimp only at hSw); (try simp only [List.getElem_toArray, List.getElem_cons_succ, List.getElem_cons_zero]); first | (go_simp; done) | (go_simp; with_reducible rfl))
            (try simp only [Act.put, List.setIfInBounds_toArray, List.set_cons_zero, List.set_cons_succ, List.getElem_toArray, List.getElem_cons_succ, List.getElem_cons_zero])
            refine wpAnyH_take (i := 1) (oi := _) (v := ?_) rfl (by kernel_rfl) (by kernel_rfl) (by kernel_rfl) (fun _ _ _ h => h) (Or.inl ⟨by rfl, ?_⟩) (by assumption) ?_
            rotate_left 1
            · (intro w hSw; (try dsimp only at hSw); (try simp only [List.getElem_toArray, List.getElem_cons_succ, List.getElem_cons_zero]); first | (go_simp; done) | (go_simp; with_reducible rfl))
            (try simp only [Act.put, List.setIfInBounds_toArray, List.set_cons_zero, List.set_cons_succ, List.getElem_toArray, List.getElem_cons_succ, List.getElem_cons_zero])
            refine wpAnyH_take (i := 2) (oi := _) (v := ?_) rfl (by kernel_rfl) (by kernel_rfl) (by kernel_rfl) (fun _ _ _ h => h) (Or.inl ⟨by rfl, ?_⟩) (by assumption) ?_
            rotate_left 1
            · (intro w hSw; (try dsimp only at hSw); (try simp only [List.getElem_toArray, List.getElem_cons_succ, List.getElem_cons_zero]); first | (go_simp; done) | (go_simp; with_reducible rfl))
            (try simp only [Act.put, List.setIfInBounds_toArray, List.set_cons_zero, List.set_cons_succ, List.getElem_toArray, List.getElem_cons_succ, List.getElem_cons_zero])
            refine wpAnyH_take (i := 3) (oi := _) (v := ?_) rfl (by kernel_rfl) (by kernel_rfl) (by kernel_rfl) (fun _ _ _ h => h) (Or.inl ⟨by rfl, ?_⟩) (by assumption) ?_
            rotate_left 1
            · (intro w hSw; (try dsimp only at hSw); (try simp only [List.getElem_toArray, List.getElem_cons_succ, List.getElem_cons_zero]); first | (go_simp; done) | (go_simp; with_reducible rfl))
            (try simp only [Act.put, List.setIfInBounds_toArray, List.set_cons_zero, List.set_cons_succ, List.getElem_toArray, List.getElem_cons_succ, List.getElem_cons_zero])
            refine wpAnyH_take (i := 4) (oi := _) (v := undef) rfl (by kernel_rfl) (by kernel_rfl) (by kernel_rfl) (fun _ _ _ h => h) (Or.inr ⟨by rfl, rfl⟩) (by assumption) ?_
            (try simp only [Act.put, List.setIfInBounds_toArray, List.set_cons_zero, List.set_cons_succ, List.getElem_toArray, List.getElem_cons_succ, List.getElem_cons_zero])
            refine wpAnyH_take (i := 6) (oi := _) (v := undef) rfl (by kernel_rfl) (by kernel_rfl) (by kernel_rfl) (fun _ _ _ h => h) (Or.inr ⟨by rfl, rfl⟩) (by assumption) ?_
            (try simp only [Act.put, List.setIfInBounds_toArray, List.set_cons_zero, List.set_cons_succ, List.getElem_toArray, List.getElem_cons_succ, List.getElem_cons_zero])
            refine wpAnyH_ready (rs := [5]) (by kernel_rfl) (by simp) (AllReadyH.cons rfl (fun K hK => ?_) AllReadyH.nil)
            go_simp
            refine hK.out _ _ ?_ (fun hHeld1 => ?_)
            · ((try dsimp only); (refine ⟨?_, ?_, ?_, ?_, ?_⟩ <;> go_simp))
            clear hK K hHeld0
            (try simp only [Act.put, List.setIfInBounds_toArray, List.set_cons_zero, List.set_cons_succ, List.getElem_toArray, List.getElem_cons_succ, List.getElem_cons_zero])
            refine wpAnyH_take (i := 7) (oi := _) (v := undef) rfl (by kernel_rfl) (by kernel_rfl) (by kernel_rfl) (fun _ _ _ h => h) (Or.inr ⟨by rfl, rfl⟩) (by assumption) ?_
            (try simp only [Act.put, List.setIfInBounds_toArray, List.set_cons_zero, List.set_cons_succ, List.getElem_toArray, List.getElem_cons_succ, List.getElem_cons_zero])
            refine wpAnyH_take (i := 8) (oi := _) (v := ?_) rfl (by kernel_rfl) (by kernel_rfl) (by kernel_rfl) (fun _ _ _ h => h) (Or.inl ⟨by rfl, ?_⟩) (by assumption) ?_
            rotate_left 1
            · (intro w hSw; (try dsimp only at hSw); (try simp only [List.getElem_toArray, List.getElem_cons_succ, List.getElem_cons_zero]); first | (go_simp; done) | (go_simp; with_reducible rfl))
            (try simp only [Act.put, List.setIfInBounds_toArray, List.set_cons_zero, List.set_cons_succ, List.getElem_toArray, List.getElem_cons_succ, List.getElem_cons_zero])
            refine wpAnyH_take (i := 9) (oi := _) (v := ?_) rfl (by kernel_rfl) (by kernel_rfl) (by kernel_rfl) (fun _ _ _ h => h) (Or.inl ⟨by rfl, ?_⟩) (by assumption) ?_
            rotate_left 1
            · (intro w hSw; (try dsimp only at hSw); (try simp only [List.getElem_toArray, List.getElem_cons_succ, List.getElem_cons_zero]); first | (go_simp; done) | (go_simp; with_reducible rfl))
            (try simp only [Act.put, List.setIfInBounds_toArray, List.set_cons_zero, List.set_cons_succ, List.getElem_toArray, List.getElem_cons_succ, List.getElem_cons_zero])
            refine wpAnyH_take (i := 10) (oi := _) (v := ?_) rfl (by kernel_rfl) (by kernel_rfl) (by kernel_rfl) (fun _ _ _ h => h) (Or.inl ⟨by rfl, ?_⟩) (by assumption) ?_
            rotate_left 1
            · (intro w hSw; (try dsimp only at hSw); (try simp only [List.getElem_toArray, List.getElem_cons_succ, List.getElem_cons_zero]); first | (go_simp; done) | (go_simp; with_reducible rfl))
            (try simp only [Act.put, List.setIfInBounds_toArray, List.set_cons_zero, List.set_cons_succ, List.getElem_toArray, List.getElem_cons_succ, List.getElem_cons_zero])
            refine wpAnyH_take (i := 11) (oi := _) (v := ?_) rfl (by kernel_rfl) (by kernel_rfl) (by kernel_rfl) (fun _ _ _ h => h) (Or.inl ⟨by rfl, ?_⟩) (by assumption) ?_
            rotate_left 1
            · (intro w hSw; (try dsimp only at hSw); (try simp only [List.getElem_toArray, List.getElem_cons_succ, List.getElem_cons_zero]); first | (go_simp; done) | (go_simp; with_reducible rfl))
            (try simp only [Act.put, List.setIfInBounds_toArray, List.set_cons_zero, List.set_cons_succ, List.getElem_toArray, List.getElem_cons_succ, List.getElem_cons_zero])
            refine wpAnyH_take (i := 12) (oi := _) (v := ?_) rfl (by kernel_rfl) (by kernel_rfl) (by kernel_rfl) (fun _ _ _ h => h) (Or.inl ⟨by rfl, ?_⟩) (by assumption) ?_
            rotate_left 1
            · (intro w hSw; (try dsimp only at hSw); (try simp only [List.getElem_toArray, List.getElem_cons_succ, List.getElem_cons_zero]); first | (go_simp; done) | (go_simp; with_reducible rfl))
            (try simp only [Act.put, List.setIfInBounds_toArray, List.set_cons_zero, List.set_cons_succ, List.getElem_toArray, List.getElem_cons_succ, List.getElem_cons_zero])
            refine wpAnyH_take (i := 13) (oi := _) (v := ?_) rfl (by kernel_rfl) (by kernel_rfl) (by kernel_rfl) (fun _ _ _ h => h) (Or.inl ⟨by rfl, ?_⟩) (by assumption) ?_
            rotate_left 1
            · (intro w hSw; (try dsimp only at hSw); (try simp only [List.getElem_toArray, List.getElem_cons_succ, List.getElem_cons_zero]); first | (go_simp; done) | (go_simp; with_reducible rfl))
            (try simp only [Act.put, List.setIfInBounds_toArray, List.set_cons_zero, List.set_cons_succ, List.getElem_toArray, List.getElem_cons_succ, List.getElem_cons_zero])
            refine wpAnyH_take (i := 14) (oi := _) (v := ?_) rfl (by kernel_rfl) (by kernel_rfl) (by kernel_rfl) (fun _ _ _ h => h) (Or.inl ⟨by rfl, ?_⟩) (by assumption) ?_
            rotate_left 1
            · (intro w hSw; (try dsimp only at hSw); (try simp only [List.getElem_toArray, List.getElem_cons_succ, List.getElem_cons_zero]); first | (go_simp; done) | (go_simp; with_reducible rfl))
            (try simp only [Act.put, List.setIfInBounds_toArray, List.set_cons_zero, List.set_cons_succ, List.getElem_toArray, List.getElem_cons_succ, List.getElem_cons_zero])
            refine wpAnyH_take (i := 16) (oi := _) (v := ?_) rfl (by kernel_rfl) (by kernel_rfl) (by kernel_rfl) (fun _ _ _ h => h) (Or.inl ⟨by rfl, ?_⟩) (by assumption) ?_
            rotate_left 1
            · (intro w hSw; (try dsimp only at hSw); (try simp only [List.getElem_toArray, List.getElem_cons_succ, List.getElem_cons_zero]); first | (go_simp; done) | (go_simp; with_reducible rfl))
            (try simp only [Act.put, List.setIfInBounds_toArray, List.set_cons_zero, List.set_cons_succ, List.getElem_toArray, List.getElem_cons_succ, List.getElem_cons_zero])
            refine wpAnyH_ready (rs := [15]) (by kernel_rfl) (by simp) (AllReadyH.cons rfl (fun K hK => ?_) AllReadyH.nil)
            go_simp
            go_wp2_with (first
              | (go_at_call 41; (with_reducible refine (HPN.out _ ?_).mono ?_); (exact HG.out.below (by repeat' (first | (with_reducible exact Below.refl _ _) | (with_reducible assumption) | (with_reducible refine Below.alloc ?_ ?_ _) | (with_reducible refine Below.drew ?_) | (with_reducible refine below_drewN ?_ _) | (with_reducible refine Below.setCell ?_ ?_ _) | (with_reducible refine below_setRow' ?_ ?_ _) | go_size)) (Nat.le_refl _)); rintro e w1 ⟨rfl, hb1⟩; have hk1 := blk?_below hb1; (try simp only [size_drew', size_drewN'] at hk1); have hB1 := below_via (w := w) (by repeat' (first | (with_reducible exact Below.refl _ _) | (with_reducible assumption) | (with_reducible refine Below.alloc ?_ ?_ _) | (with_reducible refine Below.drew ?_) | (with_reducible refine below_drewN ?_ _) | (with_reducible refine Below.setCell ?_ ?_ _) | (with_reducible refine below_setRow' ?_ ?_ _) | go_size)) hb1; have hL0 : w.heap.size < w1.heap.size := (by have hS0 := hb1.size; (try simp at hS0); omega); have hL1 : g3 < w1.heap.size := (by have hS0 := hb1.size; (try simp at hS0); omega); have hL2 : g4 < w1.heap.size := (by have hS0 := hb1.size; (try simp at hS0); omega); have hL3 : g6 < w1.heap.size := (by have hS0 := hb1.size; (try simp at hS0); omega); have hL4 : g7 < w1.heap.size := (by have hS0 := hb1.size; (try simp at hS0); omega); have hLe : w.heap.size ≤ w1.heap.size := hB1.size; clear hb1))
            refine hK.out _ _ ?_ (fun hHeld2 => ?_)
            · ((try dsimp only); (refine ⟨?_, ?_, ?_, ?_, ?_⟩ <;> go_simp))
            clear hK K hHeld1
            (try simp only [Act.put, List.setIfInBounds_toArray, List.set_cons_zero, List.set_cons_succ, List.getElem_toArray, List.getElem_cons_succ, List.getElem_cons_zero])
            refine wpAnyH_take (i := 17) (oi := _) (v := ?_) rfl (by kernel_rfl) (by kernel_rfl) (by kernel_rfl) (fun _ _ _ h => h) (Or.inl ⟨by rfl, ?_⟩) (by assumption) ?_
            rotate_left 1
            · (intro w hSw; (try dsimp only at hSw); (try simp only [List.getElem_toArray, List.getElem_cons_succ, List.getElem_cons_zero]); first | (go_simp; done) | (go_simp; with_reducible rfl))
            (try simp only [Act.put, List.setIfInBounds_toArray, List.set_cons_zero, List.set_cons_succ, List.getElem_toArray, List.getElem_cons_succ, List.getElem_cons_zero])
            refine wpAnyH_take (i := 18) (oi := _) (v := ?_) rfl (by kernel_rfl) (by kernel_rfl) (by kernel_rfl) (fun _ _ _ h => h) (Or.inl ⟨by rfl, ?_⟩) (by assumption) ?_
            rotate_left 1
            · (intro w hSw; (try dsimp only at hSw); (try simp only [List.getElem_toArray, List.getElem_cons_succ, List.getElem_cons_zero]); first | (go_simp; done) | (go_simp; with_reducible rfl))
            (try simp only [Act.put, List.setIfInBounds_toArray, List.set_cons_zero, List.set_cons_succ, List.getElem_toArray, List.getElem_cons_succ, List.getElem_cons_zero])
            refine wpAnyH_take (i := 19) (oi := _) (v := ?_) rfl (by kernel_rfl) (by kernel_rfl) (by kernel_rfl) (fun _ _ _ h => h) (Or.inl ⟨by rfl, ?_⟩) (by assumption) ?_
            rotate_left 1
            · (intro w hSw; (try dsimp only at hSw); (try simp only [List.getElem_toArray, List.getElem_cons_succ, List.getElem_cons_zero]); first | (go_simp; done) | (go_simp; with_reducible rfl))
            (try simp only [Act.put, List.setIfInBounds_toArray, List.set_cons_zero, List.set_cons_succ, List.getElem_toArray, List.getElem_cons_succ, List.getElem_cons_zero])
            refine wpAnyH_take (i := 20) (oi := _) (v := ?_) rfl (by kernel_rfl) (by kernel_rfl) (by kernel_rfl) (fun _ _ _ h => h) (Or.inl ⟨by rfl, ?_⟩) (by assumption) ?_
            rotate_left 1
            · (intro w hSw; (try dsimp only at hSw); (try simp only [List.getElem_toArray, List.getElem_cons_succ, List.getElem_cons_zero]); first | (go_simp; done) | (go_simp; with_reducible rfl))
            (try simp only [Act.put, List.setIfInBounds_toArray, List.set_cons_zero, List.set_cons_succ, List.getElem_toArray, List.getElem_cons_succ, List.getElem_cons_zero])
            refine wpAnyH_done (by kernel_rfl) ?_ _
            all_goals (go_wp2; go_ret; exact ⟨rfl, (by repeat' (first | (with_reducible exact Below.refl _ _) | (with_reducible assumption) | (with_reducible refine Below.alloc ?_ ?_ _) | (with_reducible refine Below.drew ?_) | (with_reducible refine below_drewN ?_ _) | (with_reducible refine Below.setCell ?_ ?_ _) | (with_reducible refine below_setRow' ?_ ?_ _) | go_size))⟩)
set_option maxHeartbeats 4000000 in
set_option maxRecDepth 100000 in
theorem law12_16B (b cn cp : Nat → Int) (z : ByteArray) (hcn : Bt cn) (hcp : Bt cp) {b4 o4 b6 o6 : Nat} (w : World) (hg : Gl b4 o4 b6 o6 w) (hN : ∀ w, Gl b4 o4 b6 o6 w → Calls Tryd.prog 41 #[.agg (adr 16 (b) ⟨#[]⟩)] w fun e w' => e = .returned (.agg (adr 16 cn ⟨#[]⟩)) ∧ Below w.heap.size w w') (hP : ∀ w, Gl b4 o4 b6 o6 w → Calls Tryd.prog 39 #[.agg (adr 16 (b) ⟨#[]⟩)] w fun e w' => e = .returned (.agg (adr 0 zb ⟨#[]⟩)) ∧ Below w.heap.size w w') (hNP : ∀ w, Gl b4 o4 b6 o6 w → Calls Tryd.prog 39 #[.agg (adr 16 cn ⟨#[]⟩)] w fun e w' => e = .returned (.agg (adr 16 (b) ⟨#[]⟩)) ∧ Below w.heap.size w w')
    (hL : adrEq 16 (b) ⟨#[]⟩ 16 (lst 16 (b)) ⟨#[]⟩ = false) (hF : adrEq 16 (b) ⟨#[]⟩ 16 zb ⟨#[]⟩ = true) :
    Calls Tryd.prog 12 #[.agg (adr 16 b z)] w fun e w' => e = .returned (.bool true) ∧ Below w.heap.size w w' := by
  have HG := Lib.hid hg
  have HCN := Lib.hid hcn
  have HCP := Lib.hid hcp
  have HN := Lib.hid hN
  have HP := Lib.hid hP
  have HNP := Lib.hid hNP
  have hEC : adrEq 16 (b) ⟨#[]⟩ 16 (b) ⟨#[]⟩ = true := (adrEq_iff _ _ _ _ _ _).2 ⟨rfl, fun _ _ => rfl, rfl⟩
  clear hg hcn hcp hN hP hNP
  go_enter Tryd.func12, Tryd.ntmps12
  go_upto_region 4 with (first
    | (go_at_call 52; (with_reducible refine (bare_16 _ _ _).mono ?_); rintro e w1 ⟨rfl, hb1⟩; have hk1 := blk?_below hb1; (try simp only [size_drew', size_drewN'] at hk1); have hB1 := below_via (w := w) (by repeat' (first | (with_reducible exact Below.refl _ _) | (with_reducible assumption) | (with_reducible refine Below.alloc ?_ ?_ _) | (with_reducible refine Below.drew ?_) | (with_reducible refine below_drewN ?_ _) | (with_reducible refine Below.setCell ?_ ?_ _) | (with_reducible refine below_setRow' ?_ ?_ _) | go_size)) hb1; have hL0 : w.heap.size < w1.heap.size := (by have hS0 := hb1.size; (try simp at hS0); omega); have hLe : w.heap.size ≤ w1.heap.size := hB1.size; clear hb1)
    | (go_at_call 36; (with_reducible refine (valid_16 _ _ _).mono ?_); rintro e w1 ⟨rfl, hb1⟩; have hk1 := blk?_below hb1; (try simp only [size_drew', size_drewN'] at hk1); have hB1 := below_via (w := w) (by repeat' (first | (with_reducible exact Below.refl _ _) | (with_reducible assumption) | (with_reducible refine Below.alloc ?_ ?_ _) | (with_reducible refine Below.drew ?_) | (with_reducible refine below_drewN ?_ _) | (with_reducible refine Below.setCell ?_ ?_ _) | (with_reducible refine below_setRow' ?_ ?_ _) | go_size)) hb1; have hL0 : w.heap.size < w1.heap.size := (by have hS0 := hb1.size; (try simp at hS0); omega); have hLe : w.heap.size ≤ w1.heap.size := hB1.size; clear hb1))
  go_cut [3, 4] (fun s3 s4 wx => ∃ g3 g4 : Nat, s3 = .pointer (some ⟨g3, 0, none⟩) ∧ s4 = .pointer (some ⟨g4, 0, none⟩) ∧ w.heap.size < g3 ∧ w.heap.size < g4 ∧ g3 ≠ g4 ∧ blk? wx w.heap.size = some (adr 16 (b) ⟨#[]⟩) ∧ blk? wx g3 = some (adr 16 (b) ⟨#[]⟩) ∧ blk? wx g4 = some (adr 16 zb ⟨#[]⟩) ∧ Below w.heap.size w wx)
  case first =>
    have k0 : blk? w1 w.heap.size = some (adr 16 (b) ⟨#[]⟩) := by go_simp
    have hc0 : w1.cell? ⟨w.heap.size, 0, none⟩ = some (.int .i64 16) := by rw [blk?_cell k0]; rfl
    clear hk1
    have hQ0a : w.heap.size < w1.heap.size + 1 := by omega
    have hQ0b : w.heap.size < w1.heap.size + 1 + 1 := by omega
    go_region_held3 (fun w' => blk? w' (w.heap.size) = some (adr 16 (b) ⟨#[]⟩) ∧ w'.cell? ⟨w.heap.size, 0, none⟩ = some (.int .i64 16)) (first | (refine ⟨?_, ?_⟩ <;> (first | go_simp | go_simp))) (first
    | (go_at_call 47; (with_reducible refine (lsame_16 _ _ _).mono ?_); rintro e wS ⟨rfl, hb1⟩; have hk1 := blk?_below hb1; (try simp only [size_drew', size_drewN'] at hk1); have hB1 := below_via (w := w) (by repeat' (first | (with_reducible exact Below.refl _ _) | (with_reducible assumption) | (with_reducible refine Below.alloc ?_ ?_ _) | (with_reducible refine Below.drew ?_) | (with_reducible refine below_drewN ?_ _) | (with_reducible refine Below.setCell ?_ ?_ _) | (with_reducible refine below_setRow' ?_ ?_ _) | go_size)) hb1; have hL0 : w.heap.size < wS.heap.size := (by have hS0 := hb1.size; (try simp at hS0); omega); have hLe : w.heap.size ≤ wS.heap.size := hB1.size; obtain ⟨hc1, hf1⟩ := bcell hb1; (try simp only [size_drew', size_drewN'] at hc1); (try simp only [size_drew', size_drewN'] at hf1); have hS9 := hb1.size; (try simp [Nat.add_one_le_iff] at hS9); (try (have hS8 := Nat.lt_of_succ_lt hS9)); have hQ0a : w.heap.size < wS.heap.size + 1 := (by omega); have hQ0b : w.heap.size < wS.heap.size + 1 + 1 := (by omega); clear hb1)
    | fail)
    all_goals (go_wp2_with fail; go_meet; refine ⟨_, _, rfl, rfl, ?_, ?_, ?_, ?_, ?_, ?_, (by repeat' (first | (with_reducible exact Below.refl _ _) | (with_reducible assumption) | (with_reducible refine Below.alloc ?_ ?_ _) | (with_reducible refine Below.drew ?_) | (with_reducible refine below_drewN ?_ _) | (with_reducible refine Below.setCell ?_ ?_ _) | (with_reducible refine below_setRow' ?_ ?_ _) | go_size))⟩)
    all_goals (first | omega | go_simp)
  case rest =>
    obtain ⟨g3, g4, rfl, rfl, hg3, hg4, hne, k0, k3, k4, hB⟩ := hcut
    have hc0 : wc.cell? ⟨w.heap.size, 0, none⟩ = some (.int .i64 16) := by rw [blk?_cell k0]; rfl
    go_wp2
    go_loopw [20, 5] (fun i v5 wr => ∃ k : Nat, k ≤ 16 ∧ i = .int .i64 k ∧ blk? wr w.heap.size = some (adr 16 (b) ⟨#[]⟩) ∧ blk? wr g3 = some (adr 16 (lst k (b)) ⟨#[]⟩) ∧ blk? wr g4 = some (adr 16 zb ⟨#[]⟩) ∧ Below w.heap.size w wr) (fun i _ _ => 16 - (intOf i).toNat)
    case atStart => exact ⟨0, by omega, rfl, k0, by rw [lst_zero]; exact k3, k4, hB⟩
    case round =>
      obtain ⟨k, hk, rfl, k0, k3, k4, hB⟩ := hrel
      have hl0 := blk?_lt k0
      have hl3 := blk?_lt k3
      have hl4 := blk?_lt k4
      by_cases hlt : k < 16
      · have h16 : k < 16 := by omega
        have hi0 : (0 : Int) ≤ (k : Int) := by omega
        have hi1 : (k : Int) < 16 := by omega
        have hi2 : (k : Int) < 16 := by omega
        have hld : wr.cell? ⟨g3, 1 + k, none⟩ = some (.int .u8 (lst k (b) k)) := by rw [blk?_cell k3, adr_byte' _ _ _ _ h16]
        have hfz : wr.frozen? ⟨g3, 1 + k, none⟩ = false := blk?_frozen k3 _
        go_wp2
        go_roundw
        case rel => exact ⟨k + 1, by omega, by go_num, by rw [blk?_setOther _ _ _ _ (by show _ ≠ g3; omega)]; exact k0, by rw [blk?_setSame, k3, Option.map_some, adr_set' _ _ _ _ _ h16, lst_succ], by rw [blk?_setOther _ _ _ _ (by show _ ≠ g3; omega)]; exact k4, (by repeat' (first | (with_reducible exact Below.refl _ _) | (with_reducible assumption) | (with_reducible refine Below.alloc ?_ ?_ _) | (with_reducible refine Below.drew ?_) | (with_reducible refine below_drewN ?_ _) | (with_reducible refine Below.setCell ?_ ?_ _) | (with_reducible refine below_setRow' ?_ ?_ _) | go_size))⟩
        case measure => simp [intOf]; omega
      · obtain rfl : k = 16 := by omega
        have hQ0a : w.heap.size < wr.heap.size + 1 := by omega
        have hQ0b : w.heap.size < wr.heap.size + 1 + 1 := by omega
        have hQ3a : g3 < wr.heap.size + 1 := by omega
        have hQ3b : g3 < wr.heap.size + 1 + 1 := by omega
        have hQ4a : g4 < wr.heap.size + 1 := by omega
        have hQ4b : g4 < wr.heap.size + 1 + 1 := by omega
        go_upto_region 10 with fail
        go_cut [6, 7] (fun s6 s7 wx => ∃ g6 g7 : Nat, s6 = .pointer (some ⟨g6, 0, none⟩) ∧ s7 = .pointer (some ⟨g7, 0, none⟩) ∧ blk? wx w.heap.size = some (adr 16 (b) ⟨#[]⟩) ∧ blk? wx g3 = some (adr 16 (lst 16 (b)) ⟨#[]⟩) ∧ blk? wx g4 = some (adr 16 zb ⟨#[]⟩) ∧ blk? wx g6 = some (adr 16 cn ⟨#[]⟩) ∧ blk? wx g7 = some (adr 0 zb ⟨#[]⟩) ∧ Below w.heap.size w wx)
        case first =>
          go_region_held3 (fun w' => blk? w' (w.heap.size) = some (adr 16 (b) ⟨#[]⟩) ∧ blk? w' (g3) = some (adr 16 (lst 16 (b)) ⟨#[]⟩) ∧ blk? w' (g4) = some (adr 16 zb ⟨#[]⟩)) (first | (refine ⟨?_, ?_, ?_⟩ <;> go_simp)) (first
    | (go_at_call 41; (with_reducible refine (HN.out _ ?_).mono ?_); (exact HG.out.below (by repeat' (first | (with_reducible exact Below.refl _ _) | (with_reducible assumption) | (with_reducible refine Below.alloc ?_ ?_ _) | (with_reducible refine Below.drew ?_) | (with_reducible refine below_drewN ?_ _) | (with_reducible refine Below.setCell ?_ ?_ _) | (with_reducible refine below_setRow' ?_ ?_ _) | go_size)) (Nat.le_refl _)); rintro e wN ⟨rfl, hb1⟩; have hk1 := blk?_below hb1; (try simp only [size_drew', size_drewN'] at hk1); have hB1 := below_via (w := w) (by repeat' (first | (with_reducible exact Below.refl _ _) | (with_reducible assumption) | (with_reducible refine Below.alloc ?_ ?_ _) | (with_reducible refine Below.drew ?_) | (with_reducible refine below_drewN ?_ _) | (with_reducible refine Below.setCell ?_ ?_ _) | (with_reducible refine below_setRow' ?_ ?_ _) | go_size)) hb1; have hL0 : w.heap.size < wN.heap.size := (by have hS0 := hb1.size; (try simp at hS0); omega); have hL1 : g3 < wN.heap.size := (by have hS0 := hb1.size; (try simp at hS0); omega); have hL2 : g4 < wN.heap.size := (by have hS0 := hb1.size; (try simp at hS0); omega); have hLe : w.heap.size ≤ wN.heap.size := hB1.size; (try (have hT0 : wr.heap.size < wN.heap.size := (by have hS0 := hb1.size; (try simp at hS0); omega))); (try (have hT1 : wr.heap.size + 1 < wN.heap.size := (by have hS0 := hb1.size; (try simp at hS0); omega))); have hQ0a : w.heap.size < wN.heap.size + 1 := (by omega); have hQ0b : w.heap.size < wN.heap.size + 1 + 1 := (by omega); have hQ1a : g3 < wN.heap.size + 1 := (by omega); have hQ1b : g3 < wN.heap.size + 1 + 1 := (by omega); have hQ2a : g4 < wN.heap.size + 1 := (by omega); have hQ2b : g4 < wN.heap.size + 1 + 1 := (by omega); clear hb1)
    | (go_at_call 39; (with_reducible refine (HP.out _ ?_).mono ?_); (exact HG.out.below (by repeat' (first | (with_reducible exact Below.refl _ _) | (with_reducible assumption) | (with_reducible refine Below.alloc ?_ ?_ _) | (with_reducible refine Below.drew ?_) | (with_reducible refine below_drewN ?_ _) | (with_reducible refine Below.setCell ?_ ?_ _) | (with_reducible refine below_setRow' ?_ ?_ _) | go_size)) (Nat.le_refl _)); rintro e wP ⟨rfl, hb1⟩; have hk1 := blk?_below hb1; (try simp only [size_drew', size_drewN'] at hk1); have hB1 := below_via (w := w) (by repeat' (first | (with_reducible exact Below.refl _ _) | (with_reducible assumption) | (with_reducible refine Below.alloc ?_ ?_ _) | (with_reducible refine Below.drew ?_) | (with_reducible refine below_drewN ?_ _) | (with_reducible refine Below.setCell ?_ ?_ _) | (with_reducible refine below_setRow' ?_ ?_ _) | go_size)) hb1; have hL0 : w.heap.size < wP.heap.size := (by have hS0 := hb1.size; (try simp at hS0); omega); have hL1 : g3 < wP.heap.size := (by have hS0 := hb1.size; (try simp at hS0); omega); have hL2 : g4 < wP.heap.size := (by have hS0 := hb1.size; (try simp at hS0); omega); have hLe : w.heap.size ≤ wP.heap.size := hB1.size; (try (have hT0 : wr.heap.size < wP.heap.size := (by have hS0 := hb1.size; (try simp at hS0); omega))); (try (have hT1 : wr.heap.size + 1 < wP.heap.size := (by have hS0 := hb1.size; (try simp at hS0); omega))); (try (have hT2 : wN.heap.size < wP.heap.size := (by have hS0 := hb1.size; (try simp at hS0); omega))); (try (have hT3 : wN.heap.size + 1 < wP.heap.size := (by have hS0 := hb1.size; (try simp at hS0); omega))); have hQ0a : w.heap.size < wP.heap.size + 1 := (by omega); have hQ0b : w.heap.size < wP.heap.size + 1 + 1 := (by omega); have hQ1a : g3 < wP.heap.size + 1 := (by omega); have hQ1b : g3 < wP.heap.size + 1 + 1 := (by omega); have hQ2a : g4 < wP.heap.size + 1 := (by omega); have hQ2b : g4 < wP.heap.size + 1 + 1 := (by omega); clear hb1))
          all_goals (go_wp2_with fail; go_meet; refine ⟨_, _, rfl, rfl, ?_, ?_, ?_, ?_, ?_, (by repeat' (first | (with_reducible exact Below.refl _ _) | (with_reducible assumption) | (with_reducible refine Below.alloc ?_ ?_ _) | (with_reducible refine Below.drew ?_) | (with_reducible refine below_drewN ?_ _) | (with_reducible refine Below.setCell ?_ ?_ _) | (with_reducible refine below_setRow' ?_ ?_ _) | go_size))⟩)
          all_goals go_simp
        case rest =>
          obtain ⟨g6, g7, rfl, rfl, k0, k3, k4, k6, k7, hB⟩ := hcut
          have hl0 := blk?_lt k0
          have hl3 := blk?_lt k3
          have hl4 := blk?_lt k4
          have hl6 := blk?_lt k6
          have hl7 := blk?_lt k7
          go_upto_region 11 with fail
          go_cut [44] (fun s44 wx => s44 = .bool false ∧ blk? wx w.heap.size = some (adr 16 (b) ⟨#[]⟩) ∧ blk? wx g3 = some (adr 16 (lst 16 (b)) ⟨#[]⟩) ∧ blk? wx g4 = some (adr 16 zb ⟨#[]⟩) ∧ blk? wx g6 = some (adr 16 cn ⟨#[]⟩) ∧ blk? wx g7 = some (adr 0 zb ⟨#[]⟩) ∧ Below w.heap.size w wx)
          case first =>
            go_region_held3 (fun w' => blk? w' (w.heap.size) = some (adr 16 (b) ⟨#[]⟩) ∧ blk? w' (g3) = some (adr 16 (lst 16 (b)) ⟨#[]⟩) ∧ blk? w' (g4) = some (adr 16 zb ⟨#[]⟩) ∧ blk? w' (g6) = some (adr 16 cn ⟨#[]⟩) ∧ blk? w' (g7) = some (adr 0 zb ⟨#[]⟩)) (first | (refine ⟨?_, ?_, ?_, ?_, ?_⟩ <;> go_simp)) (first
    | (go_at_call 53; (with_reducible refine (iIsValid_0 (b4 := b4) (o4 := o4) 0 (by omega) (by omega) zb Bt_zb _ _ ?_).mono ?_); (exact HG.out.g4.below (by repeat' (first | (with_reducible exact Below.refl _ _) | (with_reducible assumption) | (with_reducible refine Below.alloc ?_ ?_ _) | (with_reducible refine Below.drew ?_) | (with_reducible refine below_drewN ?_ _) | (with_reducible refine Below.setCell ?_ ?_ _) | (with_reducible refine below_setRow' ?_ ?_ _) | go_size)) (Nat.le_refl _)); rintro e w1 ⟨rfl, hb1⟩; have hk1 := blk?_below hb1; (try simp only [size_drew', size_drewN'] at hk1); have hB1 := below_via (w := w) (by repeat' (first | (with_reducible exact Below.refl _ _) | (with_reducible assumption) | (with_reducible refine Below.alloc ?_ ?_ _) | (with_reducible refine Below.drew ?_) | (with_reducible refine below_drewN ?_ _) | (with_reducible refine Below.setCell ?_ ?_ _) | (with_reducible refine below_setRow' ?_ ?_ _) | go_size)) hb1; have hL0 : w.heap.size < w1.heap.size := (by have hS0 := hb1.size; (try simp at hS0); omega); have hL1 : g3 < w1.heap.size := (by have hS0 := hb1.size; (try simp at hS0); omega); have hL2 : g4 < w1.heap.size := (by have hS0 := hb1.size; (try simp at hS0); omega); have hL3 : g6 < w1.heap.size := (by have hS0 := hb1.size; (try simp at hS0); omega); have hL4 : g7 < w1.heap.size := (by have hS0 := hb1.size; (try simp at hS0); omega); have hLe : w.heap.size ≤ w1.heap.size := hB1.size; clear hb1)
    | (go_at_call 53; (with_reducible refine (iIsValid_16 (b4 := b4) (o4 := o4) (b6 := b6) (o6 := o6) cn HCN.out _ ?_).mono ?_); (exact HG.out.below (by repeat' (first | (with_reducible exact Below.refl _ _) | (with_reducible assumption) | (with_reducible refine Below.alloc ?_ ?_ _) | (with_reducible refine Below.drew ?_) | (with_reducible refine below_drewN ?_ _) | (with_reducible refine Below.setCell ?_ ?_ _) | (with_reducible refine below_setRow' ?_ ?_ _) | go_size)) (Nat.le_refl _)); rintro e w1 ⟨rfl, hb1⟩; have hk1 := blk?_below hb1; (try simp only [size_drew', size_drewN'] at hk1); have hB1 := below_via (w := w) (by repeat' (first | (with_reducible exact Below.refl _ _) | (with_reducible assumption) | (with_reducible refine Below.alloc ?_ ?_ _) | (with_reducible refine Below.drew ?_) | (with_reducible refine below_drewN ?_ _) | (with_reducible refine Below.setCell ?_ ?_ _) | (with_reducible refine below_setRow' ?_ ?_ _) | go_size)) hb1; have hL0 : w.heap.size < w1.heap.size := (by have hS0 := hb1.size; (try simp at hS0); omega); have hL1 : g3 < w1.heap.size := (by have hS0 := hb1.size; (try simp at hS0); omega); have hL2 : g4 < w1.heap.size := (by have hS0 := hb1.size; (try simp at hS0); omega); have hL3 : g6 < w1.heap.size := (by have hS0 := hb1.size; (try simp at hS0); omega); have hL4 : g7 < w1.heap.size := (by have hS0 := hb1.size; (try simp at hS0); omega); have hLe : w.heap.size ≤ w1.heap.size := hB1.size; clear hb1))
            all_goals (go_wp2_with fail; go_meet; refine ⟨rfl, ?_, ?_, ?_, ?_, ?_, (by repeat' (first | (with_reducible exact Below.refl _ _) | (with_reducible assumption) | (with_reducible refine Below.alloc ?_ ?_ _) | (with_reducible refine Below.drew ?_) | (with_reducible refine below_drewN ?_ _) | (with_reducible refine Below.setCell ?_ ?_ _) | (with_reducible refine below_setRow' ?_ ?_ _) | go_size))⟩)
            all_goals go_simp
          case rest =>
            obtain ⟨rfl, k0, k3, k4, k6, k7, hB⟩ := hcut
            have hl0 := blk?_lt k0
            have hl3 := blk?_lt k3
            have hl4 := blk?_lt k4
            have hl6 := blk?_lt k6
            have hl7 := blk?_lt k7
            go_wp2_with fail
            refine wp_region_held_drew (S := fun w' => blk? w' (w.heap.size) = some (adr 16 (b) ⟨#[]⟩) ∧ blk? w' (g3) = some (adr 16 (lst 16 (b)) ⟨#[]⟩) ∧ blk? w' (g4) = some (adr 16 zb ⟨#[]⟩) ∧ blk? w' (g6) = some (adr 16 cn ⟨#[]⟩) ∧ blk? w' (g7) = some (adr 0 zb ⟨#[]⟩)) (by kernel_rfl) ?_ (fun hHeld0 => ?_)
            · ((try dsimp only); (refine ⟨?_, ?_, ?_, ?_, ?_⟩ <;> go_simp))
            refine wpAnyH_take (i := 0) (oi := _) (v := ?_) rfl (by kernel_rfl) (by kernel_rfl) (by kernel_rfl) (fun _ _ _ h => h) (Or.inl ⟨by rfl, ?_⟩) (by assumption) ?_
            rotate_left 1
            · (intro w hSw; (try dsimp only at hSw); (try simp only [List.getElem_toArray, List.getElem_cons_succ, List.getElem_cons_zero]); first | (go_simp; done) | (go_simp; with_reducible rfl))
            (try simp only [Act.put, List.setIfInBounds_toArray, List.set_cons_zero, List.set_cons_succ, List.getElem_toArray, List.getElem_cons_succ, List.getElem_cons_zero])
            refine wpAnyH_take (i := 1) (oi := _) (v := ?_) rfl (by kernel_rfl) (by kernel_rfl) (by kernel_rfl) (fun _ _ _ h => h) (Or.inl ⟨by rfl, ?_⟩) (by assumption) ?_
            rotate_left 1
            · (intro w hSw; (try dsimp only at hSw); (try simp only [List.getElem_toArray, List.getElem_cons_succ, List.getElem_cons_zero]); first | (go_simp; done) | (go_simp; with_reducible rfl))
            (try simp only [Act.put, List.setIfInBounds_toArray, List.set_cons_zero, List.set_cons_succ, List.getElem_toArray, List.getElem_cons_succ, List.getElem_cons_zero])
            refine wpAnyH_take (i := 2) (oi := _) (v := ?_) rfl (by kernel_rfl) (by kernel_rfl) (by kernel_rfl) (fun _ _ _ h => h) (Or.inl ⟨by rfl, ?_⟩) (by assumption) ?_
            rotate_left 1
            · (intro w hSw; (try dsimp only at hSw); (try simp only [List.getElem_toArray, List.getElem_cons_succ, List.getElem_cons_zero]); first | (go_simp; done) | (go_simp; with_reducible rfl))
            (try simp only [Act.put, List.setIfInBounds_toArray, List.set_cons_zero, List.set_cons_succ, List.getElem_toArray, List.getElem_cons_succ, List.getElem_cons_zero])
            refine wpAnyH_take (i := 3) (oi := _) (v := ?_) rfl (by kernel_rfl) (by kernel_rfl) (by kernel_rfl) (fun _ _ _ h => h) (Or.inl ⟨by rfl, ?_⟩) (by assumption) ?_
            rotate_left 1
            · (intro w hSw; (try dsimp only at hSw); (try simp only [List.getElem_toArray, List.getElem_cons_succ, List.getElem_cons_zero]); first | (go_simp; done) | (go_simp; with_reducible rfl))
            (try simp only [Act.put, List.setIfInBounds_toArray, List.set_cons_zero, List.set_cons_succ, List.getElem_toArray, List.getElem_cons_succ, List.getElem_cons_zero])
            refine wpAnyH_take (i := 4) (oi := _) (v := ?_) rfl (by kernel_rfl) (by kernel_rfl) (by kernel_rfl) (fun _ _ _ h => h) (Or.inl ⟨by rfl, ?_⟩) (by assumption) ?_
            rotate_left 1
            · (intro w hSw; (try dsimp only at hSw); (try simp only [List.getElem_toArray, List.getElem_cons_succ, List.getElem_cons_zero]); first | (go_simp; done) | (go_simp; with_reducible rfl))
            (try simp only [Act.put, List.setIfInBounds_toArray, List.set_cons_zero, List.set_cons_succ, List.getElem_toArray, List.getElem_cons_succ, List.getElem_cons_zero])
            refine wpAnyH_take (i := 6) (oi := _) (v := ?_) rfl (by kernel_rfl) (by kernel_rfl) (by kernel_rfl) (fun _ _ _ h => h) (Or.inl ⟨by rfl, ?_⟩) (by assumption) ?_
            rotate_left 1
            · (intro w hSw; (try dsimp only at hSw); (try simp only [List.getElem_toArray, List.getElem_cons_succ, List.getElem_cons_zero]); first | (go_simp; done) | (go_simp; with_reducible rfl))
            (try simp only [Act.put, List.setIfInBounds_toArray, List.set_cons_zero, List.set_cons_succ, List.getElem_toArray, List.getElem_cons_succ, List.getElem_cons_zero])
            refine wpAnyH_ready (rs := [5]) (by kernel_rfl) (by simp) (AllReadyH.cons rfl (fun K hK => ?_) AllReadyH.nil)
            go_simp
            go_wp2_with (first
              | (go_at_call 39; (with_reducible refine (HNP.out _ ?_).mono ?_); (exact HG.out.below (by repeat' (first | (with_reducible exact Below.refl _ _) | (with_reducible assumption) | (with_reducible refine Below.alloc ?_ ?_ _) | (with_reducible refine Below.drew ?_) | (with_reducible refine below_drewN ?_ _) | (with_reducible refine Below.setCell ?_ ?_ _) | (with_reducible refine below_setRow' ?_ ?_ _) | go_size)) (Nat.le_refl _)); rintro e w1 ⟨rfl, hb1⟩; have hk1 := blk?_below hb1; (try simp only [size_drew', size_drewN'] at hk1); have hB1 := below_via (w := w) (by repeat' (first | (with_reducible exact Below.refl _ _) | (with_reducible assumption) | (with_reducible refine Below.alloc ?_ ?_ _) | (with_reducible refine Below.drew ?_) | (with_reducible refine below_drewN ?_ _) | (with_reducible refine Below.setCell ?_ ?_ _) | (with_reducible refine below_setRow' ?_ ?_ _) | go_size)) hb1; have hL0 : w.heap.size < w1.heap.size := (by have hS0 := hb1.size; (try simp at hS0); omega); have hL1 : g3 < w1.heap.size := (by have hS0 := hb1.size; (try simp at hS0); omega); have hL2 : g4 < w1.heap.size := (by have hS0 := hb1.size; (try simp at hS0); omega); have hL3 : g6 < w1.heap.size := (by have hS0 := hb1.size; (try simp at hS0); omega); have hL4 : g7 < w1.heap.size := (by have hS0 := hb1.size; (try simp at hS0); omega); have hLe : w.heap.size ≤ w1.heap.size := hB1.size; clear hb1))
            refine hK.out _ _ ?_ (fun hHeld1 => ?_)
            · ((try dsimp only); (refine ⟨?_, ?_, ?_, ?_, ?_⟩ <;> go_simp))
            clear hK K hHeld0
            (try simp only [Act.put, List.setIfInBounds_toArray, List.set_cons_zero, List.set_cons_succ, List.getElem_toArray, List.getElem_cons_succ, List.getElem_cons_zero])
            refine wpAnyH_take (i := 7) (oi := _) (v := ?_) rfl (by kernel_rfl) (by kernel_rfl) (by kernel_rfl) (fun _ _ _ h => h) (Or.inl ⟨by rfl, ?_⟩) (by assumption) ?_
            rotate_left 1
            · (intro w hSw; (try dsimp only at hSw); (try simp only [List.getElem_toArray, List.getElem_cons_succ, List.getElem_cons_zero]); first | (go_simp; done) | (go_simp; with_reducible rfl))
            (try simp only [Act.put, List.setIfInBounds_toArray, List.set_cons_zero, List.set_cons_succ, List.getElem_toArray, List.getElem_cons_succ, List.getElem_cons_zero])
            refine wpAnyH_take (i := 8) (oi := _) (v := ?_) rfl (by kernel_rfl) (by kernel_rfl) (by kernel_rfl) (fun _ _ _ h => h) (Or.inl ⟨by rfl, ?_⟩) (by assumption) ?_
            rotate_left 1
            · (intro w hSw; (try dsimp only at hSw); (try simp only [List.getElem_toArray, List.getElem_cons_succ, List.getElem_cons_zero]); first | (go_simp; done) | (go_simp; with_reducible rfl))
            (try simp only [Act.put, List.setIfInBounds_toArray, List.set_cons_zero, List.set_cons_succ, List.getElem_toArray, List.getElem_cons_succ, List.getElem_cons_zero])
            refine wpAnyH_take (i := 9) (oi := _) (v := ?_) rfl (by kernel_rfl) (by kernel_rfl) (by kernel_rfl) (fun _ _ _ h => h) (Or.inl ⟨by rfl, ?_⟩) (by assumption) ?_
            rotate_left 1
            · (intro w hSw; (try dsimp only at hSw); (try simp only [List.getElem_toArray, List.getElem_cons_succ, List.getElem_cons_zero]); first | (go_simp; done) | (go_simp; with_reducible rfl))
            (try simp only [Act.put, List.setIfInBounds_toArray, List.set_cons_zero, List.set_cons_succ, List.getElem_toArray, List.getElem_cons_succ, List.getElem_cons_zero])
            refine wpAnyH_take (i := 10) (oi := _) (v := ?_) rfl (by kernel_rfl) (by kernel_rfl) (by kernel_rfl) (fun _ _ _ h => h) (Or.inl ⟨by rfl, ?_⟩) (by assumption) ?_
            rotate_left 1
            · (intro w hSw; (try dsimp only at hSw); (try simp only [List.getElem_toArray, List.getElem_cons_succ, List.getElem_cons_zero]); first | (go_simp; done) | (go_simp; with_reducible rfl))
            (try simp only [Act.put, List.setIfInBounds_toArray, List.set_cons_zero, List.set_cons_succ, List.getElem_toArray, List.getElem_cons_succ, List.getElem_cons_zero])
            refine wpAnyH_take (i := 11) (oi := _) (v := ?_) rfl (by kernel_rfl) (by kernel_rfl) (by kernel_rfl) (fun _ _ _ h => h) (Or.inl ⟨by rfl, ?_⟩) (by assumption) ?_
            rotate_left 1
            · (intro w hSw; (try dsimp only at hSw); (try simp only [List.getElem_toArray, List.getElem_cons_succ, List.getElem_cons_zero]); first | (go_simp; done) | (go_simp; with_reducible rfl))
            (try simp only [Act.put, List.setIfInBounds_toArray, List.set_cons_zero, List.set_cons_succ, List.getElem_toArray, List.getElem_cons_succ, List.getElem_cons_zero])
            refine wpAnyH_take (i := 12) (oi := _) (v := ?_) rfl (by kernel_rfl) (by kernel_rfl) (by kernel_rfl) (fun _ _ _ h => h) (Or.inl ⟨by rfl, ?_⟩) (by assumption) ?_
            rotate_left 1
            · (intro w hSw; (try dsimp only at hSw); (try simp only [List.getElem_toArray, List.getElem_cons_succ, List.getElem_cons_zero]); first | (go_simp; done) | (go_simp; with_reducible rfl))
            (try simp only [Act.put, List.setIfInBounds_toArray, List.set_cons_zero, List.set_cons_succ, List.getElem_toArray, List.getElem_cons_succ, List.getElem_cons_zero])
            refine wpAnyH_take (i := 13) (oi := _) (v := ?_) rfl (by kernel_rfl) (by kernel_rfl) (by kernel_rfl) (fun _ _ _ h => h) (Or.inl ⟨by rfl, ?_⟩) (by assumption) ?_
            rotate_left 1
            · (intro w hSw; (try dsimp only at hSw); (try simp only [List.getElem_toArray, List.getElem_cons_succ, List.getElem_cons_zero]); first | (go_simp; done) | (go_simp; with_reducible rfl))
            (try simp only [Act.put, List.setIfInBounds_toArray, List.set_cons_zero, List.set_cons_succ, List.getElem_toArray, List.getElem_cons_succ, List.getElem_cons_zero])
            refine wpAnyH_take (i := 14) (oi := _) (v := undef) rfl (by kernel_rfl) (by kernel_rfl) (by kernel_rfl) (fun _ _ _ h => h) (Or.inr ⟨by rfl, rfl⟩) (by assumption) ?_
            (try simp only [Act.put, List.setIfInBounds_toArray, List.set_cons_zero, List.set_cons_succ, List.getElem_toArray, List.getElem_cons_succ, List.getElem_cons_zero])
            refine wpAnyH_take (i := 16) (oi := _) (v := undef) rfl (by kernel_rfl) (by kernel_rfl) (by kernel_rfl) (fun _ _ _ h => h) (Or.inr ⟨by rfl, rfl⟩) (by assumption) ?_
            (try simp only [Act.put, List.setIfInBounds_toArray, List.set_cons_zero, List.set_cons_succ, List.getElem_toArray, List.getElem_cons_succ, List.getElem_cons_zero])
            refine wpAnyH_ready (rs := [15]) (by kernel_rfl) (by simp) (AllReadyH.cons rfl (fun K hK => ?_) AllReadyH.nil)
            go_simp
            refine hK.out _ _ ?_ (fun hHeld2 => ?_)
            · ((try dsimp only); (refine ⟨?_, ?_, ?_, ?_, ?_⟩ <;> go_simp))
            clear hK K hHeld1
            (try simp only [Act.put, List.setIfInBounds_toArray, List.set_cons_zero, List.set_cons_succ, List.getElem_toArray, List.getElem_cons_succ, List.getElem_cons_zero])
            refine wpAnyH_take (i := 17) (oi := _) (v := undef) rfl (by kernel_rfl) (by kernel_rfl) (by kernel_rfl) (fun _ _ _ h => h) (Or.inr ⟨by rfl, rfl⟩) (by assumption) ?_
            (try simp only [Act.put, List.setIfInBounds_toArray, List.set_cons_zero, List.set_cons_succ, List.getElem_toArray, List.getElem_cons_succ, List.getElem_cons_zero])
            refine wpAnyH_take (i := 18) (oi := _) (v := ?_) rfl (by kernel_rfl) (by kernel_rfl) (by kernel_rfl) (fun _ _ _ h => h) (Or.inl ⟨by rfl, ?_⟩) (by assumption) ?_
            rotate_left 1
            · (intro w hSw; (try dsimp only at hSw); (try simp only [List.getElem_toArray, List.getElem_cons_succ, List.getElem_cons_zero]); first | (go_simp; done) | (go_simp; with_reducible rfl))
            (try simp only [Act.put, List.setIfInBounds_toArray, List.set_cons_zero, List.set_cons_succ, List.getElem_toArray, List.getElem_cons_succ, List.getElem_cons_zero])
            refine wpAnyH_take (i := 19) (oi := _) (v := ?_) rfl (by kernel_rfl) (by kernel_rfl) (by kernel_rfl) (fun _ _ _ h => h) (Or.inl ⟨by rfl, ?_⟩) (by assumption) ?_
            rotate_left 1
            · (intro w hSw; (try dsimp only at hSw); (try simp only [List.getElem_toArray, List.getElem_cons_succ, List.getElem_cons_zero]); first | (go_simp; done) | (go_simp; with_reducible rfl))
            (try simp only [Act.put, List.setIfInBounds_toArray, List.set_cons_zero, List.set_cons_succ, List.getElem_toArray, List.getElem_cons_succ, List.getElem_cons_zero])
            refine wpAnyH_take (i := 20) (oi := _) (v := ?_) rfl (by kernel_rfl) (by kernel_rfl) (by kernel_rfl) (fun _ _ _ h => h) (Or.inl ⟨by rfl, ?_⟩) (by assumption) ?_
            rotate_left 1
            · (intro w hSw; (try dsimp only at hSw); (try simp only [List.getElem_toArray, List.getElem_cons_succ, List.getElem_cons_zero]); first | (go_simp; done) | (go_simp; with_reducible rfl))
            (try simp only [Act.put, List.setIfInBounds_toArray, List.set_cons_zero, List.set_cons_succ, List.getElem_toArray, List.getElem_cons_succ, List.getElem_cons_zero])
            refine wpAnyH_done (by kernel_rfl) ?_ _
            all_goals (go_wp2; go_ret; exact ⟨rfl, (by repeat' (first | (with_reducible exact Below.refl _ _) | (with_reducible assumption) | (with_reducible refine Below.alloc ?_ ?_ _) | (with_reducible refine Below.drew ?_) | (with_reducible refine below_drewN ?_ _) | (with_reducible refine Below.setCell ?_ ?_ _) | (with_reducible refine below_setRow' ?_ ?_ _) | go_size))⟩)
set_option maxHeartbeats 4000000 in
set_option maxRecDepth 100000 in
theorem law12_16C (b cn cp : Nat → Int) (z : ByteArray) (hcn : Bt cn) (hcp : Bt cp) {b4 o4 b6 o6 : Nat} (w : World) (hg : Gl b4 o4 b6 o6 w) (hN : ∀ w, Gl b4 o4 b6 o6 w → Calls Tryd.prog 41 #[.agg (adr 16 (b) ⟨#[]⟩)] w fun e w' => e = .returned (.agg (adr 16 cn ⟨#[]⟩)) ∧ Below w.heap.size w w') (hP : ∀ w, Gl b4 o4 b6 o6 w → Calls Tryd.prog 39 #[.agg (adr 16 (b) ⟨#[]⟩)] w fun e w' => e = .returned (.agg (adr 16 cp ⟨#[]⟩)) ∧ Below w.heap.size w w') (hNP : ∀ w, Gl b4 o4 b6 o6 w → Calls Tryd.prog 39 #[.agg (adr 16 cn ⟨#[]⟩)] w fun e w' => e = .returned (.agg (adr 16 (b) ⟨#[]⟩)) ∧ Below w.heap.size w w') (hPN : ∀ w, Gl b4 o4 b6 o6 w → Calls Tryd.prog 41 #[.agg (adr 16 cp ⟨#[]⟩)] w fun e w' => e = .returned (.agg (adr 16 (b) ⟨#[]⟩)) ∧ Below w.heap.size w w')
    (hL : adrEq 16 (b) ⟨#[]⟩ 16 (lst 16 (b)) ⟨#[]⟩ = false) (hF : adrEq 16 (b) ⟨#[]⟩ 16 zb ⟨#[]⟩ = false) :
    Calls Tryd.prog 12 #[.agg (adr 16 b z)] w fun e w' => e = .returned (.bool true) ∧ Below w.heap.size w w' := by
  have HG := Lib.hid hg
  have HCN := Lib.hid hcn
  have HCP := Lib.hid hcp
  have HN := Lib.hid hN
  have HP := Lib.hid hP
  have HNP := Lib.hid hNP
  have HPN := Lib.hid hPN
  have hEC : adrEq 16 (b) ⟨#[]⟩ 16 (b) ⟨#[]⟩ = true := (adrEq_iff _ _ _ _ _ _).2 ⟨rfl, fun _ _ => rfl, rfl⟩
  clear hg hcn hcp hN hP hNP hPN
  go_enter Tryd.func12, Tryd.ntmps12
  go_upto_region 4 with (first
    | (go_at_call 52; (with_reducible refine (bare_16 _ _ _).mono ?_); rintro e w1 ⟨rfl, hb1⟩; have hk1 := blk?_below hb1; (try simp only [size_drew', size_drewN'] at hk1); have hB1 := below_via (w := w) (by repeat' (first | (with_reducible exact Below.refl _ _) | (with_reducible assumption) | (with_reducible refine Below.alloc ?_ ?_ _) | (with_reducible refine Below.drew ?_) | (with_reducible refine below_drewN ?_ _) | (with_reducible refine Below.setCell ?_ ?_ _) | (with_reducible refine below_setRow' ?_ ?_ _) | go_size)) hb1; have hL0 : w.heap.size < w1.heap.size := (by have hS0 := hb1.size; (try simp at hS0); omega); have hLe : w.heap.size ≤ w1.heap.size := hB1.size; clear hb1)
    | (go_at_call 36; (with_reducible refine (valid_16 _ _ _).mono ?_); rintro e w1 ⟨rfl, hb1⟩; have hk1 := blk?_below hb1; (try simp only [size_drew', size_drewN'] at hk1); have hB1 := below_via (w := w) (by repeat' (first | (with_reducible exact Below.refl _ _) | (with_reducible assumption) | (with_reducible refine Below.alloc ?_ ?_ _) | (with_reducible refine Below.drew ?_) | (with_reducible refine below_drewN ?_ _) | (with_reducible refine Below.setCell ?_ ?_ _) | (with_reducible refine below_setRow' ?_ ?_ _) | go_size)) hb1; have hL0 : w.heap.size < w1.heap.size := (by have hS0 := hb1.size; (try simp at hS0); omega); have hLe : w.heap.size ≤ w1.heap.size := hB1.size; clear hb1))
  go_cut [3, 4] (fun s3 s4 wx => ∃ g3 g4 : Nat, s3 = .pointer (some ⟨g3, 0, none⟩) ∧ s4 = .pointer (some ⟨g4, 0, none⟩) ∧ w.heap.size < g3 ∧ w.heap.size < g4 ∧ g3 ≠ g4 ∧ blk? wx w.heap.size = some (adr 16 (b) ⟨#[]⟩) ∧ blk? wx g3 = some (adr 16 (b) ⟨#[]⟩) ∧ blk? wx g4 = some (adr 16 zb ⟨#[]⟩) ∧ Below w.heap.size w wx)
  case first =>
    have k0 : blk? w1 w.heap.size = some (adr 16 (b) ⟨#[]⟩) := by go_simp
    have hc0 : w1.cell? ⟨w.heap.size, 0, none⟩ = some (.int .i64 16) := by rw [blk?_cell k0]; rfl
    clear hk1
    have hQ0a : w.heap.size < w1.heap.size + 1 := by omega
    have hQ0b : w.heap.size < w1.heap.size + 1 + 1 := by omega
    go_region_held3 (fun w' => blk? w' (w.heap.size) = some (adr 16 (b) ⟨#[]⟩) ∧ w'.cell? ⟨w.heap.size, 0, none⟩ = some (.int .i64 16)) (first | (refine ⟨?_, ?_⟩ <;> (first | go_simp | go_simp))) (first
    | (go_at_call 47; (with_reducible refine (lsame_16 _ _ _).mono ?_); rintro e wS ⟨rfl, hb1⟩; have hk1 := blk?_below hb1; (try simp only [size_drew', size_drewN'] at hk1); have hB1 := below_via (w := w) (by repeat' (first | (with_reducible exact Below.refl _ _) | (with_reducible assumption) | (with_reducible refine Below.alloc ?_ ?_ _) | (with_reducible refine Below.drew ?_) | (with_reducible refine below_drewN ?_ _) | (with_reducible refine Below.setCell ?_ ?_ _) | (with_reducible refine below_setRow' ?_ ?_ _) | go_size)) hb1; have hL0 : w.heap.size < wS.heap.size := (by have hS0 := hb1.size; (try simp at hS0); omega); have hLe : w.heap.size ≤ wS.heap.size := hB1.size; obtain ⟨hc1, hf1⟩ := bcell hb1; (try simp only [size_drew', size_drewN'] at hc1); (try simp only [size_drew', size_drewN'] at hf1); have hS9 := hb1.size; (try simp [Nat.add_one_le_iff] at hS9); (try (have hS8 := Nat.lt_of_succ_lt hS9)); have hQ0a : w.heap.size < wS.heap.size + 1 := (by omega); have hQ0b : w.heap.size < wS.heap.size + 1 + 1 := (by omega); clear hb1)
    | fail)
    all_goals (go_wp2_with fail; go_meet; refine ⟨_, _, rfl, rfl, ?_, ?_, ?_, ?_, ?_, ?_, (by repeat' (first | (with_reducible exact Below.refl _ _) | (with_reducible assumption) | (with_reducible refine Below.alloc ?_ ?_ _) | (with_reducible refine Below.drew ?_) | (with_reducible refine below_drewN ?_ _) | (with_reducible refine Below.setCell ?_ ?_ _) | (with_reducible refine below_setRow' ?_ ?_ _) | go_size))⟩)
    all_goals (first | omega | go_simp)
  case rest =>
    obtain ⟨g3, g4, rfl, rfl, hg3, hg4, hne, k0, k3, k4, hB⟩ := hcut
    have hc0 : wc.cell? ⟨w.heap.size, 0, none⟩ = some (.int .i64 16) := by rw [blk?_cell k0]; rfl
    go_wp2
    go_loopw [20, 5] (fun i v5 wr => ∃ k : Nat, k ≤ 16 ∧ i = .int .i64 k ∧ blk? wr w.heap.size = some (adr 16 (b) ⟨#[]⟩) ∧ blk? wr g3 = some (adr 16 (lst k (b)) ⟨#[]⟩) ∧ blk? wr g4 = some (adr 16 zb ⟨#[]⟩) ∧ Below w.heap.size w wr) (fun i _ _ => 16 - (intOf i).toNat)
    case atStart => exact ⟨0, by omega, rfl, k0, by rw [lst_zero]; exact k3, k4, hB⟩
    case round =>
      obtain ⟨k, hk, rfl, k0, k3, k4, hB⟩ := hrel
      have hl0 := blk?_lt k0
      have hl3 := blk?_lt k3
      have hl4 := blk?_lt k4
      by_cases hlt : k < 16
      · have h16 : k < 16 := by omega
        have hi0 : (0 : Int) ≤ (k : Int) := by omega
        have hi1 : (k : Int) < 16 := by omega
        have hi2 : (k : Int) < 16 := by omega
        have hld : wr.cell? ⟨g3, 1 + k, none⟩ = some (.int .u8 (lst k (b) k)) := by rw [blk?_cell k3, adr_byte' _ _ _ _ h16]
        have hfz : wr.frozen? ⟨g3, 1 + k, none⟩ = false := blk?_frozen k3 _
        go_wp2
        go_roundw
        case rel => exact ⟨k + 1, by omega, by go_num, by rw [blk?_setOther _ _ _ _ (by show _ ≠ g3; omega)]; exact k0, by rw [blk?_setSame, k3, Option.map_some, adr_set' _ _ _ _ _ h16, lst_succ], by rw [blk?_setOther _ _ _ _ (by show _ ≠ g3; omega)]; exact k4, (by repeat' (first | (with_reducible exact Below.refl _ _) | (with_reducible assumption) | (with_reducible refine Below.alloc ?_ ?_ _) | (with_reducible refine Below.drew ?_) | (with_reducible refine below_drewN ?_ _) | (with_reducible refine Below.setCell ?_ ?_ _) | (with_reducible refine below_setRow' ?_ ?_ _) | go_size))⟩
        case measure => simp [intOf]; omega
      · obtain rfl : k = 16 := by omega
        have hQ0a : w.heap.size < wr.heap.size + 1 := by omega
        have hQ0b : w.heap.size < wr.heap.size + 1 + 1 := by omega
        have hQ3a : g3 < wr.heap.size + 1 := by omega
        have hQ3b : g3 < wr.heap.size + 1 + 1 := by omega
        have hQ4a : g4 < wr.heap.size + 1 := by omega
        have hQ4b : g4 < wr.heap.size + 1 + 1 := by omega
        go_upto_region 10 with fail
        go_cut [6, 7] (fun s6 s7 wx => ∃ g6 g7 : Nat, s6 = .pointer (some ⟨g6, 0, none⟩) ∧ s7 = .pointer (some ⟨g7, 0, none⟩) ∧ blk? wx w.heap.size = some (adr 16 (b) ⟨#[]⟩) ∧ blk? wx g3 = some (adr 16 (lst 16 (b)) ⟨#[]⟩) ∧ blk? wx g4 = some (adr 16 zb ⟨#[]⟩) ∧ blk? wx g6 = some (adr 16 cn ⟨#[]⟩) ∧ blk? wx g7 = some (adr 16 cp ⟨#[]⟩) ∧ Below w.heap.size w wx)
        case first =>
          go_region_held3 (fun w' => blk? w' (w.heap.size) = some (adr 16 (b) ⟨#[]⟩) ∧ blk? w' (g3) = some (adr 16 (lst 16 (b)) ⟨#[]⟩) ∧ blk? w' (g4) = some (adr 16 zb ⟨#[]⟩)) (first | (refine ⟨?_, ?_, ?_⟩ <;> go_simp)) (first
    | (go_at_call 41; (with_reducible refine (HN.out _ ?_).mono ?_); (exact HG.out.below (by repeat' (first | (with_reducible exact Below.refl _ _) | (with_reducible assumption) | (with_reducible refine Below.alloc ?_ ?_ _) | (with_reducible refine Below.drew ?_) | (with_reducible refine below_drewN ?_ _) | (with_reducible refine Below.setCell ?_ ?_ _) | (with_reducible refine below_setRow' ?_ ?_ _) | go_size)) (Nat.le_refl _)); rintro e wN ⟨rfl, hb1⟩; have hk1 := blk?_below hb1; (try simp only [size_drew', size_drewN'] at hk1); have hB1 := below_via (w := w) (by repeat' (first | (with_reducible exact Below.refl _ _) | (with_reducible assumption) | (with_reducible refine Below.alloc ?_ ?_ _) | (with_reducible refine Below.drew ?_) | (with_reducible refine below_drewN ?_ _) | (with_reducible refine Below.setCell ?_ ?_ _) | (with_reducible refine below_setRow' ?_ ?_ _) | go_size)) hb1; have hL0 : w.heap.size < wN.heap.size := (by have hS0 := hb1.size; (try simp at hS0); omega); have hL1 : g3 < wN.heap.size := (by have hS0 := hb1.size; (try simp at hS0); omega); have hL2 : g4 < wN.heap.size := (by have hS0 := hb1.size; (try simp at hS0); omega); have hLe : w.heap.size ≤ wN.heap.size := hB1.size; (try (have hT0 : wr.heap.size < wN.heap.size := (by have hS0 := hb1.size; (try simp at hS0); omega))); (try (have hT1 : wr.heap.size + 1 < wN.heap.size := (by have hS0 := hb1.size; (try simp at hS0); omega))); have hQ0a : w.heap.size < wN.heap.size + 1 := (by omega); have hQ0b : w.heap.size < wN.heap.size + 1 + 1 := (by omega); have hQ1a : g3 < wN.heap.size + 1 := (by omega); have hQ1b : g3 < wN.heap.size + 1 + 1 := (by omega); have hQ2a : g4 < wN.heap.size + 1 := (by omega); have hQ2b : g4 < wN.heap.size + 1 + 1 := (by omega); clear hb1)
    | (go_at_call 39; (with_reducible refine (HP.out _ ?_).mono ?_); (exact HG.out.below (by repeat' (first | (with_reducible exact Below.refl _ _) | (with_reducible assumption) | (with_reducible refine Below.alloc ?_ ?_ _) | (with_reducible refine Below.drew ?_) | (with_reducible refine below_drewN ?_ _) | (with_reducible refine Below.setCell ?_ ?_ _) | (with_reducible refine below_setRow' ?_ ?_ _) | go_size)) (Nat.le_refl _)); rintro e wP ⟨rfl, hb1⟩; have hk1 := blk?_below hb1; (try simp only [size_drew', size_drewN'] at hk1); have hB1 := below_via (w := w) (by repeat' (first | (with_reducible exact Below.refl _ _) | (with_reducible assumption) | (with_reducible refine Below.alloc ?_ ?_ _) | (with_reducible refine Below.drew ?_) | (with_reducible refine below_drewN ?_ _) | (with_reducible refine Below.setCell ?_ ?_ _) | (with_reducible refine below_setRow' ?_ ?_ _) | go_size)) hb1; have hL0 : w.heap.size < wP.heap.size := (by have hS0 := hb1.size; (try simp at hS0); omega); have hL1 : g3 < wP.heap.size := (by have hS0 := hb1.size; (try simp at hS0); omega); have hL2 : g4 < wP.heap.size := (by have hS0 := hb1.size; (try simp at hS0); omega); have hLe : w.heap.size ≤ wP.heap.size := hB1.size; (try (have hT0 : wr.heap.size < wP.heap.size := (by have hS0 := hb1.size; (try simp at hS0); omega))); (try (have hT1 : wr.heap.size + 1 < wP.heap.size := (by have hS0 := hb1.size; (try simp at hS0); omega))); (try (have hT2 : wN.heap.size < wP.heap.size := (by have hS0 := hb1.size; (try simp at hS0); omega))); (try (have hT3 : wN.heap.size + 1 < wP.heap.size := (by have hS0 := hb1.size; (try simp at hS0); omega))); have hQ0a : w.heap.size < wP.heap.size + 1 := (by omega); have hQ0b : w.heap.size < wP.heap.size + 1 + 1 := (by omega); have hQ1a : g3 < wP.heap.size + 1 := (by omega); have hQ1b : g3 < wP.heap.size + 1 + 1 := (by omega); have hQ2a : g4 < wP.heap.size + 1 := (by omega); have hQ2b : g4 < wP.heap.size + 1 + 1 := (by omega); clear hb1))
          all_goals (go_wp2_with fail; go_meet; refine ⟨_, _, rfl, rfl, ?_, ?_, ?_, ?_, ?_, (by repeat' (first | (with_reducible exact Below.refl _ _) | (with_reducible assumption) | (with_reducible refine Below.alloc ?_ ?_ _) | (with_reducible refine Below.drew ?_) | (with_reducible refine below_drewN ?_ _) | (with_reducible refine Below.setCell ?_ ?_ _) | (with_reducible refine below_setRow' ?_ ?_ _) | go_size))⟩)
          all_goals go_simp
        case rest =>
          obtain ⟨g6, g7, rfl, rfl, k0, k3, k4, k6, k7, hB⟩ := hcut
          have hl0 := blk?_lt k0
          have hl3 := blk?_lt k3
          have hl4 := blk?_lt k4
          have hl6 := blk?_lt k6
          have hl7 := blk?_lt k7
          go_upto_region 11 with fail
          go_cut [44] (fun s44 wx => s44 = .bool false ∧ blk? wx w.heap.size = some (adr 16 (b) ⟨#[]⟩) ∧ blk? wx g3 = some (adr 16 (lst 16 (b)) ⟨#[]⟩) ∧ blk? wx g4 = some (adr 16 zb ⟨#[]⟩) ∧ blk? wx g6 = some (adr 16 cn ⟨#[]⟩) ∧ blk? wx g7 = some (adr 16 cp ⟨#[]⟩) ∧ Below w.heap.size w wx)
          case first =>
            go_region_held3 (fun w' => blk? w' (w.heap.size) = some (adr 16 (b) ⟨#[]⟩) ∧ blk? w' (g3) = some (adr 16 (lst 16 (b)) ⟨#[]⟩) ∧ blk? w' (g4) = some (adr 16 zb ⟨#[]⟩) ∧ blk? w' (g6) = some (adr 16 cn ⟨#[]⟩) ∧ blk? w' (g7) = some (adr 16 cp ⟨#[]⟩)) (first | (refine ⟨?_, ?_, ?_, ?_, ?_⟩ <;> go_simp)) (first
    | (go_at_call 53; (with_reducible refine (iIsValid_16 (b4 := b4) (o4 := o4) (b6 := b6) (o6 := o6) cn HCN.out _ ?_).mono ?_); (exact HG.out.below (by repeat' (first | (with_reducible exact Below.refl _ _) | (with_reducible assumption) | (with_reducible refine Below.alloc ?_ ?_ _) | (with_reducible refine Below.drew ?_) | (with_reducible refine below_drewN ?_ _) | (with_reducible refine Below.setCell ?_ ?_ _) | (with_reducible refine below_setRow' ?_ ?_ _) | go_size)) (Nat.le_refl _)); rintro e w1 ⟨rfl, hb1⟩; have hk1 := blk?_below hb1; (try simp only [size_drew', size_drewN'] at hk1); have hB1 := below_via (w := w) (by repeat' (first | (with_reducible exact Below.refl _ _) | (with_reducible assumption) | (with_reducible refine Below.alloc ?_ ?_ _) | (with_reducible refine Below.drew ?_) | (with_reducible refine below_drewN ?_ _) | (with_reducible refine Below.setCell ?_ ?_ _) | (with_reducible refine below_setRow' ?_ ?_ _) | go_size)) hb1; have hL0 : w.heap.size < w1.heap.size := (by have hS0 := hb1.size; (try simp at hS0); omega); have hL1 : g3 < w1.heap.size := (by have hS0 := hb1.size; (try simp at hS0); omega); have hL2 : g4 < w1.heap.size := (by have hS0 := hb1.size; (try simp at hS0); omega); have hL3 : g6 < w1.heap.size := (by have hS0 := hb1.size; (try simp at hS0); omega); have hL4 : g7 < w1.heap.size := (by have hS0 := hb1.size; (try simp at hS0); omega); have hLe : w.heap.size ≤ w1.heap.size := hB1.size; clear hb1)
    | (go_at_call 53; (with_reducible refine (iIsValid_16 (b4 := b4) (o4 := o4) (b6 := b6) (o6 := o6) cp HCP.out _ ?_).mono ?_); (exact HG.out.below (by repeat' (first | (with_reducible exact Below.refl _ _) | (with_reducible assumption) | (with_reducible refine Below.alloc ?_ ?_ _) | (with_reducible refine Below.drew ?_) | (with_reducible refine below_drewN ?_ _) | (with_reducible refine Below.setCell ?_ ?_ _) | (with_reducible refine below_setRow' ?_ ?_ _) | go_size)) (Nat.le_refl _)); rintro e w1 ⟨rfl, hb1⟩; have hk1 := blk?_below hb1; (try simp only [size_drew', size_drewN'] at hk1); have hB1 := below_via (w := w) (by repeat' (first | (with_reducible exact Below.refl _ _) | (with_reducible assumption) | (with_reducible refine Below.alloc ?_ ?_ _) | (with_reducible refine Below.drew ?_) | (with_reducible refine below_drewN ?_ _) | (with_reducible refine Below.setCell ?_ ?_ _) | (with_reducible refine below_setRow' ?_ ?_ _) | go_size)) hb1; have hL0 : w.heap.size < w1.heap.size := (by have hS0 := hb1.size; (try simp at hS0); omega); have hL1 : g3 < w1.heap.size := (by have hS0 := hb1.size; (try simp at hS0); omega); have hL2 : g4 < w1.heap.size := (by have hS0 := hb1.size; (try simp at hS0); omega); have hL3 : g6 < w1.heap.size := (by have hS0 := hb1.size; (try simp at hS0); omega); have hL4 : g7 < w1.heap.size := (by have hS0 := hb1.size; (try simp at hS0); omega); have hLe : w.heap.size ≤ w1.heap.size := hB1.size; clear hb1))
            all_goals (go_wp2_with fail; go_meet; refine ⟨rfl, ?_, ?_, ?_, ?_, ?_, (by repeat' (first | (with_reducible exact Below.refl _ _) | (with_reducible assumption) | (with_reducible refine Below.alloc ?_ ?_ _) | (with_reducible refine Below.drew ?_) | (with_reducible refine below_drewN ?_ _) | (with_reducible refine Below.setCell ?_ ?_ _) | (with_reducible refine below_setRow' ?_ ?_ _) | go_size))⟩)
            all_goals go_simp
          case rest =>
            obtain ⟨rfl, k0, k3, k4, k6, k7, hB⟩ := hcut
            have hl0 := blk?_lt k0
            have hl3 := blk?_lt k3
            have hl4 := blk?_lt k4
            have hl6 := blk?_lt k6
            have hl7 := blk?_lt k7
            go_wp2_with fail
            go_region_held3 (fun w' => blk? w' (w.heap.size) = some (adr 16 (b) ⟨#[]⟩) ∧ blk? w' (g3) = some (adr 16 (lst 16 (b)) ⟨#[]⟩) ∧ blk? w' (g4) = some (adr 16 zb ⟨#[]⟩) ∧ blk? w' (g6) = some (adr 16 cn ⟨#[]⟩) ∧ blk? w' (g7) = some (adr 16 cp ⟨#[]⟩)) (first | (refine ⟨?_, ?_, ?_, ?_, ?_⟩ <;> go_simp)) (first
    | (go_at_call 39; (with_reducible refine (HNP.out _ ?_).mono ?_); (exact HG.out.below (by repeat' (first | (with_reducible exact Below.refl _ _) | (with_reducible assumption) | (with_reducible refine Below.alloc ?_ ?_ _) | (with_reducible refine Below.drew ?_) | (with_reducible refine below_drewN ?_ _) | (with_reducible refine Below.setCell ?_ ?_ _) | (with_reducible refine below_setRow' ?_ ?_ _) | go_size)) (Nat.le_refl _)); rintro e w1 ⟨rfl, hb1⟩; have hk1 := blk?_below hb1; (try simp only [size_drew', size_drewN'] at hk1); have hB1 := below_via (w := w) (by repeat' (first | (with_reducible exact Below.refl _ _) | (with_reducible assumption) | (with_reducible refine Below.alloc ?_ ?_ _) | (with_reducible refine Below.drew ?_) | (with_reducible refine below_drewN ?_ _) | (with_reducible refine Below.setCell ?_ ?_ _) | (with_reducible refine below_setRow' ?_ ?_ _) | go_size)) hb1; have hL0 : w.heap.size < w1.heap.size := (by have hS0 := hb1.size; (try simp at hS0); omega); have hL1 : g3 < w1.heap.size := (by have hS0 := hb1.size; (try simp at hS0); omega); have hL2 : g4 < w1.heap.size := (by have hS0 := hb1.size; (try simp at hS0); omega); have hL3 : g6 < w1.heap.size := (by have hS0 := hb1.size; (try simp at hS0); omega); have hL4 : g7 < w1.heap.size := (by have hS0 := hb1.size; (try simp at hS0); omega); have hLe : w.heap.size ≤ w1.heap.size := hB1.size; clear hb1)
    | (go_at_call 41; (with_reducible refine (HPN.out _ ?_).mono ?_); (exact HG.out.below (by repeat' (first | (with_reducible exact Below.refl _ _) | (with_reducible assumption) | (with_reducible refine Below.alloc ?_ ?_ _) | (with_reducible refine Below.drew ?_) | (with_reducible refine below_drewN ?_ _) | (with_reducible refine Below.setCell ?_ ?_ _) | (with_reducible refine below_setRow' ?_ ?_ _) | go_size)) (Nat.le_refl _)); rintro e w1 ⟨rfl, hb1⟩; have hk1 := blk?_below hb1; (try simp only [size_drew', size_drewN'] at hk1); have hB1 := below_via (w := w) (by repeat' (first | (with_reducible exact Below.refl _ _) | (with_reducible assumption) | (with_reducible refine Below.alloc ?_ ?_ _) | (with_reducible refine Below.drew ?_) | (with_reducible refine below_drewN ?_ _) | (with_reducible refine Below.setCell ?_ ?_ _) | (with_reducible refine below_setRow' ?_ ?_ _) | go_size)) hb1; have hL0 : w.heap.size < w1.heap.size := (by have hS0 := hb1.size; (try simp at hS0); omega); have hL1 : g3 < w1.heap.size := (by have hS0 := hb1.size; (try simp at hS0); omega); have hL2 : g4 < w1.heap.size := (by have hS0 := hb1.size; (try simp at hS0); omega); have hL3 : g6 < w1.heap.size := (by have hS0 := hb1.size; (try simp at hS0); omega); have hL4 : g7 < w1.heap.size := (by have hS0 := hb1.size; (try simp at hS0); omega); have hLe : w.heap.size ≤ w1.heap.size := hB1.size; clear hb1))
            all_goals (go_wp2; go_ret; exact ⟨rfl, (by repeat' (first | (with_reducible exact Below.refl _ _) | (with_reducible assumption) | (with_reducible refine Below.alloc ?_ ?_ _) | (with_reducible refine Below.drew ?_) | (with_reducible refine below_drewN ?_ _) | (with_reducible refine Below.setCell ?_ ?_ _) | (with_reducible refine below_setRow' ?_ ?_ _) | go_size))⟩)
end Go.Proofs.YtmlkcgacneealaaDoor
