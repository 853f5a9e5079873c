/- ParseAddr of dotted decimal. Conditions: the listed variables as laid. -/
import Derived.Test.YtmlkcgacneealaaDoorPrs2
import Derived.Test.YtmlkcgacneealaaDoorLawQ
set_option linter.unusedVariables false
set_option linter.unusedSimpArgs false
namespace Go.Proofs.YtmlkcgacneealaaDoor
open Go.RowKit

theorem ba_whole (z : ByteArray) : z.extract 0 z.size = z := by
  apply ByteArray.ext
  rw [ByteArray.data_extract]
  show z.data.extract 0 z.data.size = z.data
  exact Array.extract_size
theorem fs_arr4 (b : Nat → Int) : fs (arr4 zb) 0 b 4 = arr4 b := by kernel_rfl
theorem prs4z (b : Nat → Int) (hb : Bt b) (gf : Nat) (w : World) (hk : blk? w gf = some (arr4 zb)) :
    Calls Tryd.prog 173 #[.string (ba (tf b 0 3)), .int .i64 0, .int .i64 (((ba (tf b 0 3)).size : Nat) : Int), .slice (some ⟨gf, 0, none⟩) 4 4] w fun en w' => en = .returned .nilIface ∧ blk? w' gf = some (arr4 b) ∧ GX gf w w' := by
  have hs : (((ba (tf b 0 3)).size : Nat) : Int) ≤ 9223372036854775807 := by
    have h0 := dec_len (b 0); have h1 := dec_len (b 1); have h2 := dec_len (b 2); have h3 := dec_len (b 3)
    rw [ba_size, tf_len]; simp [offs]; omega
  have h := prs4f b (fun p _ => hb p) (ba (tf b 0 3)) 0 (ba (tf b 0 3)).size (Nat.zero_le _) (Nat.le_refl _) (ba_whole _) hs gf 0 4 (Nat.le_refl _) (arr4 zb) (by decide) w hk
  rw [fs_arr4] at h
  exact h
set_option maxHeartbeats 4000000 in
set_option maxRecDepth 100000 in
theorem parse4 (b : Nat → Int) (hb : Bt b) {b4 o4 : Nat} (w : World) (hg : G4 b4 o4 w) : Calls Tryd.prog 159 #[.string (ba (tf b 0 3))] w fun e w' => e = .returned (.tuple #[.agg #[.int .u64 0, .int .u64 (281470681743360 + be4f b 0), .pointer (some ⟨b4, o4, none⟩)], .nilIface]) ∧ Below w.heap.size w w' := by
  have HG := Lib.hid hg
  have HB := Lib.hid hb
  clear hg hb
  go_enter Tryd.func159, Tryd.ntmps159
  go_wp2_with (first
    | (go_at_call 173; (with_reducible refine (prs4z b HB.out _ _ ?_).mono ?_); go_simp; rintro e w1 ⟨rfl, hbuf, hgr⟩; have hk1 := blk?_gx hgr; have hB1 := GX.below (B := w.heap.size) (a := w) (by repeat' (first | (with_reducible exact Below.refl _ _) | (with_reducible assumption) | (with_reducible refine Below.alloc ?_ ?_ _) | (with_reducible refine Below.drew ?_) | (with_reducible refine below_drewN ?_ _) | (with_reducible refine Below.setCell ?_ ?_ _) | (with_reducible refine below_setRow' ?_ ?_ _) | go_size)) hgr (by simp; omega) (by omega); have hL0 : w.heap.size + 1 < w1.heap.size := (by have hS1 := hgr.size; simp at hS1; omega); have hL1 : w.heap.size < w1.heap.size := (by omega); clear hgr)
    | (go_at_call 70; (with_reducible refine (addrFrom4 (b4 := b4) (o4 := o4) b HB.out _ ?_).mono ?_); (exact HG.out.below (by repeat' (first | (with_reducible exact Below.refl _ _) | (with_reducible assumption) | (with_reducible refine Below.alloc ?_ ?_ _) | (with_reducible refine Below.drew ?_) | (with_reducible refine below_drewN ?_ _) | (with_reducible refine Below.setCell ?_ ?_ _) | (with_reducible refine below_setRow' ?_ ?_ _) | go_size)) (Nat.le_refl _)); rintro e w2 ⟨rfl, hb1⟩; have hk1 := blk?_below hb1; (try simp only [size_drew', size_drewN'] at hk1); have hB1 := below_via (w := w) (by repeat' (first | (with_reducible exact Below.refl _ _) | (with_reducible assumption) | (with_reducible refine Below.alloc ?_ ?_ _) | (with_reducible refine Below.drew ?_) | (with_reducible refine below_drewN ?_ _) | (with_reducible refine Below.setCell ?_ ?_ _) | (with_reducible refine below_setRow' ?_ ?_ _) | go_size)) hb1; have hL0 : w.heap.size < w2.heap.size := (by have hS0 := hb1.size; (try simp at hS0); omega); have hL1 : w.heap.size + 1 < w2.heap.size := (by have hS0 := hb1.size; (try simp at hS0); omega); have hLe : w.heap.size ≤ w2.heap.size := hB1.size; clear hb1))
  refine bodyPost_ret (res78t Tryd.results159 _ _ (w.heap.size) _ rfl ?_ rfl) rfl ⟨rfl, (by repeat' (first | (with_reducible exact Below.refl _ _) | (with_reducible assumption) | (with_reducible refine Below.alloc ?_ ?_ _) | (with_reducible refine Below.drew ?_) | (with_reducible refine below_drewN ?_ _) | (with_reducible refine Below.setCell ?_ ?_ _) | (with_reducible refine below_setRow' ?_ ?_ _) | go_size))⟩
  go_simp
set_option maxHeartbeats 4000000 in
set_option maxRecDepth 100000 in
theorem pa_dot (s : List Int) (hB : By s) (m : Nat) (hm : m < s.length) (hat : s.getD m 0 = 46) (hpre : ∀ i, i < m → s.getD i 0 ≠ 46 ∧ s.getD i 0 ≠ 58 ∧ s.getD i 0 ≠ 37) (hl : s.length ≤ 1000) (c : Array Value) (hc : c.size = 3) (hoc : okc c) (v : Value) {b4 o4 b6 o6 : Nat} (w : World) (hg : Gl b4 o4 b6 o6 w)
    (hR : ∀ w, Gl b4 o4 b6 o6 w → Calls Tryd.prog 159 #[.string (ba s)] w fun e w' => e = .returned (.tuple #[.agg c, v]) ∧ Below w.heap.size w w') :
    Calls Tryd.prog 121 #[.string (ba s)] w fun e w' => e = .returned (.tuple #[.agg c, v]) ∧ Below w.heap.size w w' := by
  have HG := Lib.hid hg
  have HR := Lib.hid hR
  have HB := Lib.hid hB
  have HPre := Lib.hid hpre
  have HAt := Lib.hid hat
  clear hg hR hB hpre hat
  have HSz := Lib.hid (ba_size s)
  go_enter Tryd.func121, Tryd.ntmps121
  go_wp2
  go_loopw [3, 4] (fun v3 v4 wr => ∃ i : Nat, i ≤ m ∧ v3 = .nilIface ∧ v4 = .int .i64 (i : Int) ∧ blk? wr w.heap.size = some #[.int .u64 0, .int .u64 0, .pointer none] ∧ Below w.heap.size w wr) (fun _ i _ => m - (intOf i).toNat)
  case atStart => exact ⟨0, by omega, rfl, rfl, by go_simp, (by repeat' (first | (with_reducible exact Below.refl _ _) | (with_reducible assumption) | (with_reducible refine Below.alloc ?_ ?_ _) | (with_reducible refine Below.drew ?_) | (with_reducible refine below_drewN ?_ _) | (with_reducible refine Below.setCell ?_ ?_ _) | (with_reducible refine below_setRow' ?_ ?_ _) | go_size))⟩
  case round =>
    obtain ⟨i, him, rfl, rfl, k0, hBw⟩ := hrel
    have hsz := HSz.out
    have hl0 := blk?_lt k0
    have hi0 : (0 : Int) ≤ (i : Int) := by omega
    have hil : i < (ba s).size := by omega
    have hi1 : (i : Int) < (((ba s).size : Nat) : Int) := by omega
    have hi2 : (i : Int) + 1 ≤ 9223372036854775807 := by omega
    clear hsz
    by_cases hlt : i < m
    · have hcv := ba_get _ HB.out i hil
      have hp := HPre.out i hlt
      obtain ⟨ch, hch⟩ : ∃ ch : Int, ch = s.getD i 0 := ⟨_, rfl⟩
      rw [← hch] at hcv hp
      have h1 : (ch == 46) = false := beq_eq_false_iff_ne.2 hp.1
      have h2 : (ch == 58) = false := beq_eq_false_iff_ne.2 hp.2.1
      have h3 : (ch == 37) = false := beq_eq_false_iff_ne.2 hp.2.2
      clear hch hp
      go_wp2
      go_roundw
      case rel => exact ⟨i + 1, by omega, rfl, by go_num, k0, hBw⟩
      case measure => simp [intOf]; omega
    · obtain rfl : i = m := by omega
      have hcv := ba_get _ HB.out i hil
      rw [HAt.out] at hcv
      have hQ : w.heap.size < wr.heap.size + 1 := by omega
      go_wp2_with (first
        | (go_at_call 159; (with_reducible refine (HR.out _ ?_).mono ?_); (exact HG.out.below (by repeat' (first | (with_reducible exact Below.refl _ _) | (with_reducible assumption) | (with_reducible refine Below.alloc ?_ ?_ _) | (with_reducible refine Below.drew ?_) | (with_reducible refine below_drewN ?_ _) | (with_reducible refine Below.setCell ?_ ?_ _) | (with_reducible refine below_setRow' ?_ ?_ _) | go_size)) (Nat.le_refl _)); rintro e w2 ⟨rfl, hb1⟩; have hk1 := blk?_below hb1; (try simp only [size_drew', size_drewN'] at hk1); have hB1 := below_via (w := w) (by repeat' (first | (with_reducible exact Below.refl _ _) | (with_reducible assumption) | (with_reducible refine Below.alloc ?_ ?_ _) | (with_reducible refine Below.drew ?_) | (with_reducible refine below_drewN ?_ _) | (with_reducible refine Below.setCell ?_ ?_ _) | (with_reducible refine below_setRow' ?_ ?_ _) | go_size)) hb1; have hL0 : w.heap.size < w2.heap.size := (by have hS0 := hb1.size; (try simp at hS0); omega); have hLe : w.heap.size ≤ w2.heap.size := hB1.size; clear hb1))
      refine bodyPost_ret (res78t Tryd.results121 _ _ (w.heap.size) _ rfl ?_ hc) rfl ⟨rfl, (by repeat' (first | (with_reducible exact Below.refl _ _) | (with_reducible assumption) | (with_reducible refine Below.alloc ?_ ?_ _) | (with_reducible refine Below.drew ?_) | (with_reducible refine below_drewN ?_ _) | (with_reducible refine Below.setCell ?_ ?_ _) | (with_reducible refine below_setRow' ?_ ?_ _) | go_size))⟩
      go_simp
set_option maxHeartbeats 4000000 in
set_option maxRecDepth 100000 in
theorem pa_col (s : List Int) (hB : By s) (m : Nat) (hm : m < s.length) (hat : s.getD m 0 = 58) (hpre : ∀ i, i < m → s.getD i 0 ≠ 46 ∧ s.getD i 0 ≠ 58 ∧ s.getD i 0 ≠ 37) (hl : s.length ≤ 1000) (c : Array Value) (hc : c.size = 3) (hoc : okc c) (v : Value) {b4 o4 b6 o6 : Nat} (w : World) (hg : Gl b4 o4 b6 o6 w)
    (hR : ∀ w, Gl b4 o4 b6 o6 w → Calls Tryd.prog 160 #[.string (ba s)] w fun e w' => e = .returned (.tuple #[.agg c, v]) ∧ Below w.heap.size w w') :
    Calls Tryd.prog 121 #[.string (ba s)] w fun e w' => e = .returned (.tuple #[.agg c, v]) ∧ Below w.heap.size w w' := by
  have HG := Lib.hid hg
  have HR := Lib.hid hR
  have HB := Lib.hid hB
  have HPre := Lib.hid hpre
  have HAt := Lib.hid hat
  clear hg hR hB hpre hat
  have HSz := Lib.hid (ba_size s)
  go_enter Tryd.func121, Tryd.ntmps121
  go_wp2
  go_loopw [3, 4] (fun v3 v4 wr => ∃ i : Nat, i ≤ m ∧ v3 = .nilIface ∧ v4 = .int .i64 (i : Int) ∧ blk? wr w.heap.size = some #[.int .u64 0, .int .u64 0, .pointer none] ∧ Below w.heap.size w wr) (fun _ i _ => m - (intOf i).toNat)
  case atStart => exact ⟨0, by omega, rfl, rfl, by go_simp, (by repeat' (first | (with_reducible exact Below.refl _ _) | (with_reducible assumption) | (with_reducible refine Below.alloc ?_ ?_ _) | (with_reducible refine Below.drew ?_) | (with_reducible refine below_drewN ?_ _) | (with_reducible refine Below.setCell ?_ ?_ _) | (with_reducible refine below_setRow' ?_ ?_ _) | go_size))⟩
  case round =>
    obtain ⟨i, him, rfl, rfl, k0, hBw⟩ := hrel
    have hsz := HSz.out
    have hl0 := blk?_lt k0
    have hi0 : (0 : Int) ≤ (i : Int) := by omega
    have hil : i < (ba s).size := by omega
    have hi1 : (i : Int) < (((ba s).size : Nat) : Int) := by omega
    have hi2 : (i : Int) + 1 ≤ 9223372036854775807 := by omega
    clear hsz
    by_cases hlt : i < m
    · have hcv := ba_get _ HB.out i hil
      have hp := HPre.out i hlt
      obtain ⟨ch, hch⟩ : ∃ ch : Int, ch = s.getD i 0 := ⟨_, rfl⟩
      rw [← hch] at hcv hp
      have h1 : (ch == 46) = false := beq_eq_false_iff_ne.2 hp.1
      have h2 : (ch == 58) = false := beq_eq_false_iff_ne.2 hp.2.1
      have h3 : (ch == 37) = false := beq_eq_false_iff_ne.2 hp.2.2
      clear hch hp
      go_wp2
      go_roundw
      case rel => exact ⟨i + 1, by omega, rfl, by go_num, k0, hBw⟩
      case measure => simp [intOf]; omega
    · obtain rfl : i = m := by omega
      have hcv := ba_get _ HB.out i hil
      rw [HAt.out] at hcv
      have hQ : w.heap.size < wr.heap.size + 1 := by omega
      go_wp2_with (first
        | (go_at_call 160; (with_reducible refine (HR.out _ ?_).mono ?_); (exact HG.out.below (by repeat' (first | (with_reducible exact Below.refl _ _) | (with_reducible assumption) | (with_reducible refine Below.alloc ?_ ?_ _) | (with_reducible refine Below.drew ?_) | (with_reducible refine below_drewN ?_ _) | (with_reducible refine Below.setCell ?_ ?_ _) | (with_reducible refine below_setRow' ?_ ?_ _) | go_size)) (Nat.le_refl _)); rintro e w2 ⟨rfl, hb1⟩; have hk1 := blk?_below hb1; (try simp only [size_drew', size_drewN'] at hk1); have hB1 := below_via (w := w) (by repeat' (first | (with_reducible exact Below.refl _ _) | (with_reducible assumption) | (with_reducible refine Below.alloc ?_ ?_ _) | (with_reducible refine Below.drew ?_) | (with_reducible refine below_drewN ?_ _) | (with_reducible refine Below.setCell ?_ ?_ _) | (with_reducible refine below_setRow' ?_ ?_ _) | go_size)) hb1; have hL0 : w.heap.size < w2.heap.size := (by have hS0 := hb1.size; (try simp at hS0); omega); have hLe : w.heap.size ≤ w2.heap.size := hB1.size; clear hb1))
      refine bodyPost_ret (res78t Tryd.results121 _ _ (w.heap.size) _ rfl ?_ hc) rfl ⟨rfl, (by repeat' (first | (with_reducible exact Below.refl _ _) | (with_reducible assumption) | (with_reducible refine Below.alloc ?_ ?_ _) | (with_reducible refine Below.drew ?_) | (with_reducible refine below_drewN ?_ _) | (with_reducible refine Below.setCell ?_ ?_ _) | (with_reducible refine below_setRow' ?_ ?_ _) | go_size))⟩
      go_simp
end Go.Proofs.YtmlkcgacneealaaDoor
