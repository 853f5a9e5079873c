/- impl.ParseAddr; FnTextRoundTripBare for IPv4. Conditions: the listed variables as laid. -/
import Derived.Test.YtmlkcgacneealaaDoorPrs3
set_option linter.unusedVariables false
set_option linter.unusedSimpArgs false
namespace Go.Proofs.YtmlkcgacneealaaDoor
open Go.RowKit
set_option maxHeartbeats 4000000 in
set_option maxRecDepth 100000 in
theorem pa_none (s : List Int) (hB : By s) (hpre : ∀ i, i < s.length → s.getD i 0 ≠ 46 ∧ s.getD i 0 ≠ 58 ∧ s.getD i 0 ≠ 37) (hl : s.length ≤ 1000) (w : World) :
    Calls Tryd.prog 121 #[.string (ba s)] w fun e w' => (∃ p, e = .returned (.tuple #[.agg #[.int .u64 0, .int .u64 0, .pointer none], .iface 124 p])) ∧ Below w.heap.size w w' := by
  have HB := Lib.hid hB
  have HPre := Lib.hid hpre
  clear hB hpre
  have HSz := Lib.hid (ba_size s)
  go_enter Tryd.func121, Tryd.ntmps121
  go_wp2
  go_loopw [3, 4] (fun v3 v4 wr => ∃ i : Nat, i ≤ (ba s).size ∧ v3 = .nilIface ∧ v4 = .int .i64 (i : Int) ∧ blk? wr w.heap.size = some #[.int .u64 0, .int .u64 0, .pointer none] ∧ Below w.heap.size w wr) (fun _ i _ => (ba s).size - (intOf i).toNat)
  case atStart => exact ⟨0, by omega, rfl, rfl, by go_simp, (by repeat' (first | (with_reducible exact Below.refl _ _) | (with_reducible assumption) | (with_reducible refine Below.alloc ?_ ?_ _) | (with_reducible refine Below.drew ?_) | (with_reducible refine below_drewN ?_ _) | (with_reducible refine Below.setCell ?_ ?_ _) | (with_reducible refine below_setRow' ?_ ?_ _) | go_size))⟩
  case round =>
    obtain ⟨i, him, rfl, rfl, k0, hBw⟩ := hrel
    have hsz := HSz.out
    have hl0 := blk?_lt k0
    have hi0 : (0 : Int) ≤ (i : Int) := by omega
    have hi2 : (i : Int) + 1 ≤ 9223372036854775807 := by omega
    by_cases hlt : i < (ba s).size
    · have hi1 : (i : Int) < (((ba s).size : Nat) : Int) := by omega
      have hcv := ba_get _ HB.out i hlt
      have hp := HPre.out i (by omega)
      clear hsz
      obtain ⟨ch, hch⟩ : ∃ ch : Int, ch = s.getD i 0 := ⟨_, rfl⟩
      rw [← hch] at hcv hp
      have h1 : (ch == 46) = false := beq_eq_false_iff_ne.2 hp.1
      have h2 : (ch == 58) = false := beq_eq_false_iff_ne.2 hp.2.1
      have h3 : (ch == 37) = false := beq_eq_false_iff_ne.2 hp.2.2
      clear hch hp
      go_wp2
      go_roundw
      case rel => exact ⟨i + 1, by omega, rfl, by go_num, k0, hBw⟩
      case measure => simp [intOf]; omega
    · have hi1 : ¬ ((i : Int) < (((ba s).size : Nat) : Int)) := by omega
      clear hsz
      go_wp2
      refine bodyPost_ret (res78t Tryd.results121 _ _ (w.heap.size) _ rfl ?_ rfl) rfl ⟨⟨_, rfl⟩, (by repeat' (first | (with_reducible exact Below.refl _ _) | (with_reducible assumption) | (with_reducible refine Below.alloc ?_ ?_ _) | (with_reducible refine Below.drew ?_) | (with_reducible refine below_drewN ?_ _) | (with_reducible refine Below.setCell ?_ ?_ _) | (with_reducible refine below_setRow' ?_ ?_ _) | go_size))⟩
      go_simp
set_option maxHeartbeats 4000000 in
set_option maxRecDepth 100000 in
theorem implParse (z : ByteArray) (N A : Array Value) (hN : N.size = 3) (hoN : okc N) (hA : A.size = 18) (hoA : okc A) {b4 o4 b6 o6 : Nat} (w : World) (hg : Gl b4 o4 b6 o6 w)
    (hP : ∀ w, Gl b4 o4 b6 o6 w → Calls Tryd.prog 121 #[.string z] w fun e w' => e = .returned (.tuple #[.agg N, .nilIface]) ∧ Below w.heap.size w w')
    (hO : ∀ w, Gl b4 o4 b6 o6 w → Calls Tryd.prog 69 #[.agg N] w fun e w' => e = .returned (.agg A) ∧ Below w.heap.size w w') :
    Calls Tryd.prog 66 #[.string z] w fun e w' => e = .returned (.tuple #[.agg A, .bool true]) ∧ Below w.heap.size w w' := by
  have HG := Lib.hid hg
  have HP := Lib.hid hP
  have HO := Lib.hid hO
  clear hg hP hO
  go_enter Tryd.func66, Tryd.ntmps66
  go_wp2_with (first
    | (go_at_call 121; (with_reducible refine (HP.out _ ?_).mono ?_); (exact HG.out.below (by repeat' (first | (with_reducible exact Below.refl _ _) | (with_reducible assumption) | (with_reducible refine Below.alloc ?_ ?_ _) | (with_reducible refine Below.drew ?_) | (with_reducible refine below_drewN ?_ _) | (with_reducible refine Below.setCell ?_ ?_ _) | (with_reducible refine below_setRow' ?_ ?_ _) | go_size)) (Nat.le_refl _)); rintro e w1 ⟨rfl, hb1⟩; have hk1 := blk?_below hb1; (try simp only [size_drew', size_drewN'] at hk1); have hB1 := below_via (w := w) (by repeat' (first | (with_reducible exact Below.refl _ _) | (with_reducible assumption) | (with_reducible refine Below.alloc ?_ ?_ _) | (with_reducible refine Below.drew ?_) | (with_reducible refine below_drewN ?_ _) | (with_reducible refine Below.setCell ?_ ?_ _) | (with_reducible refine below_setRow' ?_ ?_ _) | go_size)) hb1; have hL0 : w.heap.size < w1.heap.size := (by have hS0 := hb1.size; (try simp at hS0); omega); have hLe : w.heap.size ≤ w1.heap.size := hB1.size; clear hb1)
    | (go_at_call 69; (with_reducible refine (HO.out _ ?_).mono ?_); (exact HG.out.below (by repeat' (first | (with_reducible exact Below.refl _ _) | (with_reducible assumption) | (with_reducible refine Below.alloc ?_ ?_ _) | (with_reducible refine Below.drew ?_) | (with_reducible refine below_drewN ?_ _) | (with_reducible refine Below.setCell ?_ ?_ _) | (with_reducible refine below_setRow' ?_ ?_ _) | go_size)) (Nat.le_refl _)); rintro e w2 ⟨rfl, hb1⟩; have hk1 := blk?_below hb1; (try simp only [size_drew', size_drewN'] at hk1); have hB1 := below_via (w := w) (by repeat' (first | (with_reducible exact Below.refl _ _) | (with_reducible assumption) | (with_reducible refine Below.alloc ?_ ?_ _) | (with_reducible refine Below.drew ?_) | (with_reducible refine below_drewN ?_ _) | (with_reducible refine Below.setCell ?_ ?_ _) | (with_reducible refine below_setRow' ?_ ?_ _) | go_size)) hb1; have hL0 : w.heap.size < w2.heap.size := (by have hS0 := hb1.size; (try simp at hS0); omega); have hLe : w.heap.size ≤ w2.heap.size := hB1.size; clear hb1))
  refine bodyPost_ret (res29t Tryd.results66 _ _ (w.heap.size) _ rfl ?_ hA) rfl ⟨rfl, (by repeat' (first | (with_reducible exact Below.refl _ _) | (with_reducible assumption) | (with_reducible refine Below.alloc ?_ ?_ _) | (with_reducible refine Below.drew ?_) | (with_reducible refine below_drewN ?_ _) | (with_reducible refine Below.setCell ?_ ?_ _) | (with_reducible refine below_setRow' ?_ ?_ _) | go_size))⟩
  go_simp
set_option maxHeartbeats 4000000 in
set_option maxRecDepth 100000 in
theorem implParseF (z : ByteArray) {b4 o4 b6 o6 : Nat} (w : World) (hg : Gl b4 o4 b6 o6 w)
    (hP : ∀ w, Gl b4 o4 b6 o6 w → Calls Tryd.prog 121 #[.string z] w fun e w' => (∃ p, e = .returned (.tuple #[.agg #[.int .u64 0, .int .u64 0, .pointer none], .iface 124 p])) ∧ Below w.heap.size w w') :
    Calls Tryd.prog 66 #[.string z] w fun e w' => e = .returned (.tuple #[.agg (adr 0 zb ⟨#[]⟩), .bool false]) ∧ Below w.heap.size w w' := by
  have HG := Lib.hid hg
  have HP := Lib.hid hP
  clear hg hP
  go_enter Tryd.func66, Tryd.ntmps66
  go_wp2_with (first
    | (go_at_call 121; (with_reducible refine (HP.out _ ?_).mono ?_); (exact HG.out.below (by repeat' (first | (with_reducible exact Below.refl _ _) | (with_reducible assumption) | (with_reducible refine Below.alloc ?_ ?_ _) | (with_reducible refine Below.drew ?_) | (with_reducible refine below_drewN ?_ _) | (with_reducible refine Below.setCell ?_ ?_ _) | (with_reducible refine below_setRow' ?_ ?_ _) | go_size)) (Nat.le_refl _)); rintro e w1 ⟨⟨p, rfl⟩, hb1⟩; have hk1 := blk?_below hb1; (try simp only [size_drew', size_drewN'] at hk1); have hB1 := below_via (w := w) (by repeat' (first | (with_reducible exact Below.refl _ _) | (with_reducible assumption) | (with_reducible refine Below.alloc ?_ ?_ _) | (with_reducible refine Below.drew ?_) | (with_reducible refine below_drewN ?_ _) | (with_reducible refine Below.setCell ?_ ?_ _) | (with_reducible refine below_setRow' ?_ ?_ _) | go_size)) hb1; have hL0 : w.heap.size < w1.heap.size := (by have hS0 := hb1.size; (try simp at hS0); omega); have hLe : w.heap.size ≤ w1.heap.size := hB1.size; clear hb1))
  refine bodyPost_ret (res29t Tryd.results66 _ _ (w.heap.size) _ rfl ?_ rfl) rfl ⟨rfl, (by repeat' (first | (with_reducible exact Below.refl _ _) | (with_reducible assumption) | (with_reducible refine Below.alloc ?_ ?_ _) | (with_reducible refine Below.drew ?_) | (with_reducible refine below_drewN ?_ _) | (with_reducible refine Below.setCell ?_ ?_ _) | (with_reducible refine below_setRow' ?_ ?_ _) | go_size))⟩
  go_simp
set_option maxHeartbeats 4000000 in
set_option maxRecDepth 100000 in
theorem law23_0w (n : Int) (h4 : n ≠ 4) (h16 : n ≠ 16) (b : Nat → Int) (z : ByteArray) {b4 o4 b6 o6 : Nat} (w : World) (hg : Gl b4 o4 b6 o6 w) (P : ByteArray → Prop)
    (hS : ∀ w, Gl b4 o4 b6 o6 w → Calls Tryd.prog 60 #[.agg (adr 0 zb ⟨#[]⟩)] w fun e w' => (∃ z : ByteArray, P z ∧ e = .returned (.string z)) ∧ Below w.heap.size w w')
    (hR : ∀ z, P z → ∀ w, Gl b4 o4 b6 o6 w → Calls Tryd.prog 66 #[.string z] w fun e w' => e = .returned (.tuple #[.agg (adr 0 zb ⟨#[]⟩), .bool false]) ∧ Below w.heap.size w w') :
    Calls Tryd.prog 23 #[.agg (adr n b z)] w fun e w' => e = .returned (.bool true) ∧ Below w.heap.size w w' := by
  have HG := Lib.hid hg
  have HS := Lib.hid hS
  have HR := Lib.hid hR
  clear hg hS hR
  go_enter Tryd.func23, Tryd.ntmps23
  go_wp2_with (first
    | (go_at_call 52; (with_reducible refine (bare_0 n h4 h16 _ _ _).mono ?_); rintro e w1 ⟨rfl, hb1⟩; have hk1 := blk?_below hb1; (try simp only [size_drew', size_drewN'] at hk1); have hB1 := below_via (w := w) (by repeat' (first | (with_reducible exact Below.refl _ _) | (with_reducible assumption) | (with_reducible refine Below.alloc ?_ ?_ _) | (with_reducible refine Below.drew ?_) | (with_reducible refine below_drewN ?_ _) | (with_reducible refine Below.setCell ?_ ?_ _) | (with_reducible refine below_setRow' ?_ ?_ _) | go_size)) hb1; have hL0 : w.heap.size < w1.heap.size := (by have hS0 := hb1.size; (try simp at hS0); omega); have hLe : w.heap.size ≤ w1.heap.size := hB1.size; clear hb1)
    | (go_at_call 60; (with_reducible refine (HS.out _ ?_).mono ?_); (exact HG.out.below (by repeat' (first | (with_reducible exact Below.refl _ _) | (with_reducible assumption) | (with_reducible refine Below.alloc ?_ ?_ _) | (with_reducible refine Below.drew ?_) | (with_reducible refine below_drewN ?_ _) | (with_reducible refine Below.setCell ?_ ?_ _) | (with_reducible refine below_setRow' ?_ ?_ _) | go_size)) (Nat.le_refl _)); rintro e w2 ⟨⟨z1, hz1, rfl⟩, hb1⟩; have hk1 := blk?_below hb1; (try simp only [size_drew', size_drewN'] at hk1); have hB1 := below_via (w := w) (by repeat' (first | (with_reducible exact Below.refl _ _) | (with_reducible assumption) | (with_reducible refine Below.alloc ?_ ?_ _) | (with_reducible refine Below.drew ?_) | (with_reducible refine below_drewN ?_ _) | (with_reducible refine Below.setCell ?_ ?_ _) | (with_reducible refine below_setRow' ?_ ?_ _) | go_size)) hb1; have hL0 : w.heap.size < w2.heap.size := (by have hS0 := hb1.size; (try simp at hS0); omega); have hLe : w.heap.size ≤ w2.heap.size := hB1.size; have HZ1 := Lib.hid hz1; clear hz1; clear hb1)
    | (go_at_call 66; (with_reducible refine (HR.out _ HZ1.out _ ?_).mono ?_); (exact HG.out.below (by repeat' (first | (with_reducible exact Below.refl _ _) | (with_reducible assumption) | (with_reducible refine Below.alloc ?_ ?_ _) | (with_reducible refine Below.drew ?_) | (with_reducible refine below_drewN ?_ _) | (with_reducible refine Below.setCell ?_ ?_ _) | (with_reducible refine below_setRow' ?_ ?_ _) | go_size)) (Nat.le_refl _)); rintro e w3 ⟨rfl, hb1⟩; have hk1 := blk?_below hb1; (try simp only [size_drew', size_drewN'] at hk1); have hB1 := below_via (w := w) (by repeat' (first | (with_reducible exact Below.refl _ _) | (with_reducible assumption) | (with_reducible refine Below.alloc ?_ ?_ _) | (with_reducible refine Below.drew ?_) | (with_reducible refine below_drewN ?_ _) | (with_reducible refine Below.setCell ?_ ?_ _) | (with_reducible refine below_setRow' ?_ ?_ _) | go_size)) hb1; have hL0 : w.heap.size < w3.heap.size := (by have hS0 := hb1.size; (try simp at hS0); omega); have hLe : w.heap.size ≤ w3.heap.size := hB1.size; clear hb1)
    | (go_at_call 36; (with_reducible refine (valid_0 0 (by omega) (by omega) _ _ _).mono ?_); rintro e w4 ⟨rfl, hb1⟩; have hk1 := blk?_below hb1; (try simp only [size_drew', size_drewN'] at hk1); have hB1 := below_via (w := w) (by repeat' (first | (with_reducible exact Below.refl _ _) | (with_reducible assumption) | (with_reducible refine Below.alloc ?_ ?_ _) | (with_reducible refine Below.drew ?_) | (with_reducible refine below_drewN ?_ _) | (with_reducible refine Below.setCell ?_ ?_ _) | (with_reducible refine below_setRow' ?_ ?_ _) | go_size)) hb1; have hL0 : w.heap.size < w4.heap.size := (by have hS0 := hb1.size; (try simp at hS0); omega); have hL1 : w3.heap.size < w4.heap.size := (by have hS0 := hb1.size; (try simp at hS0); omega); have hLe : w.heap.size ≤ w4.heap.size := hB1.size; clear hb1))
  go_ret
  exact ⟨rfl, (by repeat' (first | (with_reducible exact Below.refl _ _) | (with_reducible assumption) | (with_reducible refine Below.alloc ?_ ?_ _) | (with_reducible refine Below.drew ?_) | (with_reducible refine below_drewN ?_ _) | (with_reducible refine Below.setCell ?_ ?_ _) | (with_reducible refine below_setRow' ?_ ?_ _) | go_size))⟩
set_option maxHeartbeats 4000000 in
set_option maxRecDepth 100000 in
theorem law23_4w (b : Nat → Int) (z : ByteArray) {b4 o4 b6 o6 : Nat} (w : World) (hg : Gl b4 o4 b6 o6 w) (P : ByteArray → Prop)
    (hS : ∀ w, Gl b4 o4 b6 o6 w → Calls Tryd.prog 60 #[.agg (adr 4 (pre 4 b) ⟨#[]⟩)] w fun e w' => (∃ z : ByteArray, P z ∧ e = .returned (.string z)) ∧ Below w.heap.size w w')
    (hR : ∀ z, P z → ∀ w, Gl b4 o4 b6 o6 w → Calls Tryd.prog 66 #[.string z] w fun e w' => e = .returned (.tuple #[.agg (adr 4 (pre 4 b) ⟨#[]⟩), .bool true]) ∧ Below w.heap.size w w') :
    Calls Tryd.prog 23 #[.agg (adr 4 b z)] w fun e w' => e = .returned (.bool true) ∧ Below w.heap.size w w' := by
  have HG := Lib.hid hg
  have HS := Lib.hid hS
  have HR := Lib.hid hR
  have hEq : adrEq 4 (pre 4 b) ⟨#[]⟩ 4 (pre 4 b) ⟨#[]⟩ = true := (adrEq_iff _ _ _ _ _ _).2 ⟨rfl, fun _ _ => rfl, rfl⟩
  clear hg hS hR
  go_enter Tryd.func23, Tryd.ntmps23
  go_wp2_with (first
    | (go_at_call 52; (with_reducible refine (bare_4 _ _ _).mono ?_); rintro e w1 ⟨rfl, hb1⟩; have hk1 := blk?_below hb1; (try simp only [size_drew', size_drewN'] at hk1); have hB1 := below_via (w := w) (by repeat' (first | (with_reducible exact Below.refl _ _) | (with_reducible assumption) | (with_reducible refine Below.alloc ?_ ?_ _) | (with_reducible refine Below.drew ?_) | (with_reducible refine below_drewN ?_ _) | (with_reducible refine Below.setCell ?_ ?_ _) | (with_reducible refine below_setRow' ?_ ?_ _) | go_size)) hb1; have hL0 : w.heap.size < w1.heap.size := (by have hS0 := hb1.size; (try simp at hS0); omega); have hLe : w.heap.size ≤ w1.heap.size := hB1.size; clear hb1)
    | (go_at_call 60; (with_reducible refine (HS.out _ ?_).mono ?_); (exact HG.out.below (by repeat' (first | (with_reducible exact Below.refl _ _) | (with_reducible assumption) | (with_reducible refine Below.alloc ?_ ?_ _) | (with_reducible refine Below.drew ?_) | (with_reducible refine below_drewN ?_ _) | (with_reducible refine Below.setCell ?_ ?_ _) | (with_reducible refine below_setRow' ?_ ?_ _) | go_size)) (Nat.le_refl _)); rintro e w2 ⟨⟨z1, hz1, rfl⟩, hb1⟩; have hk1 := blk?_below hb1; (try simp only [size_drew', size_drewN'] at hk1); have hB1 := below_via (w := w) (by repeat' (first | (with_reducible exact Below.refl _ _) | (with_reducible assumption) | (with_reducible refine Below.alloc ?_ ?_ _) | (with_reducible refine Below.drew ?_) | (with_reducible refine below_drewN ?_ _) | (with_reducible refine Below.setCell ?_ ?_ _) | (with_reducible refine below_setRow' ?_ ?_ _) | go_size)) hb1; have hL0 : w.heap.size < w2.heap.size := (by have hS0 := hb1.size; (try simp at hS0); omega); have hLe : w.heap.size ≤ w2.heap.size := hB1.size; have HZ1 := Lib.hid hz1; clear hz1; clear hb1)
    | (go_at_call 66; (with_reducible refine (HR.out _ HZ1.out _ ?_).mono ?_); (exact HG.out.below (by repeat' (first | (with_reducible exact Below.refl _ _) | (with_reducible assumption) | (with_reducible refine Below.alloc ?_ ?_ _) | (with_reducible refine Below.drew ?_) | (with_reducible refine below_drewN ?_ _) | (with_reducible refine Below.setCell ?_ ?_ _) | (with_reducible refine below_setRow' ?_ ?_ _) | go_size)) (Nat.le_refl _)); rintro e w3 ⟨rfl, hb1⟩; have hk1 := blk?_below hb1; (try simp only [size_drew', size_drewN'] at hk1); have hB1 := below_via (w := w) (by repeat' (first | (with_reducible exact Below.refl _ _) | (with_reducible assumption) | (with_reducible refine Below.alloc ?_ ?_ _) | (with_reducible refine Below.drew ?_) | (with_reducible refine below_drewN ?_ _) | (with_reducible refine Below.setCell ?_ ?_ _) | (with_reducible refine below_setRow' ?_ ?_ _) | go_size)) hb1; have hL0 : w.heap.size < w3.heap.size := (by have hS0 := hb1.size; (try simp at hS0); omega); have hLe : w.heap.size ≤ w3.heap.size := hB1.size; clear hb1)
    | (go_at_call 36; (with_reducible refine (valid_4 _ _ _).mono ?_); rintro e w4 ⟨rfl, hb1⟩; have hk1 := blk?_below hb1; (try simp only [size_drew', size_drewN'] at hk1); have hB1 := below_via (w := w) (by repeat' (first | (with_reducible exact Below.refl _ _) | (with_reducible assumption) | (with_reducible refine Below.alloc ?_ ?_ _) | (with_reducible refine Below.drew ?_) | (with_reducible refine below_drewN ?_ _) | (with_reducible refine Below.setCell ?_ ?_ _) | (with_reducible refine below_setRow' ?_ ?_ _) | go_size)) hb1; have hL0 : w.heap.size < w4.heap.size := (by have hS0 := hb1.size; (try simp at hS0); omega); have hL1 : w3.heap.size < w4.heap.size := (by have hS0 := hb1.size; (try simp at hS0); omega); have hLe : w.heap.size ≤ w4.heap.size := hB1.size; clear hb1))
  go_ret
  exact ⟨rfl, (by repeat' (first | (with_reducible exact Below.refl _ _) | (with_reducible assumption) | (with_reducible refine Below.alloc ?_ ?_ _) | (with_reducible refine Below.drew ?_) | (with_reducible refine below_drewN ?_ _) | (with_reducible refine Below.setCell ?_ ?_ _) | (with_reducible refine below_setRow' ?_ ?_ _) | go_size))⟩
set_option maxHeartbeats 4000000 in
set_option maxRecDepth 100000 in
theorem law23_16w (b : Nat → Int) (z : ByteArray) {b4 o4 b6 o6 : Nat} (w : World) (hg : Gl b4 o4 b6 o6 w) (P : ByteArray → Prop)
    (hS : ∀ w, Gl b4 o4 b6 o6 w → Calls Tryd.prog 60 #[.agg (adr 16 b ⟨#[]⟩)] w fun e w' => (∃ z : ByteArray, P z ∧ e = .returned (.string z)) ∧ Below w.heap.size w w')
    (hR : ∀ z, P z → ∀ w, Gl b4 o4 b6 o6 w → Calls Tryd.prog 66 #[.string z] w fun e w' => e = .returned (.tuple #[.agg (adr 16 b ⟨#[]⟩), .bool true]) ∧ Below w.heap.size w w') :
    Calls Tryd.prog 23 #[.agg (adr 16 b z)] w fun e w' => e = .returned (.bool true) ∧ Below w.heap.size w w' := by
  have HG := Lib.hid hg
  have HS := Lib.hid hS
  have HR := Lib.hid hR
  have hEq : adrEq 16 (b) ⟨#[]⟩ 16 (b) ⟨#[]⟩ = true := (adrEq_iff _ _ _ _ _ _).2 ⟨rfl, fun _ _ => rfl, rfl⟩
  clear hg hS hR
  go_enter Tryd.func23, Tryd.ntmps23
  go_wp2_with (first
    | (go_at_call 52; (with_reducible refine (bare_16 _ _ _).mono ?_); rintro e w1 ⟨rfl, hb1⟩; have hk1 := blk?_below hb1; (try simp only [size_drew', size_drewN'] at hk1); have hB1 := below_via (w := w) (by repeat' (first | (with_reducible exact Below.refl _ _) | (with_reducible assumption) | (with_reducible refine Below.alloc ?_ ?_ _) | (with_reducible refine Below.drew ?_) | (with_reducible refine below_drewN ?_ _) | (with_reducible refine Below.setCell ?_ ?_ _) | (with_reducible refine below_setRow' ?_ ?_ _) | go_size)) hb1; have hL0 : w.heap.size < w1.heap.size := (by have hS0 := hb1.size; (try simp at hS0); omega); have hLe : w.heap.size ≤ w1.heap.size := hB1.size; clear hb1)
    | (go_at_call 60; (with_reducible refine (HS.out _ ?_).mono ?_); (exact HG.out.below (by repeat' (first | (with_reducible exact Below.refl _ _) | (with_reducible assumption) | (with_reducible refine Below.alloc ?_ ?_ _) | (with_reducible refine Below.drew ?_) | (with_reducible refine below_drewN ?_ _) | (with_reducible refine Below.setCell ?_ ?_ _) | (with_reducible refine below_setRow' ?_ ?_ _) | go_size)) (Nat.le_refl _)); rintro e w2 ⟨⟨z1, hz1, rfl⟩, hb1⟩; have hk1 := blk?_below hb1; (try simp only [size_drew', size_drewN'] at hk1); have hB1 := below_via (w := w) (by repeat' (first | (with_reducible exact Below.refl _ _) | (with_reducible assumption) | (with_reducible refine Below.alloc ?_ ?_ _) | (with_reducible refine Below.drew ?_) | (with_reducible refine below_drewN ?_ _) | (with_reducible refine Below.setCell ?_ ?_ _) | (with_reducible refine below_setRow' ?_ ?_ _) | go_size)) hb1; have hL0 : w.heap.size < w2.heap.size := (by have hS0 := hb1.size; (try simp at hS0); omega); have hLe : w.heap.size ≤ w2.heap.size := hB1.size; have HZ1 := Lib.hid hz1; clear hz1; clear hb1)
    | (go_at_call 66; (with_reducible refine (HR.out _ HZ1.out _ ?_).mono ?_); (exact HG.out.below (by repeat' (first | (with_reducible exact Below.refl _ _) | (with_reducible assumption) | (with_reducible refine Below.alloc ?_ ?_ _) | (with_reducible refine Below.drew ?_) | (with_reducible refine below_drewN ?_ _) | (with_reducible refine Below.setCell ?_ ?_ _) | (with_reducible refine below_setRow' ?_ ?_ _) | go_size)) (Nat.le_refl _)); rintro e w3 ⟨rfl, hb1⟩; have hk1 := blk?_below hb1; (try simp only [size_drew', size_drewN'] at hk1); have hB1 := below_via (w := w) (by repeat' (first | (with_reducible exact Below.refl _ _) | (with_reducible assumption) | (with_reducible refine Below.alloc ?_ ?_ _) | (with_reducible refine Below.drew ?_) | (with_reducible refine below_drewN ?_ _) | (with_reducible refine Below.setCell ?_ ?_ _) | (with_reducible refine below_setRow' ?_ ?_ _) | go_size)) hb1; have hL0 : w.heap.size < w3.heap.size := (by have hS0 := hb1.size; (try simp at hS0); omega); have hLe : w.heap.size ≤ w3.heap.size := hB1.size; clear hb1)
    | (go_at_call 36; (with_reducible refine (valid_16 _ _ _).mono ?_); rintro e w4 ⟨rfl, hb1⟩; have hk1 := blk?_below hb1; (try simp only [size_drew', size_drewN'] at hk1); have hB1 := below_via (w := w) (by repeat' (first | (with_reducible exact Below.refl _ _) | (with_reducible assumption) | (with_reducible refine Below.alloc ?_ ?_ _) | (with_reducible refine Below.drew ?_) | (with_reducible refine below_drewN ?_ _) | (with_reducible refine Below.setCell ?_ ?_ _) | (with_reducible refine below_setRow' ?_ ?_ _) | go_size)) hb1; have hL0 : w.heap.size < w4.heap.size := (by have hS0 := hb1.size; (try simp at hS0); omega); have hL1 : w3.heap.size < w4.heap.size := (by have hS0 := hb1.size; (try simp at hS0); omega); have hLe : w.heap.size ≤ w4.heap.size := hB1.size; clear hb1))
  go_ret
  exact ⟨rfl, (by repeat' (first | (with_reducible exact Below.refl _ _) | (with_reducible assumption) | (with_reducible refine Below.alloc ?_ ?_ _) | (with_reducible refine Below.drew ?_) | (with_reducible refine below_drewN ?_ _) | (with_reducible refine Below.setCell ?_ ?_ _) | (with_reducible refine below_setRow' ?_ ?_ _) | go_size))⟩
theorem pre4_twice (b : Nat → Int) : pre 4 (pre 4 b) = pre 4 b := by funext i; unfold pre; split <;> rfl
theorem t4_tf {b : Nat → Int} (hb : Bt b) : t4 (281470681743360 + be4f b 0) = tf b 0 3 := by
  rw [tf_dot4]
  unfold t4
  have h0 := hb 0; have h1 := hb 1; have h2 := hb 2; have h3 := hb 3
  have e0 : (281470681743360 + be4f b 0) / 16777216 % 256 = b 0 := by unfold be4f be4; simp only [Nat.zero_add]; omega
  have e1 : (281470681743360 + be4f b 0) / 65536 % 256 = b 1 := by unfold be4f be4; simp only [Nat.zero_add]; omega
  have e2 : (281470681743360 + be4f b 0) / 256 % 256 = b 2 := by unfold be4f be4; simp only [Nat.zero_add]; omega
  have e3 : (281470681743360 + be4f b 0) % 256 = b 3 := by unfold be4f be4; simp only [Nat.zero_add]; omega
  rw [e0, e1, e2, e3]
theorem tf_pre {b : Nat → Int} (hb : Bt b) (i : Nat) (hi : i < (dec (b 0)).length) : (tf b 0 3).getD i 0 ≠ 46 ∧ (tf b 0 3).getD i 0 ≠ 58 ∧ (tf b 0 3).getD i 0 ≠ 37 := by
  rw [tf_dig b 0 3 i hi]
  have := dec_dig (b 0) (hb 0) i hi
  omega
theorem law23_4 (b : Nat → Int) (hb : Bt b) (z : ByteArray) {b4 o4 b6 o6 : Nat} (w : World) (hg : Gl b4 o4 b6 o6 w) : Calls Tryd.prog 23 #[.agg (adr 4 b z)] w fun e w' => e = .returned (.bool true) ∧ Below w.heap.size w w' := by
  have hp := Bt_pre hb 4
  refine law23_4w b z w hg (fun z => z = ba (tf (pre 4 b) 0 3)) (fun w hg => ?_) (fun z hz w hg => ?_)
  · have h := iStr_4 (pre 4 b) hp ⟨#[]⟩ w hg
    rw [t4_tf hp] at h
    exact h.mono fun e w' ⟨he, hB⟩ => ⟨⟨_, rfl, he⟩, hB⟩
  · subst hz
    have hlen : (tf (pre 4 b) 0 3).length ≤ 1000 := by
      have h0 := dec_len (pre 4 b 0); have h1 := dec_len (pre 4 b 1); have h2 := dec_len (pre 4 b 2); have h3 := dec_len (pre 4 b 3)
      rw [tf_len]; simp only [offs]; omega
    have hd := dec_len (pre 4 b 0)
    refine implParse _ #[.int .u64 0, .int .u64 (281470681743360 + be4f (pre 4 b) 0), .pointer (some ⟨b4, o4, none⟩)] _ rfl (by simp [okc, Value.oneCell']) rfl (okc_adr _ _ _) w hg (fun w hg => ?_) (fun w hg => ?_)
    · refine pa_dot (tf (pre 4 b) 0 3) (By_tf _ (fun p _ => hp p)) (dec (pre 4 b 0)).length ?_ ?_ (fun i hi => tf_pre hp i hi) hlen _ rfl (by simp [okc, Value.oneCell']) _ w hg (fun w hg => parse4 (pre 4 b) hp w hg.g4)
      · have := offs_lt (pre 4 b) 0 (by omega); rw [tf_len]; simp only [offs] at this ⊢; omega
      · have := at_dot (pre 4 b) 0 (by omega); simpa [offs] using this
    · have h := out_4 0 (281470681743360 + be4f (pre 4 b) 0) (by have := be4f_lt hp 0; omega) w hg.g4
      rw [b4of_be4 hp, pre4_twice] at h
      exact h
theorem law23_0 (n : Int) (h4 : n ≠ 4) (h16 : n ≠ 16) (b : Nat → Int) (z : ByteArray) {b4 o4 b6 o6 : Nat} (w : World) (hg : Gl b4 o4 b6 o6 w) : Calls Tryd.prog 23 #[.agg (adr n b z)] w fun e w' => e = .returned (.bool true) ∧ Below w.heap.size w w' := by
  refine law23_0w n h4 h16 b z w hg (fun z => z = ba [105, 110, 118, 97, 108, 105, 100, 32, 73, 80]) (fun w hg => ?_) (fun z hz w hg => ?_)
  · exact (iStr_0 0 (by omega) (by omega) zb Bt_zb ⟨#[]⟩ w hg).mono fun e w' ⟨he, hB⟩ => ⟨⟨_, rfl, he⟩, hB⟩
  · subst hz
    exact implParseF _ w hg (fun w hg => pa_none _ (fun y hy => by simp at hy; omega) (by decide) (by decide) w)
end Go.Proofs.YtmlkcgacneealaaDoor
