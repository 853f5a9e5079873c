/- The bits of an address in the reference. No conditions but on the bytes. -/
import Derived.Test.YtmlkcgacneealaaDoorOwn
set_option linter.unusedVariables false
set_option linter.unusedSimpArgs false
namespace Go.Proofs.YtmlkcgacneealaaDoor
open Go.RowKit

/-- The bit j of the bytes b, the highest of each first. -/
def bt (b : Nat → Int) (j : Nat) : Bool := b (j / 8) / 2 ^ (7 - j % 8) % 2 == 1
theorem and1_fin : ∀ x : Fin 256, bits .and .u8 ((x.val : Nat) : Int) 1 = ((x.val : Nat) : Int) % 2 := by decide +kernel
theorem and1_u8 (x : Int) (h0 : 0 ≤ x) (h1 : x < 256) : bits .and .u8 x 1 = x % 2 := by
  obtain ⟨n, rfl⟩ := Int.eq_ofNat_of_zero_le h0
  exact and1_fin ⟨n, by omega⟩
theorem pow_split (x : Int) (m : Nat) (h0 : 0 ≤ x) (h1 : x < 256) : 0 ≤ x / 2 ^ m ∧ x / 2 ^ m < 256 := by
  have h2 : (0 : Int) < 2 ^ m := Int.pow_pos (by omega)
  refine ⟨Int.ediv_nonneg h0 (by omega), ?_⟩
  have := Int.ediv_le_self (a := x) (2 ^ m) h0
  omega
theorem bt_at (b : Nat → Int) (hb : Bt b) (k j : Nat) (hj : j < 8) : (bits .and .u8 (b k / 2 ^ (7 - j)) 1 == 1) = bt b (8 * k + j) := by
  obtain ⟨h0, h1⟩ := pow_split (b k) (7 - j) (hb k).1 (hb k).2
  rw [and1_u8 _ h0 h1]
  unfold bt
  rw [show (8 * k + j) / 8 = k by omega, show (8 * k + j) % 8 = j by omega]
def btl (b : Nat → Int) (k : Nat) : List Value := (List.range k).map fun i => .bool (bt b i)
theorem btl_succ (b : Nat → Int) (k : Nat) : btl b k ++ [.bool (bt b k)] = btl b (k + 1) := by unfold btl; rw [List.range_succ]; simp
theorem btl_len (b : Nat → Int) (k : Nat) : (btl b k).length = k := by simp [btl]
theorem btl_get (b : Nat → Int) (k i : Nat) (h : i < k) : (btl b k)[i]? = some (.bool (bt b i)) := by simp [btl, h]
set_option maxHeartbeats 4000000 in
set_option maxRecDepth 100000 in
theorem sbits_4 (b : Nat → Int) (hb : Bt b) (z : ByteArray) (w : World) :
    Calls Tryd.prog 108 #[.agg (adr 4 b z)] w (RowR w 4 32 (btl b 32)) := by
  obtain ⟨i0, hi, hz0, hz1, hz2⟩ := info_parts inf4
  have HB := Lib.hid hb
  clear hb
  go_enter Tryd.func108, Tryd.ntmps108
  go_wp2_with (first
    | (go_at_call 148; (with_reducible refine (sbytes_4 _ _ _).mono ?_); rintro e w1 ⟨v8, rfl, hown8, hb1⟩; have hB1 := below_via (w := w) (by repeat' (first | (with_reducible exact Below.refl _ _) | (with_reducible assumption) | (with_reducible refine Below.alloc ?_ ?_ _) | (with_reducible refine Below.drew ?_) | (with_reducible refine below_drewN ?_ _) | (with_reducible refine Below.setCell ?_ ?_ _) | (with_reducible refine below_setRow' ?_ ?_ _) | go_size)) hb1; have hL0 : w.heap.size < w1.heap.size := (by have hS0 := hb1.size; (try simp at hS0); omega); clear hb1; obtain ⟨g, cap8, rfl, hg0, hg1, hcap, hmax, hcell8, _⟩ := owns_cells hown8 (by omega); clear hown8))
  have HC8 := Lib.hid hcell8
  clear hcell8
  go_loopw [3, 10] (fun v i wr => ∃ k : Nat, k ≤ 4 ∧ i = .int .i64 k ∧ wr.ownsRow w1.heap.size 4 1 v (8 * k) (btl b (8 * k)) ∧ Below w1.heap.size w1 wr) (fun _ i _ => 4 - (intOf i).toNat)
  case atStart => exact ⟨0, by omega, rfl, World.ownsRow_nil _ _ _ _, Below.refl _ _⟩
  case round =>
    obtain ⟨k, hkn, rfl, hown, hbel⟩ := hrel
    by_cases hlt : k < 4
    · have hcell : wr.cell? ⟨g, k, none⟩ = some (.int .u8 (b k)) := by rw [hbel.cell (by exact hg1), HC8.out k hlt]; exact bl_get b 4 k hlt
      have hi0 : (0 : Int) ≤ (k : Int) := by omega
      have hi1 : (k : Int) < 4 := by omega
      obtain ⟨hx0, hx1⟩ := HB.out k
      go_wp2_with fail
      obtain ⟨wo, rfl⟩ : ∃ wo : World, wo = wr := ⟨_, rfl⟩
      go_loopw [3, 6] (fun v q wr => ∃ j : Nat, j ≤ 8 ∧ q = .int .i64 (7 - (j : Int)) ∧ wr.ownsRow w1.heap.size 4 1 v (8 * k + j) (btl b (8 * k + j)) ∧ Below w1.heap.size w1 wr) (fun _ q _ => (intOf q + 1).toNat)
      case atStart => exact ⟨0, by omega, rfl, hown, hbel⟩
      case round =>
        clear hown hbel hcell
        obtain ⟨j, hj8, rfl, hown, hbel⟩ := hrel
        by_cases hlj : j < 8
        · have hj0 : (0 : Int) ≤ 7 - (j : Int) := by omega
          have hj1 : (7 - (j : Int)) < 8 := by omega
          have hbt := Lib.hid (bt_at b HB.out k j hlj)
          go_wp2_with (at_builtin; refine wpList_append_own _ rfl _ _ 66 rfl w1.heap.size 4 i0 (.bool false) 1 1 Tryd.underlying66 hi hz0 hz1 hz2 rfl (by decide) _ _ _ rfl (hown.alloc _) ⟨wr.heap.size, 0, none⟩ 1 1 [.bool (bits .and .u8 (b k / 2 ^ (7 - j)) 1 == 1)] rfl rfl ?c1 ?c2 ?c3 ?c4 ?c5 ?_)
          case c1 =>
            intro q u hq
            match q, hq with
            | 0, hq => simp at hq; subst hq; simp [Addr.add]
          case c2 => intro u hu; simp at hu; subst hu; rfl
          case c3 => unfold maxLen; omega
          case c4 => omega
          case c5 => have := hbel.size; simp; omega
          intro v' w1' hown' hgrow _
          have hbel' : Below w1.heap.size w1 w1' := (hbel.alloc hbel.size _).grown hgrow (by have := hbel.size; simp; omega) (fun j e => ownBlock_ge hown e)
          rw [hbt.out, btl_succ] at hown'
          clear hgrow hown hbel hbt
          go_wp2
          go_roundw
          case rel => exact ⟨j + 1, by omega, by go_num, hown', hbel'⟩
          case measure => simp [intOf]; omega
        · obtain rfl : j = 8 := by omega
          go_wp2
          go_roundw
          case rel => exact ⟨k + 1, by omega, by go_num, hown, hbel⟩
          case measure => simp [intOf]; omega
    · obtain rfl : k = 4 := by omega
      go_wp2
      go_ret
      exact ⟨_, rfl, owns_mono hown (by omega), hB1.trans (hbel.mono (by omega))⟩
set_option maxHeartbeats 4000000 in
set_option maxRecDepth 100000 in
theorem sbits_16 (b : Nat → Int) (hb : Bt b) (z : ByteArray) (w : World) :
    Calls Tryd.prog 108 #[.agg (adr 16 b z)] w (RowR w 4 128 (btl b 128)) := by
  obtain ⟨i0, hi, hz0, hz1, hz2⟩ := info_parts inf4
  have HB := Lib.hid hb
  clear hb
  go_enter Tryd.func108, Tryd.ntmps108
  go_wp2_with (first
    | (go_at_call 148; (with_reducible refine (sbytes_16 _ _ _).mono ?_); rintro e w1 ⟨v8, rfl, hown8, hb1⟩; have hB1 := below_via (w := w) (by repeat' (first | (with_reducible exact Below.refl _ _) | (with_reducible assumption) | (with_reducible refine Below.alloc ?_ ?_ _) | (with_reducible refine Below.drew ?_) | (with_reducible refine below_drewN ?_ _) | (with_reducible refine Below.setCell ?_ ?_ _) | (with_reducible refine below_setRow' ?_ ?_ _) | go_size)) hb1; have hL0 : w.heap.size < w1.heap.size := (by have hS0 := hb1.size; (try simp at hS0); omega); clear hb1; obtain ⟨g, cap8, rfl, hg0, hg1, hcap, hmax, hcell8, _⟩ := owns_cells hown8 (by omega); clear hown8))
  have HC8 := Lib.hid hcell8
  clear hcell8
  go_loopw [3, 10] (fun v i wr => ∃ k : Nat, k ≤ 16 ∧ i = .int .i64 k ∧ wr.ownsRow w1.heap.size 4 1 v (8 * k) (btl b (8 * k)) ∧ Below w1.heap.size w1 wr) (fun _ i _ => 16 - (intOf i).toNat)
  case atStart => exact ⟨0, by omega, rfl, World.ownsRow_nil _ _ _ _, Below.refl _ _⟩
  case round =>
    obtain ⟨k, hkn, rfl, hown, hbel⟩ := hrel
    by_cases hlt : k < 16
    · have hcell : wr.cell? ⟨g, k, none⟩ = some (.int .u8 (b k)) := by rw [hbel.cell (by exact hg1), HC8.out k hlt]; exact bl_get b 16 k hlt
      have hi0 : (0 : Int) ≤ (k : Int) := by omega
      have hi1 : (k : Int) < 16 := by omega
      obtain ⟨hx0, hx1⟩ := HB.out k
      go_wp2_with fail
      obtain ⟨wo, rfl⟩ : ∃ wo : World, wo = wr := ⟨_, rfl⟩
      go_loopw [3, 6] (fun v q wr => ∃ j : Nat, j ≤ 8 ∧ q = .int .i64 (7 - (j : Int)) ∧ wr.ownsRow w1.heap.size 4 1 v (8 * k + j) (btl b (8 * k + j)) ∧ Below w1.heap.size w1 wr) (fun _ q _ => (intOf q + 1).toNat)
      case atStart => exact ⟨0, by omega, rfl, hown, hbel⟩
      case round =>
        clear hown hbel hcell
        obtain ⟨j, hj8, rfl, hown, hbel⟩ := hrel
        by_cases hlj : j < 8
        · have hj0 : (0 : Int) ≤ 7 - (j : Int) := by omega
          have hj1 : (7 - (j : Int)) < 8 := by omega
          have hbt := Lib.hid (bt_at b HB.out k j hlj)
          go_wp2_with (at_builtin; refine wpList_append_own _ rfl _ _ 66 rfl w1.heap.size 4 i0 (.bool false) 1 1 Tryd.underlying66 hi hz0 hz1 hz2 rfl (by decide) _ _ _ rfl (hown.alloc _) ⟨wr.heap.size, 0, none⟩ 1 1 [.bool (bits .and .u8 (b k / 2 ^ (7 - j)) 1 == 1)] rfl rfl ?c1 ?c2 ?c3 ?c4 ?c5 ?_)
          case c1 =>
            intro q u hq
            match q, hq with
            | 0, hq => simp at hq; subst hq; simp [Addr.add]
          case c2 => intro u hu; simp at hu; subst hu; rfl
          case c3 => unfold maxLen; omega
          case c4 => omega
          case c5 => have := hbel.size; simp; omega
          intro v' w1' hown' hgrow _
          have hbel' : Below w1.heap.size w1 w1' := (hbel.alloc hbel.size _).grown hgrow (by have := hbel.size; simp; omega) (fun j e => ownBlock_ge hown e)
          rw [hbt.out, btl_succ] at hown'
          clear hgrow hown hbel hbt
          go_wp2
          go_roundw
          case rel => exact ⟨j + 1, by omega, by go_num, hown', hbel'⟩
          case measure => simp [intOf]; omega
        · obtain rfl : j = 8 := by omega
          go_wp2
          go_roundw
          case rel => exact ⟨k + 1, by omega, by go_num, hown, hbel⟩
          case measure => simp [intOf]; omega
    · obtain rfl : k = 16 := by omega
      go_wp2
      go_ret
      exact ⟨_, rfl, owns_mono hown (by omega), hB1.trans (hbel.mono (by omega))⟩
end Go.Proofs.YtmlkcgacneealaaDoor
