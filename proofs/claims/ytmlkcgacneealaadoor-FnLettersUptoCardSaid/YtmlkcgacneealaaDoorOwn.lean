/- Rows that a call makes by append: their cells, the blocks beside them; the bytes and the bits of the reference. No conditions but on the bytes. -/
import Derived.Test.YtmlkcgacneealaaDoorSpc
import Derived.Deep.DeepCutAuto
set_option linter.unusedVariables false
set_option linter.unusedSimpArgs false
namespace Go.Proofs.YtmlkcgacneealaaDoor
open Go.RowKit

theorem inf5 : (Tryd.prog.info? 5).map (fun i => (i.zero, i.size, i.bytes)) = some (some (.int .u8 0), 1, 1) := by kernel_rfl
theorem inf4 : (Tryd.prog.info? 4).map (fun i => (i.zero, i.size, i.bytes)) = some (some (.bool false), 1, 1) := by kernel_rfl
theorem inf3 : (Tryd.prog.info? 3).map (fun i => (i.zero, i.size, i.bytes)) = some (some (.int .i64 0), 1, 8) := by kernel_rfl
theorem ownBlock_ge {w : World} {base size n k : Nat} {e : TypeId} {v : Value} {xs : List Value} (h : w.ownsRow base e size v n xs) (hk : v.ownBlock = some k) : base ≤ k := by
  obtain ⟨_, ⟨rfl, _⟩ | ⟨g, cap, cur, rfl, hg, _⟩⟩ := h
  · cases hk
  · cases hk; exact hg
theorem blk_grown {w w' : World} {row : Option Nat} {k : Nat} (hg : w.grownBy w' row) (hk : k < w.heap.size) (hne : row ≠ some k) : blk? w' k = blk? w k := by
  unfold blk?; rw [hg.block k hk (fun e => hne e.symm)]
/-- The cells of a row of the call's own. -/
theorem owns_cells {w : World} {base n : Nat} {e : TypeId} {v : Value} {xs : List Value} (h : w.ownsRow base e 1 v n xs) (hn : 0 < n) :
    ∃ g cap, v = .slice (some ⟨g, 0, none⟩) n cap ∧ base ≤ g ∧ g < w.heap.size ∧ n ≤ cap ∧ cap ≤ maxLen ∧ (∀ i, i < n → w.cell? ⟨g, i, none⟩ = xs[i]?) ∧ (∀ i, w.frozen? ⟨g, i, none⟩ = false) := by
  obtain ⟨hl, ⟨rfl, h0⟩ | ⟨g, cap, cur, rfl, hg, hh, hc, hm, hs, ht⟩⟩ := h
  · omega
  · refine ⟨g, cap, rfl, hg, lt_of_some hh, hc, hm, fun i hi => ?_, fun i => frozen_of hh i⟩
    rw [cells_of hh i, ← ht, List.getElem?_take_of_lt (by omega)]
    simp
/-- The bytes of an address as cells. -/
def bl (b : Nat → Int) (k : Nat) : List Value := (List.range k).map fun i => .int .u8 (b i)
theorem bl_succ (b : Nat → Int) (k : Nat) : bl b k ++ [.int .u8 (b k)] = bl b (k + 1) := by unfold bl; rw [List.range_succ]; simp
theorem bl_len (b : Nat → Int) (k : Nat) : (bl b k).length = k := by simp [bl]
theorem bl_get (b : Nat → Int) (k i : Nat) (h : i < k) : (bl b k)[i]? = some (.int .u8 (b i)) := by simp [bl, h]
/-- What a call leaves that makes a row: a new one. -/
def RowR (w : World) (e : TypeId) (n : Nat) (xs : List Value) (en : Ending) (w' : World) : Prop := ∃ v, en = .returned v ∧ w'.ownsRow w.heap.size e 1 v n xs ∧ Below w.heap.size w w'
theorem owns_mono {w : World} {base base' n : Nat} {e : TypeId} {v : Value} {xs : List Value} (h : w.ownsRow base e 1 v n xs) (hb : base' ≤ base) : w.ownsRow base' e 1 v n xs := by
  obtain ⟨hl, h0 | ⟨g, cap, cur, rfl, hg, hr⟩⟩ := h
  · exact ⟨hl, Or.inl h0⟩
  · exact ⟨hl, Or.inr ⟨g, cap, cur, rfl, by omega, hr⟩⟩
set_option maxHeartbeats 4000000 in
set_option maxRecDepth 100000 in
theorem sbytes_0 (n : Int) (h4 : n ≠ 4) (h16 : n ≠ 16) (b : Nat → Int) (z : ByteArray) (w : World) :
    Calls Tryd.prog 148 #[.agg (adr n b z)] w fun e w' => e = .returned (.slice none 0 0) ∧ Below w.heap.size w w' := by
  go_enter Tryd.func148, Tryd.ntmps148
  go_wp2_with (first
    | (go_at_call 81; (with_reducible refine (same_0 n h4 h16 _ _ _).mono ?_); rintro e w1 ⟨rfl, hb1⟩; have hk1 := blk?_below hb1; (try simp only [size_drew', size_drewN'] at hk1); have hB1 := below_via (w := w) (by repeat' (first | (with_reducible exact Below.refl _ _) | (with_reducible assumption) | (with_reducible refine Below.alloc ?_ ?_ _) | (with_reducible refine Below.drew ?_) | (with_reducible refine below_drewN ?_ _) | (with_reducible refine Below.setCell ?_ ?_ _) | (with_reducible refine below_setRow' ?_ ?_ _) | go_size)) hb1; have hL0 : w.heap.size < w1.heap.size := (by have hS0 := hb1.size; (try simp at hS0); omega); have hLe : w.heap.size ≤ w1.heap.size := hB1.size; clear hb1))
  refine wp_loop_rounds 1 ?_
  rw [rounds_succ]
  go_wp2
  go_ret
  exact ⟨rfl, (by repeat' (first | (with_reducible exact Below.refl _ _) | (with_reducible assumption) | (with_reducible refine Below.alloc ?_ ?_ _) | (with_reducible refine Below.drew ?_) | (with_reducible refine below_drewN ?_ _) | (with_reducible refine Below.setCell ?_ ?_ _) | (with_reducible refine below_setRow' ?_ ?_ _) | go_size))⟩
set_option maxHeartbeats 4000000 in
set_option maxRecDepth 100000 in
theorem sbytes_4 (b : Nat → Int) (z : ByteArray) (w : World) :
    Calls Tryd.prog 148 #[.agg (adr 4 b z)] w (RowR w 5 4 (bl b 4)) := by
  obtain ⟨i0, hi, hz0, hz1, hz2⟩ := info_parts inf5
  go_enter Tryd.func148, Tryd.ntmps148
  go_wp2_with (first
    | (go_at_call 81; (with_reducible refine (same_4 _ _ _).mono ?_); rintro e w1 ⟨rfl, hb1⟩; have hk1 := blk?_below hb1; (try simp only [size_drew', size_drewN'] at hk1); have hB1 := below_via (w := w) (by repeat' (first | (with_reducible exact Below.refl _ _) | (with_reducible assumption) | (with_reducible refine Below.alloc ?_ ?_ _) | (with_reducible refine Below.drew ?_) | (with_reducible refine below_drewN ?_ _) | (with_reducible refine Below.setCell ?_ ?_ _) | (with_reducible refine below_setRow' ?_ ?_ _) | go_size)) hb1; have hL0 : w.heap.size < w1.heap.size := (by have hS0 := hb1.size; (try simp at hS0); omega); have hLe : w.heap.size ≤ w1.heap.size := hB1.size; clear hb1))
  have hk := hk1 w.heap.size (by simp)
  rw [blk?_new _ _ _ _ rfl] at hk
  go_loopw [3, 4, 8] (fun v v4 i wr => ∃ k : Nat, k ≤ 4 ∧ i = .int .i64 k ∧ wr.ownsRow (w.heap.size + 1) 5 1 v k (bl b k) ∧ blk? wr w.heap.size = some (adr 4 b z) ∧ Below w.heap.size w wr ∧ w.heap.size + 1 ≤ wr.heap.size) (fun _ _ i _ => 4 - (intOf i).toNat)
  case atStart => exact ⟨0, by omega, rfl, World.ownsRow_nil _ _ _ _, hk, hB1, hL0⟩
  case round =>
    obtain ⟨k, hkn, rfl, hown, hblk, hbel, hsz⟩ := hrel
    clear hk1 hB1 hL0 hLe hk
    by_cases hlt : k < 4
    · have hcell : wr.cell? ⟨w.heap.size, 1 + k, none⟩ = some (.int .u8 (b k)) := by rw [blk?_cell hblk, adr_byte' _ _ _ _ (by omega)]
      have hi0 : (0 : Int) ≤ (k : Int) := by omega
      have hi1 : (k : Int) < 4 := by omega
      have hi2 : (k : Int) < 16 := by omega
      have HBK := Lib.hid hblk
      clear hblk
      go_wp2_with (at_builtin; refine wpList_append_own _ rfl _ _ 28 rfl (w.heap.size + 1) 5 i0 (.int .u8 0) 1 1 Tryd.underlying28 hi hz0 hz1 hz2 rfl (by decide) _ _ _ rfl (hown.alloc _) ⟨wr.heap.size, 0, none⟩ 1 1 [.int .u8 (b k)] rfl rfl ?c1 ?c2 ?c3 ?c4 ?c5 ?_)
      case c1 =>
        intro j u hj
        match j, hj with
        | 0, hj => simp at hj; subst hj; simp [Addr.add]
      case c2 => intro u hu; simp at hu; subst hu; rfl
      case c3 => unfold maxLen; omega
      case c4 => omega
      case c5 => simp; omega
      intro v' w1' hown' hgrow _
      have hblk' : blk? w1' w.heap.size = some (adr 4 b z) := by
        rw [blk_grown hgrow (by simp; omega) (fun e => by have := ownBlock_ge hown e; omega), blk?_old _ _ _ (by omega)]; exact HBK.out
      have hbel' : Below w.heap.size w w1' := (hbel.alloc (by omega) _).grown hgrow (by simp; omega) (fun j e => by have := ownBlock_ge hown e; omega)
      have hsz' : w.heap.size + 1 ≤ w1'.heap.size := by have := hgrow.size; simp at this; omega
      rw [bl_succ] at hown'
      clear hgrow hown hbel hsz hcell HBK
      go_wp2
      go_roundw
      case rel => exact ⟨k + 1, by omega, by go_num, hown', hblk', hbel', hsz'⟩
      case measure => simp [intOf]; omega
    · obtain rfl : k = 4 := by omega
      go_wp2
      go_ret
      exact ⟨_, rfl, owns_mono hown (by omega), hbel⟩
set_option maxHeartbeats 4000000 in
set_option maxRecDepth 100000 in
theorem sbytes_16 (b : Nat → Int) (z : ByteArray) (w : World) :
    Calls Tryd.prog 148 #[.agg (adr 16 b z)] w (RowR w 5 16 (bl b 16)) := by
  obtain ⟨i0, hi, hz0, hz1, hz2⟩ := info_parts inf5
  go_enter Tryd.func148, Tryd.ntmps148
  go_wp2_with (first
    | (go_at_call 81; (with_reducible refine (same_16 _ _ _).mono ?_); rintro e w1 ⟨rfl, hb1⟩; have hk1 := blk?_below hb1; (try simp only [size_drew', size_drewN'] at hk1); have hB1 := below_via (w := w) (by repeat' (first | (with_reducible exact Below.refl _ _) | (with_reducible assumption) | (with_reducible refine Below.alloc ?_ ?_ _) | (with_reducible refine Below.drew ?_) | (with_reducible refine below_drewN ?_ _) | (with_reducible refine Below.setCell ?_ ?_ _) | (with_reducible refine below_setRow' ?_ ?_ _) | go_size)) hb1; have hL0 : w.heap.size < w1.heap.size := (by have hS0 := hb1.size; (try simp at hS0); omega); have hLe : w.heap.size ≤ w1.heap.size := hB1.size; clear hb1))
  have hk := hk1 w.heap.size (by simp)
  rw [blk?_new _ _ _ _ rfl] at hk
  go_loopw [3, 4, 8] (fun v v4 i wr => ∃ k : Nat, k ≤ 16 ∧ i = .int .i64 k ∧ wr.ownsRow (w.heap.size + 1) 5 1 v k (bl b k) ∧ blk? wr w.heap.size = some (adr 16 b z) ∧ Below w.heap.size w wr ∧ w.heap.size + 1 ≤ wr.heap.size) (fun _ _ i _ => 16 - (intOf i).toNat)
  case atStart => exact ⟨0, by omega, rfl, World.ownsRow_nil _ _ _ _, hk, hB1, hL0⟩
  case round =>
    obtain ⟨k, hkn, rfl, hown, hblk, hbel, hsz⟩ := hrel
    clear hk1 hB1 hL0 hLe hk
    by_cases hlt : k < 16
    · have hcell : wr.cell? ⟨w.heap.size, 1 + k, none⟩ = some (.int .u8 (b k)) := by rw [blk?_cell hblk, adr_byte' _ _ _ _ (by omega)]
      have hi0 : (0 : Int) ≤ (k : Int) := by omega
      have hi1 : (k : Int) < 16 := by omega
      have hi2 : (k : Int) < 16 := by omega
      have HBK := Lib.hid hblk
      clear hblk
      go_wp2_with (at_builtin; refine wpList_append_own _ rfl _ _ 28 rfl (w.heap.size + 1) 5 i0 (.int .u8 0) 1 1 Tryd.underlying28 hi hz0 hz1 hz2 rfl (by decide) _ _ _ rfl (hown.alloc _) ⟨wr.heap.size, 0, none⟩ 1 1 [.int .u8 (b k)] rfl rfl ?c1 ?c2 ?c3 ?c4 ?c5 ?_)
      case c1 =>
        intro j u hj
        match j, hj with
        | 0, hj => simp at hj; subst hj; simp [Addr.add]
      case c2 => intro u hu; simp at hu; subst hu; rfl
      case c3 => unfold maxLen; omega
      case c4 => omega
      case c5 => simp; omega
      intro v' w1' hown' hgrow _
      have hblk' : blk? w1' w.heap.size = some (adr 16 b z) := by
        rw [blk_grown hgrow (by simp; omega) (fun e => by have := ownBlock_ge hown e; omega), blk?_old _ _ _ (by omega)]; exact HBK.out
      have hbel' : Below w.heap.size w w1' := (hbel.alloc (by omega) _).grown hgrow (by simp; omega) (fun j e => by have := ownBlock_ge hown e; omega)
      have hsz' : w.heap.size + 1 ≤ w1'.heap.size := by have := hgrow.size; simp at this; omega
      rw [bl_succ] at hown'
      clear hgrow hown hbel hsz hcell HBK
      go_wp2
      go_roundw
      case rel => exact ⟨k + 1, by omega, by go_num, hown', hblk', hbel', hsz'⟩
      case measure => simp [intOf]; omega
    · obtain rfl : k = 16 := by omega
      go_wp2
      go_ret
      exact ⟨_, rfl, owns_mono hown (by omega), hbel⟩
end Go.Proofs.YtmlkcgacneealaaDoor
