/- The groups of an IPv6 address; four hexadecimal digits behind a text; a constant text behind a text; the text of a row. Conditions: the row is there, with room. -/
import Derived.Test.YtmlkcgacneealaaDoorTxt2
import Derived.Deep.RegionHeld3
import Derived.Room.AppendFits
set_option linter.unusedVariables false
set_option linter.unusedSimpArgs false
namespace Go.Proofs.YtmlkcgacneealaaDoor
open Go.RowKit
theorem idx138_1 (p q : Option Addr) (w : World) : (Instr.index 138 (.agg #[.pointer p, .pointer q]) (.int .u8 1)).run Tryd.prog w = .ok (.pointer q) w := by kernel_rfl
attribute [go_sem] idx138_1
/-- The groups of an IPv6 address by its two halves. -/
def grp (hi lo : Int) : Nat → Int
  | 0 => hi / 281474976710656
  | 1 => hi / 4294967296 % 65536
  | 2 => hi / 65536 % 65536
  | 3 => hi % 65536
  | 4 => lo / 281474976710656
  | 5 => lo / 4294967296 % 65536
  | 6 => lo / 65536 % 65536
  | _ => lo % 65536
set_option maxHeartbeats 4000000 in
set_option maxRecDepth 100000 in
theorem v6u16_1 (hi lo : Int) (p : Option Addr) (hhi : 0 ≤ hi ∧ hi < 18446744073709551616) (hlo : 0 ≤ lo ∧ lo < 18446744073709551616) (w : World) :
    Calls Tryd.prog 153 #[.agg #[.int .u64 hi, .int .u64 lo, .pointer p], .int .u8 1] w fun e w' => e = .returned (.int .u16 (hi / 4294967296 % 65536)) ∧ Below w.heap.size w w' := by
  obtain ⟨hh0, hh1⟩ := hhi
  obtain ⟨hl0, hl1⟩ := hlo
  go_enter Tryd.func153, Tryd.ntmps153
  go_wp2_with (first
    | (go_at_call 171; (with_reducible refine (halves_any _ _).mono ?_); rintro e w1 ⟨rfl, hb1⟩; have hk1 := blk?_below hb1; (try simp only [size_drew', size_drewN'] at hk1); have hB1 := below_via (w := w) (by repeat' (first | (with_reducible exact Below.refl _ _) | (with_reducible assumption) | (with_reducible refine Below.alloc ?_ ?_ _) | (with_reducible refine Below.drew ?_) | (with_reducible refine below_drewN ?_ _) | (with_reducible refine Below.setCell ?_ ?_ _) | (with_reducible refine below_setRow' ?_ ?_ _) | go_size)) hb1; have hL0 : w.heap.size < w1.heap.size := (by have hS0 := hb1.size; (try simp at hS0); omega); have hLe : w.heap.size ≤ w1.heap.size := hB1.size; obtain ⟨hc1, hf1⟩ := bcell hb1; (try simp only [size_drew', size_drewN'] at hc1); (try simp only [size_drew', size_drewN'] at hf1); clear hb1))
  go_ret
  exact ⟨rfl, (by repeat' (first | (with_reducible exact Below.refl _ _) | (with_reducible assumption) | (with_reducible refine Below.alloc ?_ ?_ _) | (with_reducible refine Below.drew ?_) | (with_reducible refine below_drewN ?_ _) | (with_reducible refine Below.setCell ?_ ?_ _) | (with_reducible refine below_setRow' ?_ ?_ _) | go_size))⟩
set_option maxHeartbeats 4000000 in
set_option maxRecDepth 100000 in
theorem v6u16_2 (hi lo : Int) (p : Option Addr) (hhi : 0 ≤ hi ∧ hi < 18446744073709551616) (hlo : 0 ≤ lo ∧ lo < 18446744073709551616) (w : World) :
    Calls Tryd.prog 153 #[.agg #[.int .u64 hi, .int .u64 lo, .pointer p], .int .u8 2] w fun e w' => e = .returned (.int .u16 (hi / 65536 % 65536)) ∧ Below w.heap.size w w' := by
  obtain ⟨hh0, hh1⟩ := hhi
  obtain ⟨hl0, hl1⟩ := hlo
  go_enter Tryd.func153, Tryd.ntmps153
  go_wp2_with (first
    | (go_at_call 171; (with_reducible refine (halves_any _ _).mono ?_); rintro e w1 ⟨rfl, hb1⟩; have hk1 := blk?_below hb1; (try simp only [size_drew', size_drewN'] at hk1); have hB1 := below_via (w := w) (by repeat' (first | (with_reducible exact Below.refl _ _) | (with_reducible assumption) | (with_reducible refine Below.alloc ?_ ?_ _) | (with_reducible refine Below.drew ?_) | (with_reducible refine below_drewN ?_ _) | (with_reducible refine Below.setCell ?_ ?_ _) | (with_reducible refine below_setRow' ?_ ?_ _) | go_size)) hb1; have hL0 : w.heap.size < w1.heap.size := (by have hS0 := hb1.size; (try simp at hS0); omega); have hLe : w.heap.size ≤ w1.heap.size := hB1.size; obtain ⟨hc1, hf1⟩ := bcell hb1; (try simp only [size_drew', size_drewN'] at hc1); (try simp only [size_drew', size_drewN'] at hf1); clear hb1))
  go_ret
  exact ⟨rfl, (by repeat' (first | (with_reducible exact Below.refl _ _) | (with_reducible assumption) | (with_reducible refine Below.alloc ?_ ?_ _) | (with_reducible refine Below.drew ?_) | (with_reducible refine below_drewN ?_ _) | (with_reducible refine Below.setCell ?_ ?_ _) | (with_reducible refine below_setRow' ?_ ?_ _) | go_size))⟩
set_option maxHeartbeats 4000000 in
set_option maxRecDepth 100000 in
theorem v6u16_3 (hi lo : Int) (p : Option Addr) (hhi : 0 ≤ hi ∧ hi < 18446744073709551616) (hlo : 0 ≤ lo ∧ lo < 18446744073709551616) (w : World) :
    Calls Tryd.prog 153 #[.agg #[.int .u64 hi, .int .u64 lo, .pointer p], .int .u8 3] w fun e w' => e = .returned (.int .u16 (hi % 65536)) ∧ Below w.heap.size w w' := by
  obtain ⟨hh0, hh1⟩ := hhi
  obtain ⟨hl0, hl1⟩ := hlo
  go_enter Tryd.func153, Tryd.ntmps153
  go_wp2_with (first
    | (go_at_call 171; (with_reducible refine (halves_any _ _).mono ?_); rintro e w1 ⟨rfl, hb1⟩; have hk1 := blk?_below hb1; (try simp only [size_drew', size_drewN'] at hk1); have hB1 := below_via (w := w) (by repeat' (first | (with_reducible exact Below.refl _ _) | (with_reducible assumption) | (with_reducible refine Below.alloc ?_ ?_ _) | (with_reducible refine Below.drew ?_) | (with_reducible refine below_drewN ?_ _) | (with_reducible refine Below.setCell ?_ ?_ _) | (with_reducible refine below_setRow' ?_ ?_ _) | go_size)) hb1; have hL0 : w.heap.size < w1.heap.size := (by have hS0 := hb1.size; (try simp at hS0); omega); have hLe : w.heap.size ≤ w1.heap.size := hB1.size; obtain ⟨hc1, hf1⟩ := bcell hb1; (try simp only [size_drew', size_drewN'] at hc1); (try simp only [size_drew', size_drewN'] at hf1); clear hb1))
  go_ret
  exact ⟨rfl, (by repeat' (first | (with_reducible exact Below.refl _ _) | (with_reducible assumption) | (with_reducible refine Below.alloc ?_ ?_ _) | (with_reducible refine Below.drew ?_) | (with_reducible refine below_drewN ?_ _) | (with_reducible refine Below.setCell ?_ ?_ _) | (with_reducible refine below_setRow' ?_ ?_ _) | go_size))⟩
set_option maxHeartbeats 4000000 in
set_option maxRecDepth 100000 in
theorem v6u16_4 (hi lo : Int) (p : Option Addr) (hhi : 0 ≤ hi ∧ hi < 18446744073709551616) (hlo : 0 ≤ lo ∧ lo < 18446744073709551616) (w : World) :
    Calls Tryd.prog 153 #[.agg #[.int .u64 hi, .int .u64 lo, .pointer p], .int .u8 4] w fun e w' => e = .returned (.int .u16 (lo / 281474976710656)) ∧ Below w.heap.size w w' := by
  obtain ⟨hh0, hh1⟩ := hhi
  obtain ⟨hl0, hl1⟩ := hlo
  go_enter Tryd.func153, Tryd.ntmps153
  go_wp2_with (first
    | (go_at_call 171; (with_reducible refine (halves_any _ _).mono ?_); rintro e w1 ⟨rfl, hb1⟩; have hk1 := blk?_below hb1; (try simp only [size_drew', size_drewN'] at hk1); have hB1 := below_via (w := w) (by repeat' (first | (with_reducible exact Below.refl _ _) | (with_reducible assumption) | (with_reducible refine Below.alloc ?_ ?_ _) | (with_reducible refine Below.drew ?_) | (with_reducible refine below_drewN ?_ _) | (with_reducible refine Below.setCell ?_ ?_ _) | (with_reducible refine below_setRow' ?_ ?_ _) | go_size)) hb1; have hL0 : w.heap.size < w1.heap.size := (by have hS0 := hb1.size; (try simp at hS0); omega); have hLe : w.heap.size ≤ w1.heap.size := hB1.size; obtain ⟨hc1, hf1⟩ := bcell hb1; (try simp only [size_drew', size_drewN'] at hc1); (try simp only [size_drew', size_drewN'] at hf1); clear hb1))
  go_ret
  exact ⟨rfl, (by repeat' (first | (with_reducible exact Below.refl _ _) | (with_reducible assumption) | (with_reducible refine Below.alloc ?_ ?_ _) | (with_reducible refine Below.drew ?_) | (with_reducible refine below_drewN ?_ _) | (with_reducible refine Below.setCell ?_ ?_ _) | (with_reducible refine below_setRow' ?_ ?_ _) | go_size))⟩
set_option maxHeartbeats 4000000 in
set_option maxRecDepth 100000 in
theorem v6u16_5 (hi lo : Int) (p : Option Addr) (hhi : 0 ≤ hi ∧ hi < 18446744073709551616) (hlo : 0 ≤ lo ∧ lo < 18446744073709551616) (w : World) :
    Calls Tryd.prog 153 #[.agg #[.int .u64 hi, .int .u64 lo, .pointer p], .int .u8 5] w fun e w' => e = .returned (.int .u16 (lo / 4294967296 % 65536)) ∧ Below w.heap.size w w' := by
  obtain ⟨hh0, hh1⟩ := hhi
  obtain ⟨hl0, hl1⟩ := hlo
  go_enter Tryd.func153, Tryd.ntmps153
  go_wp2_with (first
    | (go_at_call 171; (with_reducible refine (halves_any _ _).mono ?_); rintro e w1 ⟨rfl, hb1⟩; have hk1 := blk?_below hb1; (try simp only [size_drew', size_drewN'] at hk1); have hB1 := below_via (w := w) (by repeat' (first | (with_reducible exact Below.refl _ _) | (with_reducible assumption) | (with_reducible refine Below.alloc ?_ ?_ _) | (with_reducible refine Below.drew ?_) | (with_reducible refine below_drewN ?_ _) | (with_reducible refine Below.setCell ?_ ?_ _) | (with_reducible refine below_setRow' ?_ ?_ _) | go_size)) hb1; have hL0 : w.heap.size < w1.heap.size := (by have hS0 := hb1.size; (try simp at hS0); omega); have hLe : w.heap.size ≤ w1.heap.size := hB1.size; obtain ⟨hc1, hf1⟩ := bcell hb1; (try simp only [size_drew', size_drewN'] at hc1); (try simp only [size_drew', size_drewN'] at hf1); clear hb1))
  go_ret
  exact ⟨rfl, (by repeat' (first | (with_reducible exact Below.refl _ _) | (with_reducible assumption) | (with_reducible refine Below.alloc ?_ ?_ _) | (with_reducible refine Below.drew ?_) | (with_reducible refine below_drewN ?_ _) | (with_reducible refine Below.setCell ?_ ?_ _) | (with_reducible refine below_setRow' ?_ ?_ _) | go_size))⟩
set_option maxHeartbeats 4000000 in
set_option maxRecDepth 100000 in
theorem v6u16_6 (hi lo : Int) (p : Option Addr) (hhi : 0 ≤ hi ∧ hi < 18446744073709551616) (hlo : 0 ≤ lo ∧ lo < 18446744073709551616) (w : World) :
    Calls Tryd.prog 153 #[.agg #[.int .u64 hi, .int .u64 lo, .pointer p], .int .u8 6] w fun e w' => e = .returned (.int .u16 (lo / 65536 % 65536)) ∧ Below w.heap.size w w' := by
  obtain ⟨hh0, hh1⟩ := hhi
  obtain ⟨hl0, hl1⟩ := hlo
  go_enter Tryd.func153, Tryd.ntmps153
  go_wp2_with (first
    | (go_at_call 171; (with_reducible refine (halves_any _ _).mono ?_); rintro e w1 ⟨rfl, hb1⟩; have hk1 := blk?_below hb1; (try simp only [size_drew', size_drewN'] at hk1); have hB1 := below_via (w := w) (by repeat' (first | (with_reducible exact Below.refl _ _) | (with_reducible assumption) | (with_reducible refine Below.alloc ?_ ?_ _) | (with_reducible refine Below.drew ?_) | (with_reducible refine below_drewN ?_ _) | (with_reducible refine Below.setCell ?_ ?_ _) | (with_reducible refine below_setRow' ?_ ?_ _) | go_size)) hb1; have hL0 : w.heap.size < w1.heap.size := (by have hS0 := hb1.size; (try simp at hS0); omega); have hLe : w.heap.size ≤ w1.heap.size := hB1.size; obtain ⟨hc1, hf1⟩ := bcell hb1; (try simp only [size_drew', size_drewN'] at hc1); (try simp only [size_drew', size_drewN'] at hf1); clear hb1))
  go_ret
  exact ⟨rfl, (by repeat' (first | (with_reducible exact Below.refl _ _) | (with_reducible assumption) | (with_reducible refine Below.alloc ?_ ?_ _) | (with_reducible refine Below.drew ?_) | (with_reducible refine below_drewN ?_ _) | (with_reducible refine Below.setCell ?_ ?_ _) | (with_reducible refine below_setRow' ?_ ?_ _) | go_size))⟩
set_option maxHeartbeats 4000000 in
set_option maxRecDepth 100000 in
theorem v6u16_7 (hi lo : Int) (p : Option Addr) (hhi : 0 ≤ hi ∧ hi < 18446744073709551616) (hlo : 0 ≤ lo ∧ lo < 18446744073709551616) (w : World) :
    Calls Tryd.prog 153 #[.agg #[.int .u64 hi, .int .u64 lo, .pointer p], .int .u8 7] w fun e w' => e = .returned (.int .u16 (lo % 65536)) ∧ Below w.heap.size w w' := by
  obtain ⟨hh0, hh1⟩ := hhi
  obtain ⟨hl0, hl1⟩ := hlo
  go_enter Tryd.func153, Tryd.ntmps153
  go_wp2_with (first
    | (go_at_call 171; (with_reducible refine (halves_any _ _).mono ?_); rintro e w1 ⟨rfl, hb1⟩; have hk1 := blk?_below hb1; (try simp only [size_drew', size_drewN'] at hk1); have hB1 := below_via (w := w) (by repeat' (first | (with_reducible exact Below.refl _ _) | (with_reducible assumption) | (with_reducible refine Below.alloc ?_ ?_ _) | (with_reducible refine Below.drew ?_) | (with_reducible refine below_drewN ?_ _) | (with_reducible refine Below.setCell ?_ ?_ _) | (with_reducible refine below_setRow' ?_ ?_ _) | go_size)) hb1; have hL0 : w.heap.size < w1.heap.size := (by have hS0 := hb1.size; (try simp at hS0); omega); have hLe : w.heap.size ≤ w1.heap.size := hB1.size; obtain ⟨hc1, hf1⟩ := bcell hb1; (try simp only [size_drew', size_drewN'] at hc1); (try simp only [size_drew', size_drewN'] at hf1); clear hb1))
  go_ret
  exact ⟨rfl, (by repeat' (first | (with_reducible exact Below.refl _ _) | (with_reducible assumption) | (with_reducible refine Below.alloc ?_ ?_ _) | (with_reducible refine Below.drew ?_) | (with_reducible refine below_drewN ?_ _) | (with_reducible refine Below.setCell ?_ ?_ _) | (with_reducible refine below_setRow' ?_ ?_ _) | go_size))⟩
theorem v6u16 (hi lo : Int) (p : Option Addr) (hhi : 0 ≤ hi ∧ hi < 18446744073709551616) (hlo : 0 ≤ lo ∧ lo < 18446744073709551616) (k : Nat) (hk : k < 8) (w : World) :
    Calls Tryd.prog 153 #[.agg #[.int .u64 hi, .int .u64 lo, .pointer p], .int .u8 k] w fun e w' => e = .returned (.int .u16 (grp hi lo k)) ∧ Below w.heap.size w w' := by
  match k, hk with
  | 0, _ => exact v6u16_0 hi lo p hhi w
  | 1, _ => exact v6u16_1 hi lo p hhi hlo w
  | 2, _ => exact v6u16_2 hi lo p hhi hlo w
  | 3, _ => exact v6u16_3 hi lo p hhi hlo w
  | 4, _ => exact v6u16_4 hi lo p hhi hlo w
  | 5, _ => exact v6u16_5 hi lo p hhi hlo w
  | 6, _ => exact v6u16_6 hi lo p hhi hlo w
  | 7, _ => exact v6u16_7 hi lo p hhi hlo w
  | k + 8, hk => omega
theorem grp_lt (hi lo : Int) (hhi : 0 ≤ hi ∧ hi < 18446744073709551616) (hlo : 0 ≤ lo ∧ lo < 18446744073709551616) (k : Nat) (hk : k < 8) : 0 ≤ grp hi lo k ∧ grp hi lo k < 65536 := by
  match k, hk with
  | 0, _ => simp only [grp]; omega
  | 1, _ => simp only [grp]; omega
  | 2, _ => simp only [grp]; omega
  | 3, _ => simp only [grp]; omega
  | 4, _ => simp only [grp]; omega
  | 5, _ => simp only [grp]; omega
  | 6, _ => simp only [grp]; omega
  | 7, _ => simp only [grp]; omega
  | k + 8, hk => omega
/-- append within the room as one step of a region that draws. -/
theorem step_append_buf {ops : Array Oper} {o : Oper} {a : Act} {w : World} {K : Act → World → Prop} {Q : Exit → Act → World → Prop} {E : Prop}
    (hg : o.guard = none) (s x : Operand) (hop : o.op = Op.call { callee := Callee.builtin Builtin.append, args := #[s, x], argTypes := #[28, 28] })
    (g k cap : Nat) (t : List Int) (hs : a.eval s = .slice (some ⟨g, 0, none⟩) k cap) (gs m c : Nat) (news : List Int) (hx : a.eval x = .slice (some ⟨gs, 0, none⟩) m c)
    (hk : t.length = k) (hn : news.length = m) (hroom : k + m ≤ cap) (hblk : blk? w g = some (bufc cap t)) (hsrc : blk? w gs = some (news.map (Value.int .u8)).toArray)
    (hK : ∀ w', blk? w' g = some (bufc cap (t ++ news)) → GX g w w' → K (a.put o.dst (.slice (some ⟨g, 0, none⟩) (k + m) cap)) w') :
    if Region.wanted o (yielded ops a.tmps) = true then Oper.wp Tryd.prog o a w K Q else E := by
  have hw : Region.wanted o (yielded ops a.tmps) = true := by simp [Region.wanted, hg]
  rw [if_pos hw]
  obtain ⟨i0, hi, hz0, hz1, hz2⟩ := info_parts inf5
  have hrun := run_append_room_cells (P := Tryd.prog) w 28 o.type 5 i0 Tryd.underlying28 hi g 0 k cap ⟨gs, 0, none⟩ m c (news.map (Value.int .u8)) (by rw [hz1]; simp [hn])
    (fun j u hj => by
      rw [Addr.add_lit, Nat.zero_add, blk?_cell hsrc]
      simpa using hj)
    (fun u hu => by obtain ⟨v, _, rfl⟩ := List.mem_map.1 hu; rfl) hroom
    (fun j hj => by
      rw [hz1, Nat.mul_one, Nat.zero_add, blk?_cell hblk, bufc_room _ _ _ (by omega) (by simp at hj; omega)]; rfl)
    (fun j hj => blk?_frozen hblk _)
  unfold Oper.wp
  simp [execOp, hop, resolve, invoke, builtin, hs, hx, hrun, Result.andThen]
  refine hK _ ?_ (gx_setCells _ _ _ _)
  rw [hz1, Nat.mul_one, ← hk]
  exact blk_setCells g cap news t w hblk (by omega)
set_option maxHeartbeats 4000000 in
set_option maxRecDepth 100000 in
theorem appPad (g k cap : Nat) (s : List Int) (hs : s.length = k) (x : Int) (hx : 0 ≤ x ∧ x < 65536) (hc : k + 4 ≤ cap) (w : World) (hg : g < w.heap.size) (hb : blk? w g = some (bufc cap s)) :
    Calls Tryd.prog 152 #[.slice (some ⟨g, 0, none⟩) (k) cap, .int .u16 x] w fun e w' => e = .returned (.slice (some ⟨g, 0, none⟩) (k + 4) cap) ∧ blk? w' g = some (bufc cap (s ++ padh x)) ∧ GX g w w' := by
  obtain ⟨hx0, hx1⟩ := hx
  have q0 := idx_u16 (x / 4096) (by omega)
  have q1 := idx_u16 (x / 256 % 16) (by omega)
  have q2 := idx_u16 (x / 16 % 16) (by omega)
  have q3 := idx_u16 (x % 16) (by omega)
  have r0 := and15_u16 (x / 256) (by omega)
  have r1 := and15_u16 (x / 16) (by omega)
  have r2 := and15_u16 (x) (by omega)
  go_enter Tryd.func152, Tryd.ntmps152
  go_wp2_with fail
  refine wp_region_held_drew (S := fun w' => True) (by kernel_rfl) ?_ (fun hHeld0 => ?_)
  · trivial
  refine wpAnyH_take (i := 0) (oi := _) (v := ?_) rfl (by kernel_rfl) (by kernel_rfl) (by kernel_rfl) (fun _ _ _ h => h) (Or.inl ⟨by rfl, ?_⟩) (by assumption) ?_
  rotate_left 1
  · (intro w hSw; (try dsimp only at hSw); (try simp only [List.getElem_toArray, List.getElem_cons_succ, List.getElem_cons_zero]); first | (go_simp; done) | (go_simp; with_reducible rfl))
  (try simp only [Act.put, List.setIfInBounds_toArray, List.set_cons_zero, List.set_cons_succ, List.getElem_toArray, List.getElem_cons_succ, List.getElem_cons_zero])
  refine wpAnyH_take (i := 1) (oi := _) (v := ?_) rfl (by kernel_rfl) (by kernel_rfl) (by kernel_rfl) (fun _ _ _ h => h) (Or.inl ⟨by rfl, ?_⟩) (by assumption) ?_
  rotate_left 1
  · (intro w hSw; (try dsimp only at hSw); (try simp only [List.getElem_toArray, List.getElem_cons_succ, List.getElem_cons_zero]); first | (go_simp; done) | (go_simp; with_reducible rfl))
  (try simp only [Act.put, List.setIfInBounds_toArray, List.set_cons_zero, List.set_cons_succ, List.getElem_toArray, List.getElem_cons_succ, List.getElem_cons_zero])
  refine wpAnyH_take (i := 2) (oi := _) (v := ?_) rfl (by kernel_rfl) (by kernel_rfl) (by kernel_rfl) (fun _ _ _ h => h) (Or.inl ⟨by rfl, ?_⟩) (by assumption) ?_
  rotate_left 1
  · (intro w hSw; (try dsimp only at hSw); (try simp only [List.getElem_toArray, List.getElem_cons_succ, List.getElem_cons_zero]); first | (go_simp; done) | (go_simp; with_reducible rfl))
  (try simp only [Act.put, List.setIfInBounds_toArray, List.set_cons_zero, List.set_cons_succ, List.getElem_toArray, List.getElem_cons_succ, List.getElem_cons_zero])
  refine wpAnyH_take (i := 3) (oi := _) (v := ?_) rfl (by kernel_rfl) (by kernel_rfl) (by kernel_rfl) (fun _ _ _ h => h) (Or.inl ⟨by rfl, ?_⟩) (by assumption) ?_
  rotate_left 1
  · (intro w hSw; (try dsimp only at hSw); (try simp only [List.getElem_toArray, List.getElem_cons_succ, List.getElem_cons_zero]); first | (go_simp; done) | (go_simp; with_reducible rfl))
  (try simp only [Act.put, List.setIfInBounds_toArray, List.set_cons_zero, List.set_cons_succ, List.getElem_toArray, List.getElem_cons_succ, List.getElem_cons_zero])
  refine wpAnyH_take (i := 4) (oi := _) (v := ?_) rfl (by kernel_rfl) (by kernel_rfl) (by kernel_rfl) (fun _ _ _ h => h) (Or.inl ⟨by rfl, ?_⟩) (by assumption) ?_
  rotate_left 1
  · (intro w hSw; (try dsimp only at hSw); (try simp only [List.getElem_toArray, List.getElem_cons_succ, List.getElem_cons_zero]); first | (go_simp; done) | (go_simp; with_reducible rfl))
  (try simp only [Act.put, List.setIfInBounds_toArray, List.set_cons_zero, List.set_cons_succ, List.getElem_toArray, List.getElem_cons_succ, List.getElem_cons_zero])
  refine wpAnyH_take (i := 5) (oi := _) (v := ?_) rfl (by kernel_rfl) (by kernel_rfl) (by kernel_rfl) (fun _ _ _ h => h) (Or.inl ⟨by rfl, ?_⟩) (by assumption) ?_
  rotate_left 1
  · (intro w hSw; (try dsimp only at hSw); (try simp only [List.getElem_toArray, List.getElem_cons_succ, List.getElem_cons_zero]); first | (go_simp; done) | (go_simp; with_reducible rfl))
  (try simp only [Act.put, List.setIfInBounds_toArray, List.set_cons_zero, List.set_cons_succ, List.getElem_toArray, List.getElem_cons_succ, List.getElem_cons_zero])
  refine wpAnyH_take (i := 6) (oi := _) (v := ?_) rfl (by kernel_rfl) (by kernel_rfl) (by kernel_rfl) (fun _ _ _ h => h) (Or.inl ⟨by rfl, ?_⟩) (by assumption) ?_
  rotate_left 1
  · (intro w hSw; (try dsimp only at hSw); (try simp only [List.getElem_toArray, List.getElem_cons_succ, List.getElem_cons_zero]); first | (go_simp; done) | (go_simp; with_reducible rfl))
  (try simp only [Act.put, List.setIfInBounds_toArray, List.set_cons_zero, List.set_cons_succ, List.getElem_toArray, List.getElem_cons_succ, List.getElem_cons_zero])
  refine wpAnyH_take (i := 7) (oi := _) (v := ?_) rfl (by kernel_rfl) (by kernel_rfl) (by kernel_rfl) (fun _ _ _ h => h) (Or.inl ⟨by rfl, ?_⟩) (by assumption) ?_
  rotate_left 1
  · (intro w hSw; (try dsimp only at hSw); (try simp only [List.getElem_toArray, List.getElem_cons_succ, List.getElem_cons_zero]); first | (go_simp; done) | (go_simp; with_reducible rfl))
  (try simp only [Act.put, List.setIfInBounds_toArray, List.set_cons_zero, List.set_cons_succ, List.getElem_toArray, List.getElem_cons_succ, List.getElem_cons_zero])
  refine wpAnyH_take (i := 8) (oi := _) (v := ?_) rfl (by kernel_rfl) (by kernel_rfl) (by kernel_rfl) (fun _ _ _ h => h) (Or.inl ⟨by rfl, ?_⟩) (by assumption) ?_
  rotate_left 1
  · (intro w hSw; (try dsimp only at hSw); (try simp only [List.getElem_toArray, List.getElem_cons_succ, List.getElem_cons_zero]); first | (go_simp; done) | (go_simp; with_reducible rfl))
  (try simp only [Act.put, List.setIfInBounds_toArray, List.set_cons_zero, List.set_cons_succ, List.getElem_toArray, List.getElem_cons_succ, List.getElem_cons_zero])
  refine wpAnyH_take (i := 9) (oi := _) (v := ?_) rfl (by kernel_rfl) (by kernel_rfl) (by kernel_rfl) (fun _ _ _ h => h) (Or.inl ⟨by rfl, ?_⟩) (by assumption) ?_
  rotate_left 1
  · (intro w hSw; (try dsimp only at hSw); (try simp only [List.getElem_toArray, List.getElem_cons_succ, List.getElem_cons_zero]); first | (go_simp; done) | (go_simp; with_reducible rfl))
  (try simp only [Act.put, List.setIfInBounds_toArray, List.set_cons_zero, List.set_cons_succ, List.getElem_toArray, List.getElem_cons_succ, List.getElem_cons_zero])
  refine wpAnyH_take (i := 10) (oi := _) (v := ?_) rfl (by kernel_rfl) (by kernel_rfl) (by kernel_rfl) (fun _ _ _ h => h) (Or.inl ⟨by rfl, ?_⟩) (by assumption) ?_
  rotate_left 1
  · (intro w hSw; (try dsimp only at hSw); (try simp only [List.getElem_toArray, List.getElem_cons_succ, List.getElem_cons_zero]); first | (go_simp; done) | (go_simp; with_reducible rfl))
  (try simp only [Act.put, List.setIfInBounds_toArray, List.set_cons_zero, List.set_cons_succ, List.getElem_toArray, List.getElem_cons_succ, List.getElem_cons_zero])
  refine wpAnyH_take (i := 11) (oi := _) (v := ?_) rfl (by kernel_rfl) (by kernel_rfl) (by kernel_rfl) (fun _ _ _ h => h) (Or.inl ⟨by rfl, ?_⟩) (by assumption) ?_
  rotate_left 1
  · (intro w hSw; (try dsimp only at hSw); (try simp only [List.getElem_toArray, List.getElem_cons_succ, List.getElem_cons_zero]); first | (go_simp; done) | (go_simp; with_reducible rfl))
  (try simp only [Act.put, List.setIfInBounds_toArray, List.set_cons_zero, List.set_cons_succ, List.getElem_toArray, List.getElem_cons_succ, List.getElem_cons_zero])
  refine wpAnyH_take (i := 12) (oi := _) (v := ?_) rfl (by kernel_rfl) (by kernel_rfl) (by kernel_rfl) (fun _ _ _ h => h) (Or.inl ⟨by rfl, ?_⟩) (by assumption) ?_
  rotate_left 1
  · (intro w hSw; (try dsimp only at hSw); (try simp only [List.getElem_toArray, List.getElem_cons_succ, List.getElem_cons_zero]); first | (go_simp; done) | (go_simp; with_reducible rfl))
  (try simp only [Act.put, List.setIfInBounds_toArray, List.set_cons_zero, List.set_cons_succ, List.getElem_toArray, List.getElem_cons_succ, List.getElem_cons_zero])
  refine wpAnyH_take (i := 13) (oi := _) (v := ?_) rfl (by kernel_rfl) (by kernel_rfl) (by kernel_rfl) (fun _ _ _ h => h) (Or.inl ⟨by rfl, ?_⟩) (by assumption) ?_
  rotate_left 1
  · (intro w hSw; (try dsimp only at hSw); (try simp only [List.getElem_toArray, List.getElem_cons_succ, List.getElem_cons_zero]); first | (go_simp; done) | (go_simp; with_reducible rfl))
  (try simp only [Act.put, List.setIfInBounds_toArray, List.set_cons_zero, List.set_cons_succ, List.getElem_toArray, List.getElem_cons_succ, List.getElem_cons_zero])
  refine wpAnyH_take (i := 14) (oi := _) (v := ?_) rfl (by kernel_rfl) (by kernel_rfl) (by kernel_rfl) (fun _ _ _ h => h) (Or.inl ⟨by rfl, ?_⟩) (by assumption) ?_
  rotate_left 1
  · (intro w hSw; (try dsimp only at hSw); (try simp only [List.getElem_toArray, List.getElem_cons_succ, List.getElem_cons_zero]); first | (go_simp; done) | (go_simp; with_reducible rfl))
  (try simp only [Act.put, List.setIfInBounds_toArray, List.set_cons_zero, List.set_cons_succ, List.getElem_toArray, List.getElem_cons_succ, List.getElem_cons_zero])
  refine wpAnyH_ready (rs := [15]) (by kernel_rfl) (by simp) (AllReadyH.cons rfl (fun K hK => ?_) AllReadyH.nil)
  go_simp
  refine hK.out _ _ ?_ (fun hHeld1 => ?_)
  · trivial
  clear hK K hHeld0
  (try simp only [Act.put, List.setIfInBounds_toArray, List.set_cons_zero, List.set_cons_succ, List.getElem_toArray, List.getElem_cons_succ, List.getElem_cons_zero])
  refine wpAnyH_ready (rs := [16]) (by kernel_rfl) (by simp) (AllReadyH.cons rfl (fun K hK => ?_) AllReadyH.nil)
  refine step_append_buf rfl (.tmp 5) (.tmp 20) rfl g k cap s rfl _ 4 4 [dig (x / 4096), dig (x / 256 % 16), dig (x / 16 % 16), dig (x % 16)] rfl hs rfl hc ?_ ?_ ?_; go_simp; go_simp; intro w1 hbuf hgr; have hX := GX.trans (g := g) (a := w) (by repeat' (first | (with_reducible exact GX.refl _ _) | (with_reducible assumption) | (with_reducible refine GX.alloc ?_ _) | (with_reducible refine GX.drew ?_) | (with_reducible refine GX.drewN ?_ _))) hgr; clear hgr
  refine hK.out _ _ ?_ (fun hHeld2 => ?_)
  · trivial
  clear hK K hHeld1
  (try simp only [Act.put, List.setIfInBounds_toArray, List.set_cons_zero, List.set_cons_succ, List.getElem_toArray, List.getElem_cons_succ, List.getElem_cons_zero])
  refine wpAnyH_take (i := 17) (oi := _) (v := ?_) rfl (by kernel_rfl) (by kernel_rfl) (by kernel_rfl) (fun _ _ _ h => h) (Or.inl ⟨by rfl, ?_⟩) (by assumption) ?_
  rotate_left 1
  · (intro w hSw; (try dsimp only at hSw); (try simp only [List.getElem_toArray, List.getElem_cons_succ, List.getElem_cons_zero]); first | (go_simp; done) | (go_simp; with_reducible rfl))
  (try simp only [Act.put, List.setIfInBounds_toArray, List.set_cons_zero, List.set_cons_succ, List.getElem_toArray, List.getElem_cons_succ, List.getElem_cons_zero])
  refine wpAnyH_done (by kernel_rfl) ?_ _
  go_wp2
  go_ret
  exact ⟨rfl, hbuf, (by repeat' (first | (with_reducible exact GX.refl _ _) | (with_reducible assumption) | (with_reducible refine GX.alloc ?_ _) | (with_reducible refine GX.drew ?_) | (with_reducible refine GX.drewN ?_ _)))⟩
end Go.Proofs.YtmlkcgacneealaaDoor
