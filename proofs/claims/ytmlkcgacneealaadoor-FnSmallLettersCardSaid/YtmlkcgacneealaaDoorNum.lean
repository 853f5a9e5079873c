/- Next and Prev of netip.Addr, and of impl. Conditions: the listed variables as laid. -/
import Derived.Test.YtmlkcgacneealaaDoorMeth1
import Derived.Shelf.Spec.BitsCarry
set_option linter.unusedVariables false
set_option linter.unusedSimpArgs false
namespace Go.Proofs.YtmlkcgacneealaaDoor
open Go.RowKit
theorem call_add (x : Int) (hx : 0 ≤ x) (w : World) : (callFunc 167 #[.int .u64 x, .int .u64 1, .int .u64 0]).run Tryd.prog w = .ok (.value (.tuple #[.int .u64 ((x + 1) % 18446744073709551616), .int .u64 ((x + 1) / 18446744073709551616)])) w := by
  rw [run_callFunc_extern Tryd.func167 (by kernel_rfl) (by kernel_rfl) (by kernel_rfl) (e := add64Entry) (by kernel_rfl), run_add64 x 1 0 hx (by omega) (by omega) (by omega)]
  simp only [Result.andThen]
  rw [Int.add_zero]
theorem call_sub (x : Int) (hx : 0 ≤ x) (w : World) : (callFunc 166 #[.int .u64 x, .int .u64 1, .int .u64 0]).run Tryd.prog w = .ok (.value (.tuple #[.int .u64 ((x - 1) % 18446744073709551616), .int .u64 (if x < 1 then 1 else 0)])) w := by
  obtain ⟨n, rfl⟩ := Int.eq_ofNat_of_zero_le hx
  rw [run_callFunc_extern Tryd.func166 (by kernel_rfl) (by kernel_rfl) (by kernel_rfl) (e := sub64Entry) (by kernel_rfl)]
  have h : (sub64Entry #[.int .u64 (n : Int), .int .u64 1, .int .u64 0]).run Tryd.prog w = _ := run_sub64 (P := Tryd.prog) n 1 0 (by omega) w
  rw [h]
  simp only [Result.andThen]
  have e1 : (((n + 18446744073709551616 - 1 - 0) % 18446744073709551616 : Nat) : Int) = ((n : Int) - 1) % 18446744073709551616 := by omega
  have e2 : ((if n < 1 + 0 then 1 else 0 : Nat) : Int) = if (n : Int) < 1 then 1 else 0 := by
    by_cases c : n < 1
    · rw [if_pos (by omega), if_pos (by omega)]; rfl
    · rw [if_neg (by omega), if_neg (by omega)]; rfl
  rw [e1, e2]
theorem call_add_n (x : Int) (hx : 0 ≤ x) (h : x + 1 < 18446744073709551616) (w : World) : (callFunc 167 #[.int .u64 x, .int .u64 1, .int .u64 0]).run Tryd.prog w = .ok (.value (.tuple #[.int .u64 (x + 1), .int .u64 0])) w := by
  rw [call_add x hx, show (x + 1) % 18446744073709551616 = x + 1 by omega, show (x + 1) / 18446744073709551616 = 0 by omega]
theorem call_add_c (w : World) : (callFunc 167 #[.int .u64 18446744073709551615, .int .u64 1, .int .u64 0]).run Tryd.prog w = .ok (.value (.tuple #[.int .u64 0, .int .u64 1])) w := call_add 18446744073709551615 (by omega) w
theorem call_sub_n (x : Int) (hx : 1 ≤ x) (h : x < 18446744073709551616) (w : World) : (callFunc 166 #[.int .u64 x, .int .u64 1, .int .u64 0]).run Tryd.prog w = .ok (.value (.tuple #[.int .u64 (x - 1), .int .u64 0])) w := by
  rw [call_sub x (by omega), show (x - 1) % 18446744073709551616 = x - 1 by omega, if_neg (by omega)]
theorem call_sub_b (w : World) : (callFunc 166 #[.int .u64 0, .int .u64 1, .int .u64 0]).run Tryd.prog w = .ok (.value (.tuple #[.int .u64 18446744073709551615, .int .u64 1])) w := call_sub 0 (by omega) w
theorem or_zero (x y : Int) (hx : 0 ≤ x ∧ x < 18446744073709551616) (hy : 0 ≤ y ∧ y < 18446744073709551616) : bits .or .u64 x y = 0 ↔ x = 0 ∧ y = 0 := by
  obtain ⟨a, rfl⟩ := Int.eq_ofNat_of_zero_le hx.1
  obtain ⟨b, rfl⟩ := Int.eq_ofNat_of_zero_le hy.1
  rw [(bits_nat .u64 64 (by decide) wraps_u64 a b (by omega) (by omega)).2]
  constructor
  · intro h
    have h' : (a ||| b) = 0 := by exact_mod_cast h
    rw [Nat.or_eq_zero_iff] at h'
    omega
  · rintro ⟨h1, h2⟩
    have h1' : a = 0 := by omega
    have h2' : b = 0 := by omega
    subst h1'; subst h2'; rfl
theorem infoSize73 : (Tryd.prog.info? 73).map (·.size) = some 2 := by kernel_rfl
theorem res73 {fn : Func} {p : Tmp} (h : fn.results = #[.cell p 73]) (tmps : Array Value) (w : World) (g : Nat) (c : Array Value) (hp : tmps.getD p undef = .pointer (some ⟨g, 0, none⟩)) (hb : blk? w g = some c) (hs : c.size = 2) :
    (results fn tmps).run Tryd.prog w = .ok (.agg c) w := by
  obtain ⟨t, ht⟩ := of_blk? hb
  exact results_cell_row h tmps w g t c (0, 0) _ hp ht Tryd.underlying73 rfl (by rw [hs]; exact infoSize73)
set_option maxHeartbeats 4000000 in
set_option maxRecDepth 100000 in
theorem addOne_n (hi lo : Int) (hh0 : 0 ≤ hi) (hh1 : hi < 18446744073709551616) (hl0 : 0 ≤ lo) (hl1 : lo + 1 < 18446744073709551616) (w : World) :
    Calls Tryd.prog 138 #[.agg #[.int .u64 (hi), .int .u64 (lo)]] w fun e w' => e = .returned (.agg #[.int .u64 (hi), .int .u64 (lo + 1)]) ∧ Below w.heap.size w w' := by
  have hca := fun w => call_add_n lo hl0 hl1 w
  have hw := u64_wrap_id hi hh0 hh1
  go_enter Tryd.func138, Tryd.ntmps138
  go_wp2
  refine bodyPost_ret (res73 Tryd.results138 _ _ (w.heap.size + 1) _ rfl ?_ rfl) rfl ⟨rfl, (by repeat' (first | (with_reducible exact Below.refl _ _) | (with_reducible assumption) | (with_reducible refine Below.alloc ?_ ?_ _) | (with_reducible refine Below.drew ?_) | (with_reducible refine below_drewN ?_ _) | (with_reducible refine Below.setCell ?_ ?_ _) | (with_reducible refine below_setRow' ?_ ?_ _) | go_size))⟩
  go_simp
set_option maxHeartbeats 4000000 in
set_option maxRecDepth 100000 in
theorem addOne_c (hi : Int) (hh0 : 0 ≤ hi) (hh1 : hi + 1 < 18446744073709551616) (w : World) :
    Calls Tryd.prog 138 #[.agg #[.int .u64 (hi), .int .u64 (18446744073709551615)]] w fun e w' => e = .returned (.agg #[.int .u64 (hi + 1), .int .u64 (0)]) ∧ Below w.heap.size w w' := by
  have hca := fun w => call_add_c w
  have hw := u64_wrap_id (hi + 1) (by omega) hh1
  go_enter Tryd.func138, Tryd.ntmps138
  go_wp2
  refine bodyPost_ret (res73 Tryd.results138 _ _ (w.heap.size + 1) _ rfl ?_ rfl) rfl ⟨rfl, (by repeat' (first | (with_reducible exact Below.refl _ _) | (with_reducible assumption) | (with_reducible refine Below.alloc ?_ ?_ _) | (with_reducible refine Below.drew ?_) | (with_reducible refine below_drewN ?_ _) | (with_reducible refine Below.setCell ?_ ?_ _) | (with_reducible refine below_setRow' ?_ ?_ _) | go_size))⟩
  go_simp
set_option maxHeartbeats 4000000 in
set_option maxRecDepth 100000 in
theorem addOne_z  (w : World) :
    Calls Tryd.prog 138 #[.agg #[.int .u64 (18446744073709551615), .int .u64 (18446744073709551615)]] w fun e w' => e = .returned (.agg #[.int .u64 (0), .int .u64 (0)]) ∧ Below w.heap.size w w' := by
  have hca := fun w => call_add_c w
  have hw : IntKind.u64.wrap 18446744073709551616 = 0 := by decide
  go_enter Tryd.func138, Tryd.ntmps138
  go_wp2
  refine bodyPost_ret (res73 Tryd.results138 _ _ (w.heap.size + 1) _ rfl ?_ rfl) rfl ⟨rfl, (by repeat' (first | (with_reducible exact Below.refl _ _) | (with_reducible assumption) | (with_reducible refine Below.alloc ?_ ?_ _) | (with_reducible refine Below.drew ?_) | (with_reducible refine below_drewN ?_ _) | (with_reducible refine Below.setCell ?_ ?_ _) | (with_reducible refine below_setRow' ?_ ?_ _) | go_size))⟩
  go_simp
set_option maxHeartbeats 4000000 in
set_option maxRecDepth 100000 in
theorem subOne_n (hi lo : Int) (hh0 : 0 ≤ hi) (hh1 : hi < 18446744073709551616) (hl0 : 1 ≤ lo) (hl1 : lo < 18446744073709551616) (w : World) :
    Calls Tryd.prog 136 #[.agg #[.int .u64 (hi), .int .u64 (lo)]] w fun e w' => e = .returned (.agg #[.int .u64 (hi), .int .u64 (lo - 1)]) ∧ Below w.heap.size w w' := by
  have hca := fun w => call_sub_n lo hl0 hl1 w
  have hw := u64_wrap_id hi hh0 hh1
  go_enter Tryd.func136, Tryd.ntmps136
  go_wp2
  refine bodyPost_ret (res73 Tryd.results136 _ _ (w.heap.size + 1) _ rfl ?_ rfl) rfl ⟨rfl, (by repeat' (first | (with_reducible exact Below.refl _ _) | (with_reducible assumption) | (with_reducible refine Below.alloc ?_ ?_ _) | (with_reducible refine Below.drew ?_) | (with_reducible refine below_drewN ?_ _) | (with_reducible refine Below.setCell ?_ ?_ _) | (with_reducible refine below_setRow' ?_ ?_ _) | go_size))⟩
  go_simp
set_option maxHeartbeats 4000000 in
set_option maxRecDepth 100000 in
theorem subOne_b (hi : Int) (hh0 : 1 ≤ hi) (hh1 : hi < 18446744073709551616) (w : World) :
    Calls Tryd.prog 136 #[.agg #[.int .u64 (hi), .int .u64 (0)]] w fun e w' => e = .returned (.agg #[.int .u64 (hi - 1), .int .u64 (18446744073709551615)]) ∧ Below w.heap.size w w' := by
  have hca := fun w => call_sub_b w
  have hw := u64_wrap_id (hi - 1) (by omega) (by omega)
  go_enter Tryd.func136, Tryd.ntmps136
  go_wp2
  refine bodyPost_ret (res73 Tryd.results136 _ _ (w.heap.size + 1) _ rfl ?_ rfl) rfl ⟨rfl, (by repeat' (first | (with_reducible exact Below.refl _ _) | (with_reducible assumption) | (with_reducible refine Below.alloc ?_ ?_ _) | (with_reducible refine Below.drew ?_) | (with_reducible refine below_drewN ?_ _) | (with_reducible refine Below.setCell ?_ ?_ _) | (with_reducible refine below_setRow' ?_ ?_ _) | go_size))⟩
  go_simp
set_option maxHeartbeats 4000000 in
set_option maxRecDepth 100000 in
theorem isZero_t  (w : World) :
    Calls Tryd.prog 135 #[.agg #[.int .u64 0, .int .u64 0]] w fun e w' => e = .returned (.bool true) ∧ Below w.heap.size w w' := by
  go_enter Tryd.func135, Tryd.ntmps135
  go_wp2
  go_ret
  exact ⟨rfl, (by repeat' (first | (with_reducible exact Below.refl _ _) | (with_reducible assumption) | (with_reducible refine Below.alloc ?_ ?_ _) | (with_reducible refine Below.drew ?_) | (with_reducible refine below_drewN ?_ _) | (with_reducible refine Below.setCell ?_ ?_ _) | (with_reducible refine below_setRow' ?_ ?_ _) | go_size))⟩
set_option maxHeartbeats 4000000 in
set_option maxRecDepth 100000 in
theorem isZero_f (hi lo : Int) (hh : 0 ≤ hi ∧ hi < 18446744073709551616) (hl : 0 ≤ lo ∧ lo < 18446744073709551616) (h : ¬ (hi = 0 ∧ lo = 0)) (w : World) :
    Calls Tryd.prog 135 #[.agg #[.int .u64 hi, .int .u64 lo]] w fun e w' => e = .returned (.bool false) ∧ Below w.heap.size w w' := by
  have ho : (bits .or .u64 hi lo == 0) = false := beq_eq_false_iff_ne.2 fun e => h ((or_zero hi lo hh hl).1 e)
  clear h
  go_enter Tryd.func135, Tryd.ntmps135
  go_wp2
  go_ret
  exact ⟨rfl, (by repeat' (first | (with_reducible exact Below.refl _ _) | (with_reducible assumption) | (with_reducible refine Below.alloc ?_ ?_ _) | (with_reducible refine Below.drew ?_) | (with_reducible refine below_drewN ?_ _) | (with_reducible refine Below.setCell ?_ ?_ _) | (with_reducible refine below_setRow' ?_ ?_ _) | go_size))⟩
set_option maxHeartbeats 4000000 in
set_option maxRecDepth 100000 in
theorem next_4n (lo : Int) (hl0 : 0 ≤ lo) (hl1 : lo + 1 < 18446744073709551616) (hz : (lo + 1) % 4294967296 ≠ 0) {b4 o4 : Nat} (w : World) (hg : G4 b4 o4 w) :
    Calls Tryd.prog 84 #[.agg #[.int .u64 (0), .int .u64 (lo), .pointer (some ⟨b4, o4, none⟩)]] w fun e w' => e = .returned (.agg #[.int .u64 (0), .int .u64 (lo + 1), .pointer (some ⟨b4, o4, none⟩)]) ∧ Below w.heap.size w w' := by
  have HG := Lib.hid hg
  obtain ⟨z4, z0, s0, s1, s2, l4, c40, c41⟩ := hg
  have hz' : ((lo + 1) % 4294967296 == 0) = false := beq_eq_false_iff_ne.2 hz
  clear hz
  go_enter Tryd.func84, Tryd.ntmps84
  go_wp2_with (first
    | (go_at_call 138; (with_reducible refine (addOne_n 0 lo (by omega) (by omega) hl0 hl1 _).mono ?_); rintro e w1 ⟨rfl, hb1⟩; have hk1 := blk?_below hb1; (try simp only [size_drew', size_drewN'] at hk1); have hB1 := below_via (w := w) (by repeat' (first | (with_reducible exact Below.refl _ _) | (with_reducible assumption) | (with_reducible refine Below.alloc ?_ ?_ _) | (with_reducible refine Below.drew ?_) | (with_reducible refine below_drewN ?_ _) | (with_reducible refine Below.setCell ?_ ?_ _) | (with_reducible refine below_setRow' ?_ ?_ _) | go_size)) hb1; have hL0 : w.heap.size < w1.heap.size := (by have hS0 := hb1.size; (try simp at hS0); omega); have hL1 : w.heap.size + 1 < w1.heap.size := (by have hS0 := hb1.size; (try simp at hS0); omega); have hLe : w.heap.size ≤ w1.heap.size := hB1.size; obtain ⟨hc1, hf1⟩ := bcell hb1; (try simp only [size_drew', size_drewN'] at hc1); (try simp only [size_drew', size_drewN'] at hf1); clear hb1)
    | (go_at_call 134; (with_reducible refine (is4_4 (b4 := b4) (o4 := o4) _ _ _ ?_).mono ?_); (exact HG.out.below (by repeat' (first | (with_reducible exact Below.refl _ _) | (with_reducible assumption) | (with_reducible refine Below.alloc ?_ ?_ _) | (with_reducible refine Below.drew ?_) | (with_reducible refine below_drewN ?_ _) | (with_reducible refine Below.setCell ?_ ?_ _) | (with_reducible refine below_setRow' ?_ ?_ _) | go_size)) (Nat.le_refl _)); rintro e w1 ⟨rfl, hb1⟩; have hk1 := blk?_below hb1; (try simp only [size_drew', size_drewN'] at hk1); have hB1 := below_via (w := w) (by repeat' (first | (with_reducible exact Below.refl _ _) | (with_reducible assumption) | (with_reducible refine Below.alloc ?_ ?_ _) | (with_reducible refine Below.drew ?_) | (with_reducible refine below_drewN ?_ _) | (with_reducible refine Below.setCell ?_ ?_ _) | (with_reducible refine below_setRow' ?_ ?_ _) | go_size)) hb1; have hL0 : w.heap.size < w1.heap.size := (by have hS0 := hb1.size; (try simp at hS0); omega); have hL1 : w.heap.size + 1 < w1.heap.size := (by have hS0 := hb1.size; (try simp at hS0); omega); have hLe : w.heap.size ≤ w1.heap.size := hB1.size; obtain ⟨hc1, hf1⟩ := bcell hb1; (try simp only [size_drew', size_drewN'] at hc1); (try simp only [size_drew', size_drewN'] at hf1); clear hb1))
  refine bodyPost_ret (res78 Tryd.results84 _ _ (w.heap.size + 1) _ rfl ?_ rfl) rfl ⟨rfl, (by repeat' (first | (with_reducible exact Below.refl _ _) | (with_reducible assumption) | (with_reducible refine Below.alloc ?_ ?_ _) | (with_reducible refine Below.drew ?_) | (with_reducible refine below_drewN ?_ _) | (with_reducible refine Below.setCell ?_ ?_ _) | (with_reducible refine below_setRow' ?_ ?_ _) | go_size))⟩
  go_simp
set_option maxHeartbeats 4000000 in
set_option maxRecDepth 100000 in
theorem next_4z (lo : Int) (hl0 : 0 ≤ lo) (hl1 : lo + 1 < 18446744073709551616) (hz : (lo + 1) % 4294967296 = 0) {b4 o4 : Nat} (w : World) (hg : G4 b4 o4 w) :
    Calls Tryd.prog 84 #[.agg #[.int .u64 (0), .int .u64 (lo), .pointer (some ⟨b4, o4, none⟩)]] w fun e w' => e = .returned (.agg #[.int .u64 (0), .int .u64 (0), .pointer none]) ∧ Below w.heap.size w w' := by
  have HG := Lib.hid hg
  obtain ⟨z4, z0, s0, s1, s2, l4, c40, c41⟩ := hg
  have hz' : ((lo + 1) % 4294967296 == 0) = true := beq_iff_eq.2 hz
  clear hz
  go_enter Tryd.func84, Tryd.ntmps84
  go_wp2_with (first
    | (go_at_call 138; (with_reducible refine (addOne_n 0 lo (by omega) (by omega) hl0 hl1 _).mono ?_); rintro e w1 ⟨rfl, hb1⟩; have hk1 := blk?_below hb1; (try simp only [size_drew', size_drewN'] at hk1); have hB1 := below_via (w := w) (by repeat' (first | (with_reducible exact Below.refl _ _) | (with_reducible assumption) | (with_reducible refine Below.alloc ?_ ?_ _) | (with_reducible refine Below.drew ?_) | (with_reducible refine below_drewN ?_ _) | (with_reducible refine Below.setCell ?_ ?_ _) | (with_reducible refine below_setRow' ?_ ?_ _) | go_size)) hb1; have hL0 : w.heap.size < w1.heap.size := (by have hS0 := hb1.size; (try simp at hS0); omega); have hL1 : w.heap.size + 1 < w1.heap.size := (by have hS0 := hb1.size; (try simp at hS0); omega); have hLe : w.heap.size ≤ w1.heap.size := hB1.size; obtain ⟨hc1, hf1⟩ := bcell hb1; (try simp only [size_drew', size_drewN'] at hc1); (try simp only [size_drew', size_drewN'] at hf1); clear hb1)
    | (go_at_call 134; (with_reducible refine (is4_4 (b4 := b4) (o4 := o4) _ _ _ ?_).mono ?_); (exact HG.out.below (by repeat' (first | (with_reducible exact Below.refl _ _) | (with_reducible assumption) | (with_reducible refine Below.alloc ?_ ?_ _) | (with_reducible refine Below.drew ?_) | (with_reducible refine below_drewN ?_ _) | (with_reducible refine Below.setCell ?_ ?_ _) | (with_reducible refine below_setRow' ?_ ?_ _) | go_size)) (Nat.le_refl _)); rintro e w1 ⟨rfl, hb1⟩; have hk1 := blk?_below hb1; (try simp only [size_drew', size_drewN'] at hk1); have hB1 := below_via (w := w) (by repeat' (first | (with_reducible exact Below.refl _ _) | (with_reducible assumption) | (with_reducible refine Below.alloc ?_ ?_ _) | (with_reducible refine Below.drew ?_) | (with_reducible refine below_drewN ?_ _) | (with_reducible refine Below.setCell ?_ ?_ _) | (with_reducible refine below_setRow' ?_ ?_ _) | go_size)) hb1; have hL0 : w.heap.size < w1.heap.size := (by have hS0 := hb1.size; (try simp at hS0); omega); have hL1 : w.heap.size + 1 < w1.heap.size := (by have hS0 := hb1.size; (try simp at hS0); omega); have hLe : w.heap.size ≤ w1.heap.size := hB1.size; obtain ⟨hc1, hf1⟩ := bcell hb1; (try simp only [size_drew', size_drewN'] at hc1); (try simp only [size_drew', size_drewN'] at hf1); clear hb1))
  refine bodyPost_ret (res78 Tryd.results84 _ _ (w.heap.size + 1) _ rfl ?_ rfl) rfl ⟨rfl, (by repeat' (first | (with_reducible exact Below.refl _ _) | (with_reducible assumption) | (with_reducible refine Below.alloc ?_ ?_ _) | (with_reducible refine Below.drew ?_) | (with_reducible refine below_drewN ?_ _) | (with_reducible refine Below.setCell ?_ ?_ _) | (with_reducible refine below_setRow' ?_ ?_ _) | go_size))⟩
  go_simp
set_option maxHeartbeats 4000000 in
set_option maxRecDepth 100000 in
theorem next_6n (hi lo : Int) (hh0 : 0 ≤ hi) (hh1 : hi < 18446744073709551616) (hl0 : 0 ≤ lo) (hl1 : lo + 1 < 18446744073709551616) {b4 o4 b6 o6 : Nat} (w : World) (hg : Gl b4 o4 b6 o6 w) :
    Calls Tryd.prog 84 #[.agg #[.int .u64 (hi), .int .u64 (lo), .pointer (some ⟨b6, o6, none⟩)]] w fun e w' => e = .returned (.agg #[.int .u64 (hi), .int .u64 (lo + 1), .pointer (some ⟨b6, o6, none⟩)]) ∧ Below w.heap.size w w' := by
  have HG := Lib.hid hg
  obtain ⟨⟨z4, z0, s0, s1, s2, l4, c40, c41⟩, z6, zh, zh', l6, c60, c61⟩ := hg
  go_enter Tryd.func84, Tryd.ntmps84
  go_wp2_with (first
    | (go_at_call 138; (with_reducible refine (addOne_n hi lo hh0 hh1 hl0 hl1 _).mono ?_); rintro e w1 ⟨rfl, hb1⟩; have hk1 := blk?_below hb1; (try simp only [size_drew', size_drewN'] at hk1); have hB1 := below_via (w := w) (by repeat' (first | (with_reducible exact Below.refl _ _) | (with_reducible assumption) | (with_reducible refine Below.alloc ?_ ?_ _) | (with_reducible refine Below.drew ?_) | (with_reducible refine below_drewN ?_ _) | (with_reducible refine Below.setCell ?_ ?_ _) | (with_reducible refine below_setRow' ?_ ?_ _) | go_size)) hb1; have hL0 : w.heap.size < w1.heap.size := (by have hS0 := hb1.size; (try simp at hS0); omega); have hL1 : w.heap.size + 1 < w1.heap.size := (by have hS0 := hb1.size; (try simp at hS0); omega); have hLe : w.heap.size ≤ w1.heap.size := hB1.size; obtain ⟨hc1, hf1⟩ := bcell hb1; (try simp only [size_drew', size_drewN'] at hc1); (try simp only [size_drew', size_drewN'] at hf1); clear hb1)
    | (go_at_call 134; (with_reducible refine (is4_6 (b4 := b4) (o4 := o4) (b6 := b6) (o6 := o6) _ _ _ ?_).mono ?_); (exact HG.out.below (by repeat' (first | (with_reducible exact Below.refl _ _) | (with_reducible assumption) | (with_reducible refine Below.alloc ?_ ?_ _) | (with_reducible refine Below.drew ?_) | (with_reducible refine below_drewN ?_ _) | (with_reducible refine Below.setCell ?_ ?_ _) | (with_reducible refine below_setRow' ?_ ?_ _) | go_size)) (Nat.le_refl _)); rintro e w1 ⟨rfl, hb1⟩; have hk1 := blk?_below hb1; (try simp only [size_drew', size_drewN'] at hk1); have hB1 := below_via (w := w) (by repeat' (first | (with_reducible exact Below.refl _ _) | (with_reducible assumption) | (with_reducible refine Below.alloc ?_ ?_ _) | (with_reducible refine Below.drew ?_) | (with_reducible refine below_drewN ?_ _) | (with_reducible refine Below.setCell ?_ ?_ _) | (with_reducible refine below_setRow' ?_ ?_ _) | go_size)) hb1; have hL0 : w.heap.size < w1.heap.size := (by have hS0 := hb1.size; (try simp at hS0); omega); have hL1 : w.heap.size + 1 < w1.heap.size := (by have hS0 := hb1.size; (try simp at hS0); omega); have hLe : w.heap.size ≤ w1.heap.size := hB1.size; obtain ⟨hc1, hf1⟩ := bcell hb1; (try simp only [size_drew', size_drewN'] at hc1); (try simp only [size_drew', size_drewN'] at hf1); clear hb1)
    | (go_at_call 135; (with_reducible refine (isZero_f _ _ ⟨hh0, hh1⟩ ⟨by omega, hl1⟩ (by omega) _).mono ?_); rintro e w1 ⟨rfl, hb1⟩; have hk1 := blk?_below hb1; (try simp only [size_drew', size_drewN'] at hk1); have hB1 := below_via (w := w) (by repeat' (first | (with_reducible exact Below.refl _ _) | (with_reducible assumption) | (with_reducible refine Below.alloc ?_ ?_ _) | (with_reducible refine Below.drew ?_) | (with_reducible refine below_drewN ?_ _) | (with_reducible refine Below.setCell ?_ ?_ _) | (with_reducible refine below_setRow' ?_ ?_ _) | go_size)) hb1; have hL0 : w.heap.size < w1.heap.size := (by have hS0 := hb1.size; (try simp at hS0); omega); have hL1 : w.heap.size + 1 < w1.heap.size := (by have hS0 := hb1.size; (try simp at hS0); omega); have hLe : w.heap.size ≤ w1.heap.size := hB1.size; obtain ⟨hc1, hf1⟩ := bcell hb1; (try simp only [size_drew', size_drewN'] at hc1); (try simp only [size_drew', size_drewN'] at hf1); clear hb1))
  refine bodyPost_ret (res78 Tryd.results84 _ _ (w.heap.size + 1) _ rfl ?_ rfl) rfl ⟨rfl, (by repeat' (first | (with_reducible exact Below.refl _ _) | (with_reducible assumption) | (with_reducible refine Below.alloc ?_ ?_ _) | (with_reducible refine Below.drew ?_) | (with_reducible refine below_drewN ?_ _) | (with_reducible refine Below.setCell ?_ ?_ _) | (with_reducible refine below_setRow' ?_ ?_ _) | go_size))⟩
  go_simp
set_option maxHeartbeats 4000000 in
set_option maxRecDepth 100000 in
theorem next_6c (hi : Int) (hh0 : 0 ≤ hi) (hh1 : hi + 1 < 18446744073709551616) {b4 o4 b6 o6 : Nat} (w : World) (hg : Gl b4 o4 b6 o6 w) :
    Calls Tryd.prog 84 #[.agg #[.int .u64 (hi), .int .u64 (18446744073709551615), .pointer (some ⟨b6, o6, none⟩)]] w fun e w' => e = .returned (.agg #[.int .u64 (hi + 1), .int .u64 (0), .pointer (some ⟨b6, o6, none⟩)]) ∧ Below w.heap.size w w' := by
  have HG := Lib.hid hg
  obtain ⟨⟨z4, z0, s0, s1, s2, l4, c40, c41⟩, z6, zh, zh', l6, c60, c61⟩ := hg
  go_enter Tryd.func84, Tryd.ntmps84
  go_wp2_with (first
    | (go_at_call 138; (with_reducible refine (addOne_c hi hh0 hh1 _).mono ?_); rintro e w1 ⟨rfl, hb1⟩; have hk1 := blk?_below hb1; (try simp only [size_drew', size_drewN'] at hk1); have hB1 := below_via (w := w) (by repeat' (first | (with_reducible exact Below.refl _ _) | (with_reducible assumption) | (with_reducible refine Below.alloc ?_ ?_ _) | (with_reducible refine Below.drew ?_) | (with_reducible refine below_drewN ?_ _) | (with_reducible refine Below.setCell ?_ ?_ _) | (with_reducible refine below_setRow' ?_ ?_ _) | go_size)) hb1; have hL0 : w.heap.size < w1.heap.size := (by have hS0 := hb1.size; (try simp at hS0); omega); have hL1 : w.heap.size + 1 < w1.heap.size := (by have hS0 := hb1.size; (try simp at hS0); omega); have hLe : w.heap.size ≤ w1.heap.size := hB1.size; obtain ⟨hc1, hf1⟩ := bcell hb1; (try simp only [size_drew', size_drewN'] at hc1); (try simp only [size_drew', size_drewN'] at hf1); clear hb1)
    | (go_at_call 134; (with_reducible refine (is4_6 (b4 := b4) (o4 := o4) (b6 := b6) (o6 := o6) _ _ _ ?_).mono ?_); (exact HG.out.below (by repeat' (first | (with_reducible exact Below.refl _ _) | (with_reducible assumption) | (with_reducible refine Below.alloc ?_ ?_ _) | (with_reducible refine Below.drew ?_) | (with_reducible refine below_drewN ?_ _) | (with_reducible refine Below.setCell ?_ ?_ _) | (with_reducible refine below_setRow' ?_ ?_ _) | go_size)) (Nat.le_refl _)); rintro e w1 ⟨rfl, hb1⟩; have hk1 := blk?_below hb1; (try simp only [size_drew', size_drewN'] at hk1); have hB1 := below_via (w := w) (by repeat' (first | (with_reducible exact Below.refl _ _) | (with_reducible assumption) | (with_reducible refine Below.alloc ?_ ?_ _) | (with_reducible refine Below.drew ?_) | (with_reducible refine below_drewN ?_ _) | (with_reducible refine Below.setCell ?_ ?_ _) | (with_reducible refine below_setRow' ?_ ?_ _) | go_size)) hb1; have hL0 : w.heap.size < w1.heap.size := (by have hS0 := hb1.size; (try simp at hS0); omega); have hL1 : w.heap.size + 1 < w1.heap.size := (by have hS0 := hb1.size; (try simp at hS0); omega); have hLe : w.heap.size ≤ w1.heap.size := hB1.size; obtain ⟨hc1, hf1⟩ := bcell hb1; (try simp only [size_drew', size_drewN'] at hc1); (try simp only [size_drew', size_drewN'] at hf1); clear hb1)
    | (go_at_call 135; (with_reducible refine (isZero_f _ _ ⟨by omega, hh1⟩ (by omega) (by omega) _).mono ?_); rintro e w1 ⟨rfl, hb1⟩; have hk1 := blk?_below hb1; (try simp only [size_drew', size_drewN'] at hk1); have hB1 := below_via (w := w) (by repeat' (first | (with_reducible exact Below.refl _ _) | (with_reducible assumption) | (with_reducible refine Below.alloc ?_ ?_ _) | (with_reducible refine Below.drew ?_) | (with_reducible refine below_drewN ?_ _) | (with_reducible refine Below.setCell ?_ ?_ _) | (with_reducible refine below_setRow' ?_ ?_ _) | go_size)) hb1; have hL0 : w.heap.size < w1.heap.size := (by have hS0 := hb1.size; (try simp at hS0); omega); have hL1 : w.heap.size + 1 < w1.heap.size := (by have hS0 := hb1.size; (try simp at hS0); omega); have hLe : w.heap.size ≤ w1.heap.size := hB1.size; obtain ⟨hc1, hf1⟩ := bcell hb1; (try simp only [size_drew', size_drewN'] at hc1); (try simp only [size_drew', size_drewN'] at hf1); clear hb1))
  refine bodyPost_ret (res78 Tryd.results84 _ _ (w.heap.size + 1) _ rfl ?_ rfl) rfl ⟨rfl, (by repeat' (first | (with_reducible exact Below.refl _ _) | (with_reducible assumption) | (with_reducible refine Below.alloc ?_ ?_ _) | (with_reducible refine Below.drew ?_) | (with_reducible refine below_drewN ?_ _) | (with_reducible refine Below.setCell ?_ ?_ _) | (with_reducible refine below_setRow' ?_ ?_ _) | go_size))⟩
  go_simp
set_option maxHeartbeats 4000000 in
set_option maxRecDepth 100000 in
theorem next_6z  {b4 o4 b6 o6 : Nat} (w : World) (hg : Gl b4 o4 b6 o6 w) :
    Calls Tryd.prog 84 #[.agg #[.int .u64 (18446744073709551615), .int .u64 (18446744073709551615), .pointer (some ⟨b6, o6, none⟩)]] w fun e w' => e = .returned (.agg #[.int .u64 (0), .int .u64 (0), .pointer none]) ∧ Below w.heap.size w w' := by
  have HG := Lib.hid hg
  obtain ⟨⟨z4, z0, s0, s1, s2, l4, c40, c41⟩, z6, zh, zh', l6, c60, c61⟩ := hg
  go_enter Tryd.func84, Tryd.ntmps84
  go_wp2_with (first
    | (go_at_call 138; (with_reducible refine (addOne_z _).mono ?_); rintro e w1 ⟨rfl, hb1⟩; have hk1 := blk?_below hb1; (try simp only [size_drew', size_drewN'] at hk1); have hB1 := below_via (w := w) (by repeat' (first | (with_reducible exact Below.refl _ _) | (with_reducible assumption) | (with_reducible refine Below.alloc ?_ ?_ _) | (with_reducible refine Below.drew ?_) | (with_reducible refine below_drewN ?_ _) | (with_reducible refine Below.setCell ?_ ?_ _) | (with_reducible refine below_setRow' ?_ ?_ _) | go_size)) hb1; have hL0 : w.heap.size < w1.heap.size := (by have hS0 := hb1.size; (try simp at hS0); omega); have hL1 : w.heap.size + 1 < w1.heap.size := (by have hS0 := hb1.size; (try simp at hS0); omega); have hLe : w.heap.size ≤ w1.heap.size := hB1.size; obtain ⟨hc1, hf1⟩ := bcell hb1; (try simp only [size_drew', size_drewN'] at hc1); (try simp only [size_drew', size_drewN'] at hf1); clear hb1)
    | (go_at_call 134; (with_reducible refine (is4_6 (b4 := b4) (o4 := o4) (b6 := b6) (o6 := o6) _ _ _ ?_).mono ?_); (exact HG.out.below (by repeat' (first | (with_reducible exact Below.refl _ _) | (with_reducible assumption) | (with_reducible refine Below.alloc ?_ ?_ _) | (with_reducible refine Below.drew ?_) | (with_reducible refine below_drewN ?_ _) | (with_reducible refine Below.setCell ?_ ?_ _) | (with_reducible refine below_setRow' ?_ ?_ _) | go_size)) (Nat.le_refl _)); rintro e w1 ⟨rfl, hb1⟩; have hk1 := blk?_below hb1; (try simp only [size_drew', size_drewN'] at hk1); have hB1 := below_via (w := w) (by repeat' (first | (with_reducible exact Below.refl _ _) | (with_reducible assumption) | (with_reducible refine Below.alloc ?_ ?_ _) | (with_reducible refine Below.drew ?_) | (with_reducible refine below_drewN ?_ _) | (with_reducible refine Below.setCell ?_ ?_ _) | (with_reducible refine below_setRow' ?_ ?_ _) | go_size)) hb1; have hL0 : w.heap.size < w1.heap.size := (by have hS0 := hb1.size; (try simp at hS0); omega); have hL1 : w.heap.size + 1 < w1.heap.size := (by have hS0 := hb1.size; (try simp at hS0); omega); have hLe : w.heap.size ≤ w1.heap.size := hB1.size; obtain ⟨hc1, hf1⟩ := bcell hb1; (try simp only [size_drew', size_drewN'] at hc1); (try simp only [size_drew', size_drewN'] at hf1); clear hb1)
    | (go_at_call 135; (with_reducible refine (isZero_t _).mono ?_); rintro e w1 ⟨rfl, hb1⟩; have hk1 := blk?_below hb1; (try simp only [size_drew', size_drewN'] at hk1); have hB1 := below_via (w := w) (by repeat' (first | (with_reducible exact Below.refl _ _) | (with_reducible assumption) | (with_reducible refine Below.alloc ?_ ?_ _) | (with_reducible refine Below.drew ?_) | (with_reducible refine below_drewN ?_ _) | (with_reducible refine Below.setCell ?_ ?_ _) | (with_reducible refine below_setRow' ?_ ?_ _) | go_size)) hb1; have hL0 : w.heap.size < w1.heap.size := (by have hS0 := hb1.size; (try simp at hS0); omega); have hL1 : w.heap.size + 1 < w1.heap.size := (by have hS0 := hb1.size; (try simp at hS0); omega); have hLe : w.heap.size ≤ w1.heap.size := hB1.size; obtain ⟨hc1, hf1⟩ := bcell hb1; (try simp only [size_drew', size_drewN'] at hc1); (try simp only [size_drew', size_drewN'] at hf1); clear hb1))
  refine bodyPost_ret (res78 Tryd.results84 _ _ (w.heap.size + 1) _ rfl ?_ rfl) rfl ⟨rfl, (by repeat' (first | (with_reducible exact Below.refl _ _) | (with_reducible assumption) | (with_reducible refine Below.alloc ?_ ?_ _) | (with_reducible refine Below.drew ?_) | (with_reducible refine below_drewN ?_ _) | (with_reducible refine Below.setCell ?_ ?_ _) | (with_reducible refine below_setRow' ?_ ?_ _) | go_size))⟩
  go_simp
set_option maxHeartbeats 4000000 in
set_option maxRecDepth 100000 in
theorem prev_4n (lo : Int) (hl0 : 1 ≤ lo) (hl1 : lo < 18446744073709551616) (hz : lo % 4294967296 ≠ 0) {b4 o4 : Nat} (w : World) (hg : G4 b4 o4 w) :
    Calls Tryd.prog 82 #[.agg #[.int .u64 (0), .int .u64 (lo), .pointer (some ⟨b4, o4, none⟩)]] w fun e w' => e = .returned (.agg #[.int .u64 (0), .int .u64 (lo - 1), .pointer (some ⟨b4, o4, none⟩)]) ∧ Below w.heap.size w w' := by
  have HG := Lib.hid hg
  obtain ⟨z4, z0, s0, s1, s2, l4, c40, c41⟩ := hg
  have hz' : (lo % 4294967296 == 0) = false := beq_eq_false_iff_ne.2 hz
  clear hz
  go_enter Tryd.func82, Tryd.ntmps82
  go_wp2_with (first
    | (go_at_call 134; (with_reducible refine (is4_4 (b4 := b4) (o4 := o4) _ _ _ ?_).mono ?_); (exact HG.out.below (by repeat' (first | (with_reducible exact Below.refl _ _) | (with_reducible assumption) | (with_reducible refine Below.alloc ?_ ?_ _) | (with_reducible refine Below.drew ?_) | (with_reducible refine below_drewN ?_ _) | (with_reducible refine Below.setCell ?_ ?_ _) | (with_reducible refine below_setRow' ?_ ?_ _) | go_size)) (Nat.le_refl _)); rintro e w1 ⟨rfl, hb1⟩; have hk1 := blk?_below hb1; (try simp only [size_drew', size_drewN'] at hk1); have hB1 := below_via (w := w) (by repeat' (first | (with_reducible exact Below.refl _ _) | (with_reducible assumption) | (with_reducible refine Below.alloc ?_ ?_ _) | (with_reducible refine Below.drew ?_) | (with_reducible refine below_drewN ?_ _) | (with_reducible refine Below.setCell ?_ ?_ _) | (with_reducible refine below_setRow' ?_ ?_ _) | go_size)) hb1; have hL0 : w.heap.size < w1.heap.size := (by have hS0 := hb1.size; (try simp at hS0); omega); have hL1 : w.heap.size + 1 < w1.heap.size := (by have hS0 := hb1.size; (try simp at hS0); omega); have hLe : w.heap.size ≤ w1.heap.size := hB1.size; obtain ⟨hc1, hf1⟩ := bcell hb1; (try simp only [size_drew', size_drewN'] at hc1); (try simp only [size_drew', size_drewN'] at hf1); clear hb1)
    | (go_at_call 136; (with_reducible refine (subOne_n 0 lo (by omega) (by omega) hl0 hl1 _).mono ?_); rintro e w1 ⟨rfl, hb1⟩; have hk1 := blk?_below hb1; (try simp only [size_drew', size_drewN'] at hk1); have hB1 := below_via (w := w) (by repeat' (first | (with_reducible exact Below.refl _ _) | (with_reducible assumption) | (with_reducible refine Below.alloc ?_ ?_ _) | (with_reducible refine Below.drew ?_) | (with_reducible refine below_drewN ?_ _) | (with_reducible refine Below.setCell ?_ ?_ _) | (with_reducible refine below_setRow' ?_ ?_ _) | go_size)) hb1; have hL0 : w.heap.size < w1.heap.size := (by have hS0 := hb1.size; (try simp at hS0); omega); have hL1 : w.heap.size + 1 < w1.heap.size := (by have hS0 := hb1.size; (try simp at hS0); omega); have hLe : w.heap.size ≤ w1.heap.size := hB1.size; obtain ⟨hc1, hf1⟩ := bcell hb1; (try simp only [size_drew', size_drewN'] at hc1); (try simp only [size_drew', size_drewN'] at hf1); clear hb1))
  refine bodyPost_ret (res78 Tryd.results82 _ _ (w.heap.size + 1) _ rfl ?_ rfl) rfl ⟨rfl, (by repeat' (first | (with_reducible exact Below.refl _ _) | (with_reducible assumption) | (with_reducible refine Below.alloc ?_ ?_ _) | (with_reducible refine Below.drew ?_) | (with_reducible refine below_drewN ?_ _) | (with_reducible refine Below.setCell ?_ ?_ _) | (with_reducible refine below_setRow' ?_ ?_ _) | go_size))⟩
  go_simp
set_option maxHeartbeats 4000000 in
set_option maxRecDepth 100000 in
theorem prev_4z (lo : Int) (hl0 : 0 ≤ lo) (hl1 : lo < 18446744073709551616) (hz : lo % 4294967296 = 0) {b4 o4 : Nat} (w : World) (hg : G4 b4 o4 w) :
    Calls Tryd.prog 82 #[.agg #[.int .u64 (0), .int .u64 (lo), .pointer (some ⟨b4, o4, none⟩)]] w fun e w' => e = .returned (.agg #[.int .u64 (0), .int .u64 (0), .pointer none]) ∧ Below w.heap.size w w' := by
  have HG := Lib.hid hg
  obtain ⟨z4, z0, s0, s1, s2, l4, c40, c41⟩ := hg
  have hz' : (lo % 4294967296 == 0) = true := beq_iff_eq.2 hz
  clear hz
  go_enter Tryd.func82, Tryd.ntmps82
  go_wp2_with (first
    | (go_at_call 134; (with_reducible refine (is4_4 (b4 := b4) (o4 := o4) _ _ _ ?_).mono ?_); (exact HG.out.below (by repeat' (first | (with_reducible exact Below.refl _ _) | (with_reducible assumption) | (with_reducible refine Below.alloc ?_ ?_ _) | (with_reducible refine Below.drew ?_) | (with_reducible refine below_drewN ?_ _) | (with_reducible refine Below.setCell ?_ ?_ _) | (with_reducible refine below_setRow' ?_ ?_ _) | go_size)) (Nat.le_refl _)); rintro e w1 ⟨rfl, hb1⟩; have hk1 := blk?_below hb1; (try simp only [size_drew', size_drewN'] at hk1); have hB1 := below_via (w := w) (by repeat' (first | (with_reducible exact Below.refl _ _) | (with_reducible assumption) | (with_reducible refine Below.alloc ?_ ?_ _) | (with_reducible refine Below.drew ?_) | (with_reducible refine below_drewN ?_ _) | (with_reducible refine Below.setCell ?_ ?_ _) | (with_reducible refine below_setRow' ?_ ?_ _) | go_size)) hb1; have hL0 : w.heap.size < w1.heap.size := (by have hS0 := hb1.size; (try simp at hS0); omega); have hL1 : w.heap.size + 1 < w1.heap.size := (by have hS0 := hb1.size; (try simp at hS0); omega); have hLe : w.heap.size ≤ w1.heap.size := hB1.size; obtain ⟨hc1, hf1⟩ := bcell hb1; (try simp only [size_drew', size_drewN'] at hc1); (try simp only [size_drew', size_drewN'] at hf1); clear hb1))
  refine bodyPost_ret (res78 Tryd.results82 _ _ (w.heap.size + 1) _ rfl ?_ rfl) rfl ⟨rfl, (by repeat' (first | (with_reducible exact Below.refl _ _) | (with_reducible assumption) | (with_reducible refine Below.alloc ?_ ?_ _) | (with_reducible refine Below.drew ?_) | (with_reducible refine below_drewN ?_ _) | (with_reducible refine Below.setCell ?_ ?_ _) | (with_reducible refine below_setRow' ?_ ?_ _) | go_size))⟩
  go_simp
set_option maxHeartbeats 4000000 in
set_option maxRecDepth 100000 in
theorem prev_6n (hi lo : Int) (hh0 : 0 ≤ hi) (hh1 : hi < 18446744073709551616) (hl0 : 1 ≤ lo) (hl1 : lo < 18446744073709551616) {b4 o4 b6 o6 : Nat} (w : World) (hg : Gl b4 o4 b6 o6 w) :
    Calls Tryd.prog 82 #[.agg #[.int .u64 (hi), .int .u64 (lo), .pointer (some ⟨b6, o6, none⟩)]] w fun e w' => e = .returned (.agg #[.int .u64 (hi), .int .u64 (lo - 1), .pointer (some ⟨b6, o6, none⟩)]) ∧ Below w.heap.size w w' := by
  have HG := Lib.hid hg
  obtain ⟨⟨z4, z0, s0, s1, s2, l4, c40, c41⟩, z6, zh, zh', l6, c60, c61⟩ := hg
  go_enter Tryd.func82, Tryd.ntmps82
  go_wp2_with (first
    | (go_at_call 134; (with_reducible refine (is4_6 (b4 := b4) (o4 := o4) (b6 := b6) (o6 := o6) _ _ _ ?_).mono ?_); (exact HG.out.below (by repeat' (first | (with_reducible exact Below.refl _ _) | (with_reducible assumption) | (with_reducible refine Below.alloc ?_ ?_ _) | (with_reducible refine Below.drew ?_) | (with_reducible refine below_drewN ?_ _) | (with_reducible refine Below.setCell ?_ ?_ _) | (with_reducible refine below_setRow' ?_ ?_ _) | go_size)) (Nat.le_refl _)); rintro e w1 ⟨rfl, hb1⟩; have hk1 := blk?_below hb1; (try simp only [size_drew', size_drewN'] at hk1); have hB1 := below_via (w := w) (by repeat' (first | (with_reducible exact Below.refl _ _) | (with_reducible assumption) | (with_reducible refine Below.alloc ?_ ?_ _) | (with_reducible refine Below.drew ?_) | (with_reducible refine below_drewN ?_ _) | (with_reducible refine Below.setCell ?_ ?_ _) | (with_reducible refine below_setRow' ?_ ?_ _) | go_size)) hb1; have hL0 : w.heap.size < w1.heap.size := (by have hS0 := hb1.size; (try simp at hS0); omega); have hL1 : w.heap.size + 1 < w1.heap.size := (by have hS0 := hb1.size; (try simp at hS0); omega); have hLe : w.heap.size ≤ w1.heap.size := hB1.size; obtain ⟨hc1, hf1⟩ := bcell hb1; (try simp only [size_drew', size_drewN'] at hc1); (try simp only [size_drew', size_drewN'] at hf1); clear hb1)
    | (go_at_call 135; (with_reducible refine (isZero_f _ _ ⟨hh0, hh1⟩ ⟨by omega, hl1⟩ (by omega) _).mono ?_); rintro e w1 ⟨rfl, hb1⟩; have hk1 := blk?_below hb1; (try simp only [size_drew', size_drewN'] at hk1); have hB1 := below_via (w := w) (by repeat' (first | (with_reducible exact Below.refl _ _) | (with_reducible assumption) | (with_reducible refine Below.alloc ?_ ?_ _) | (with_reducible refine Below.drew ?_) | (with_reducible refine below_drewN ?_ _) | (with_reducible refine Below.setCell ?_ ?_ _) | (with_reducible refine below_setRow' ?_ ?_ _) | go_size)) hb1; have hL0 : w.heap.size < w1.heap.size := (by have hS0 := hb1.size; (try simp at hS0); omega); have hL1 : w.heap.size + 1 < w1.heap.size := (by have hS0 := hb1.size; (try simp at hS0); omega); have hLe : w.heap.size ≤ w1.heap.size := hB1.size; obtain ⟨hc1, hf1⟩ := bcell hb1; (try simp only [size_drew', size_drewN'] at hc1); (try simp only [size_drew', size_drewN'] at hf1); clear hb1)
    | (go_at_call 136; (with_reducible refine (subOne_n hi lo hh0 hh1 hl0 hl1 _).mono ?_); rintro e w1 ⟨rfl, hb1⟩; have hk1 := blk?_below hb1; (try simp only [size_drew', size_drewN'] at hk1); have hB1 := below_via (w := w) (by repeat' (first | (with_reducible exact Below.refl _ _) | (with_reducible assumption) | (with_reducible refine Below.alloc ?_ ?_ _) | (with_reducible refine Below.drew ?_) | (with_reducible refine below_drewN ?_ _) | (with_reducible refine Below.setCell ?_ ?_ _) | (with_reducible refine below_setRow' ?_ ?_ _) | go_size)) hb1; have hL0 : w.heap.size < w1.heap.size := (by have hS0 := hb1.size; (try simp at hS0); omega); have hL1 : w.heap.size + 1 < w1.heap.size := (by have hS0 := hb1.size; (try simp at hS0); omega); have hLe : w.heap.size ≤ w1.heap.size := hB1.size; obtain ⟨hc1, hf1⟩ := bcell hb1; (try simp only [size_drew', size_drewN'] at hc1); (try simp only [size_drew', size_drewN'] at hf1); clear hb1))
  refine bodyPost_ret (res78 Tryd.results82 _ _ (w.heap.size + 1) _ rfl ?_ rfl) rfl ⟨rfl, (by repeat' (first | (with_reducible exact Below.refl _ _) | (with_reducible assumption) | (with_reducible refine Below.alloc ?_ ?_ _) | (with_reducible refine Below.drew ?_) | (with_reducible refine below_drewN ?_ _) | (with_reducible refine Below.setCell ?_ ?_ _) | (with_reducible refine below_setRow' ?_ ?_ _) | go_size))⟩
  go_simp
set_option maxHeartbeats 4000000 in
set_option maxRecDepth 100000 in
theorem prev_6b (hi : Int) (hh0 : 1 ≤ hi) (hh1 : hi < 18446744073709551616) {b4 o4 b6 o6 : Nat} (w : World) (hg : Gl b4 o4 b6 o6 w) :
    Calls Tryd.prog 82 #[.agg #[.int .u64 (hi), .int .u64 (0), .pointer (some ⟨b6, o6, none⟩)]] w fun e w' => e = .returned (.agg #[.int .u64 (hi - 1), .int .u64 (18446744073709551615), .pointer (some ⟨b6, o6, none⟩)]) ∧ Below w.heap.size w w' := by
  have HG := Lib.hid hg
  obtain ⟨⟨z4, z0, s0, s1, s2, l4, c40, c41⟩, z6, zh, zh', l6, c60, c61⟩ := hg
  go_enter Tryd.func82, Tryd.ntmps82
  go_wp2_with (first
    | (go_at_call 134; (with_reducible refine (is4_6 (b4 := b4) (o4 := o4) (b6 := b6) (o6 := o6) _ _ _ ?_).mono ?_); (exact HG.out.below (by repeat' (first | (with_reducible exact Below.refl _ _) | (with_reducible assumption) | (with_reducible refine Below.alloc ?_ ?_ _) | (with_reducible refine Below.drew ?_) | (with_reducible refine below_drewN ?_ _) | (with_reducible refine Below.setCell ?_ ?_ _) | (with_reducible refine below_setRow' ?_ ?_ _) | go_size)) (Nat.le_refl _)); rintro e w1 ⟨rfl, hb1⟩; have hk1 := blk?_below hb1; (try simp only [size_drew', size_drewN'] at hk1); have hB1 := below_via (w := w) (by repeat' (first | (with_reducible exact Below.refl _ _) | (with_reducible assumption) | (with_reducible refine Below.alloc ?_ ?_ _) | (with_reducible refine Below.drew ?_) | (with_reducible refine below_drewN ?_ _) | (with_reducible refine Below.setCell ?_ ?_ _) | (with_reducible refine below_setRow' ?_ ?_ _) | go_size)) hb1; have hL0 : w.heap.size < w1.heap.size := (by have hS0 := hb1.size; (try simp at hS0); omega); have hL1 : w.heap.size + 1 < w1.heap.size := (by have hS0 := hb1.size; (try simp at hS0); omega); have hLe : w.heap.size ≤ w1.heap.size := hB1.size; obtain ⟨hc1, hf1⟩ := bcell hb1; (try simp only [size_drew', size_drewN'] at hc1); (try simp only [size_drew', size_drewN'] at hf1); clear hb1)
    | (go_at_call 135; (with_reducible refine (isZero_f _ _ ⟨by omega, hh1⟩ (by omega) (by omega) _).mono ?_); rintro e w1 ⟨rfl, hb1⟩; have hk1 := blk?_below hb1; (try simp only [size_drew', size_drewN'] at hk1); have hB1 := below_via (w := w) (by repeat' (first | (with_reducible exact Below.refl _ _) | (with_reducible assumption) | (with_reducible refine Below.alloc ?_ ?_ _) | (with_reducible refine Below.drew ?_) | (with_reducible refine below_drewN ?_ _) | (with_reducible refine Below.setCell ?_ ?_ _) | (with_reducible refine below_setRow' ?_ ?_ _) | go_size)) hb1; have hL0 : w.heap.size < w1.heap.size := (by have hS0 := hb1.size; (try simp at hS0); omega); have hL1 : w.heap.size + 1 < w1.heap.size := (by have hS0 := hb1.size; (try simp at hS0); omega); have hLe : w.heap.size ≤ w1.heap.size := hB1.size; obtain ⟨hc1, hf1⟩ := bcell hb1; (try simp only [size_drew', size_drewN'] at hc1); (try simp only [size_drew', size_drewN'] at hf1); clear hb1)
    | (go_at_call 136; (with_reducible refine (subOne_b hi hh0 hh1 _).mono ?_); rintro e w1 ⟨rfl, hb1⟩; have hk1 := blk?_below hb1; (try simp only [size_drew', size_drewN'] at hk1); have hB1 := below_via (w := w) (by repeat' (first | (with_reducible exact Below.refl _ _) | (with_reducible assumption) | (with_reducible refine Below.alloc ?_ ?_ _) | (with_reducible refine Below.drew ?_) | (with_reducible refine below_drewN ?_ _) | (with_reducible refine Below.setCell ?_ ?_ _) | (with_reducible refine below_setRow' ?_ ?_ _) | go_size)) hb1; have hL0 : w.heap.size < w1.heap.size := (by have hS0 := hb1.size; (try simp at hS0); omega); have hL1 : w.heap.size + 1 < w1.heap.size := (by have hS0 := hb1.size; (try simp at hS0); omega); have hLe : w.heap.size ≤ w1.heap.size := hB1.size; obtain ⟨hc1, hf1⟩ := bcell hb1; (try simp only [size_drew', size_drewN'] at hc1); (try simp only [size_drew', size_drewN'] at hf1); clear hb1))
  refine bodyPost_ret (res78 Tryd.results82 _ _ (w.heap.size + 1) _ rfl ?_ rfl) rfl ⟨rfl, (by repeat' (first | (with_reducible exact Below.refl _ _) | (with_reducible assumption) | (with_reducible refine Below.alloc ?_ ?_ _) | (with_reducible refine Below.drew ?_) | (with_reducible refine below_drewN ?_ _) | (with_reducible refine Below.setCell ?_ ?_ _) | (with_reducible refine below_setRow' ?_ ?_ _) | go_size))⟩
  go_simp
set_option maxHeartbeats 4000000 in
set_option maxRecDepth 100000 in
theorem prev_6z  {b4 o4 b6 o6 : Nat} (w : World) (hg : Gl b4 o4 b6 o6 w) :
    Calls Tryd.prog 82 #[.agg #[.int .u64 (0), .int .u64 (0), .pointer (some ⟨b6, o6, none⟩)]] w fun e w' => e = .returned (.agg #[.int .u64 (0), .int .u64 (0), .pointer none]) ∧ Below w.heap.size w w' := by
  have HG := Lib.hid hg
  obtain ⟨⟨z4, z0, s0, s1, s2, l4, c40, c41⟩, z6, zh, zh', l6, c60, c61⟩ := hg
  go_enter Tryd.func82, Tryd.ntmps82
  go_wp2_with (first
    | (go_at_call 134; (with_reducible refine (is4_6 (b4 := b4) (o4 := o4) (b6 := b6) (o6 := o6) _ _ _ ?_).mono ?_); (exact HG.out.below (by repeat' (first | (with_reducible exact Below.refl _ _) | (with_reducible assumption) | (with_reducible refine Below.alloc ?_ ?_ _) | (with_reducible refine Below.drew ?_) | (with_reducible refine below_drewN ?_ _) | (with_reducible refine Below.setCell ?_ ?_ _) | (with_reducible refine below_setRow' ?_ ?_ _) | go_size)) (Nat.le_refl _)); rintro e w1 ⟨rfl, hb1⟩; have hk1 := blk?_below hb1; (try simp only [size_drew', size_drewN'] at hk1); have hB1 := below_via (w := w) (by repeat' (first | (with_reducible exact Below.refl _ _) | (with_reducible assumption) | (with_reducible refine Below.alloc ?_ ?_ _) | (with_reducible refine Below.drew ?_) | (with_reducible refine below_drewN ?_ _) | (with_reducible refine Below.setCell ?_ ?_ _) | (with_reducible refine below_setRow' ?_ ?_ _) | go_size)) hb1; have hL0 : w.heap.size < w1.heap.size := (by have hS0 := hb1.size; (try simp at hS0); omega); have hL1 : w.heap.size + 1 < w1.heap.size := (by have hS0 := hb1.size; (try simp at hS0); omega); have hLe : w.heap.size ≤ w1.heap.size := hB1.size; obtain ⟨hc1, hf1⟩ := bcell hb1; (try simp only [size_drew', size_drewN'] at hc1); (try simp only [size_drew', size_drewN'] at hf1); clear hb1)
    | (go_at_call 135; (with_reducible refine (isZero_t _).mono ?_); rintro e w1 ⟨rfl, hb1⟩; have hk1 := blk?_below hb1; (try simp only [size_drew', size_drewN'] at hk1); have hB1 := below_via (w := w) (by repeat' (first | (with_reducible exact Below.refl _ _) | (with_reducible assumption) | (with_reducible refine Below.alloc ?_ ?_ _) | (with_reducible refine Below.drew ?_) | (with_reducible refine below_drewN ?_ _) | (with_reducible refine Below.setCell ?_ ?_ _) | (with_reducible refine below_setRow' ?_ ?_ _) | go_size)) hb1; have hL0 : w.heap.size < w1.heap.size := (by have hS0 := hb1.size; (try simp at hS0); omega); have hL1 : w.heap.size + 1 < w1.heap.size := (by have hS0 := hb1.size; (try simp at hS0); omega); have hLe : w.heap.size ≤ w1.heap.size := hB1.size; obtain ⟨hc1, hf1⟩ := bcell hb1; (try simp only [size_drew', size_drewN'] at hc1); (try simp only [size_drew', size_drewN'] at hf1); clear hb1))
  refine bodyPost_ret (res78 Tryd.results82 _ _ (w.heap.size + 1) _ rfl ?_ rfl) rfl ⟨rfl, (by repeat' (first | (with_reducible exact Below.refl _ _) | (with_reducible assumption) | (with_reducible refine Below.alloc ?_ ?_ _) | (with_reducible refine Below.drew ?_) | (with_reducible refine below_drewN ?_ _) | (with_reducible refine Below.setCell ?_ ?_ _) | (with_reducible refine below_setRow' ?_ ?_ _) | go_size))⟩
  go_simp
end Go.Proofs.YtmlkcgacneealaaDoor
