/- Numbers and bytes: byteorder's functions, AddrFrom4, AddrFrom16. Conditions: cells as named, the listed variables as laid. -/
import Derived.Test.YtmlkcgacneealaaDoorAd
set_option linter.unusedVariables false
set_option linter.unusedSimpArgs false
namespace Go.Proofs.YtmlkcgacneealaaDoor
open Go.RowKit
set_option maxHeartbeats 4000000 in
set_option maxRecDepth 100000 in
theorem addrFrom4 (b : Nat → Int) (hb : Bt b) {b4 o4 : Nat} (w : World) (hg : G4 b4 o4 w) :
    Calls Tryd.prog 70 #[.agg (arr4 b)] w fun e w' =>
      e = .returned (.agg #[.int .u64 0, .int .u64 (281470681743360 + be4f b 0), .pointer (some ⟨b4, o4, none⟩)]) ∧ Below w.heap.size w w' := by
  obtain ⟨z4, z0, s0, s1, s2, l4, c40, c41⟩ := hg
  obtain ⟨h00, h01⟩ := hb 0
  obtain ⟨h10, h11⟩ := hb 1
  obtain ⟨h20, h21⟩ := hb 2
  obtain ⟨h30, h31⟩ := hb 3
  have HB := Lib.hid hb
  clear hb
  go_enter Tryd.func70, Tryd.ntmps70
  go_wp2
  go_returns
  refine ⟨?_, by go_grown⟩
  have e : bits .or .u64 (bits .or .u64 (bits .or .u64 (bits .or .u64 281470681743360 (b 0 * 16777216)) (b 1 * 65536)) (b 2 * 256)) (b 3) = 281470681743360 + be4f b 0 := by
    simp (disch := omega) only [u64_hi8, u64_hi16, u64_hi24, u64_hi32]
    unfold be4f be4; simp only [Nat.zero_add]; omega
  rw [e]
set_option maxHeartbeats 4000000 in
set_option maxRecDepth 100000 in
theorem beU64 (g o n c : Nat) (x0 x1 x2 x3 x4 x5 x6 x7 : Int) (hx0 : 0 ≤ x0 ∧ x0 < 256) (hx1 : 0 ≤ x1 ∧ x1 < 256) (hx2 : 0 ≤ x2 ∧ x2 < 256) (hx3 : 0 ≤ x3 ∧ x3 < 256) (hx4 : 0 ≤ x4 ∧ x4 < 256) (hx5 : 0 ≤ x5 ∧ x5 < 256) (hx6 : 0 ≤ x6 ∧ x6 < 256) (hx7 : 0 ≤ x7 ∧ x7 < 256) (w : World) (hn : 8 ≤ n) (c0 : w.cell? ⟨g, o, none⟩ = some (.int .u8 x0)) (c1 : w.cell? ⟨g, o + 1, none⟩ = some (.int .u8 x1)) (c2 : w.cell? ⟨g, o + 2, none⟩ = some (.int .u8 x2)) (c3 : w.cell? ⟨g, o + 3, none⟩ = some (.int .u8 x3)) (c4 : w.cell? ⟨g, o + 4, none⟩ = some (.int .u8 x4)) (c5 : w.cell? ⟨g, o + 5, none⟩ = some (.int .u8 x5)) (c6 : w.cell? ⟨g, o + 6, none⟩ = some (.int .u8 x6)) (c7 : w.cell? ⟨g, o + 7, none⟩ = some (.int .u8 x7)) :
    Calls Tryd.prog 130 #[.slice (some ⟨g, o, none⟩) n c] w fun e w' => e = .returned (.int .u64 (be8 x0 x1 x2 x3 x4 x5 x6 x7)) ∧ ∃ k, w' = w.drewN k := by
  obtain ⟨hx00, hx01⟩ := hx0
  obtain ⟨hx10, hx11⟩ := hx1
  obtain ⟨hx20, hx21⟩ := hx2
  obtain ⟨hx30, hx31⟩ := hx3
  obtain ⟨hx40, hx41⟩ := hx4
  obtain ⟨hx50, hx51⟩ := hx5
  obtain ⟨hx60, hx61⟩ := hx6
  obtain ⟨hx70, hx71⟩ := hx7
  have q0 : 0 < n := by omega
  have q1 : (1 : Int) < (n : Int) := by omega
  have q2 : (2 : Int) < (n : Int) := by omega
  have q3 : (3 : Int) < (n : Int) := by omega
  have q4 : (4 : Int) < (n : Int) := by omega
  have q5 : (5 : Int) < (n : Int) := by omega
  have q6 : (6 : Int) < (n : Int) := by omega
  have q7 : (7 : Int) < (n : Int) := by omega
  go_enter Tryd.func130, Tryd.ntmps130
  go_wp2
  go_quiet (fail)
  go_wp2
  go_ret
  refine ⟨?_, _, rfl⟩
  simp (disch := omega) only [u64_wrap_id, u64_or8, u64_or16, u64_or24, u64_or32, u64_or40, u64_or48, u64_or56]
  exact ret_int (by unfold be8; omega)
set_option maxHeartbeats 4000000 in
set_option maxRecDepth 100000 in
theorem addrFrom16 (b : Nat → Int) (hb : Bt b) {b4 o4 b6 o6 : Nat} (w : World) (hg : Gl b4 o4 b6 o6 w) :
    Calls Tryd.prog 71 #[.agg (arr16 b)] w fun e w' =>
      e = .returned (.agg #[.int .u64 (be8f b 0), .int .u64 (be8f b 8), .pointer (some ⟨b6, o6, none⟩)]) ∧ Below w.heap.size w w' := by
  obtain ⟨⟨z4, z0, s0, s1, s2, l4, c40, c41⟩, z6, zh, zh', l6, c60, c61⟩ := hg
  have HB := Lib.hid hb
  clear hb
  go_enter Tryd.func71, Tryd.ntmps71
  go_wp2
  go_region_with (first
    | (go_at_call_of 130 (Value.slice (some ⟨w.heap.size, 0, none⟩) 8 16); refine (beU64 _ _ _ _ (b 0) (b 1) (b 2) (b 3) (b 4) (b 5) (b 6) (b 7) (HB.out 0) (HB.out 1) (HB.out 2) (HB.out 3) (HB.out 4) (HB.out 5) (HB.out 6) (HB.out 7) _ (by omega) (by go_simp) (by go_simp) (by go_simp) (by go_simp) (by go_simp) (by go_simp) (by go_simp) (by go_simp)).mono ?_; rintro e w' ⟨rfl, k, rfl⟩)
    | (go_at_call_of 130 (Value.slice (some ⟨w.heap.size, 8, none⟩) 8 8); refine (beU64 _ _ _ _ (b 8) (b 9) (b 10) (b 11) (b 12) (b 13) (b 14) (b 15) (HB.out 8) (HB.out 9) (HB.out 10) (HB.out 11) (HB.out 12) (HB.out 13) (HB.out 14) (HB.out 15) _ (by omega) (by go_simp) (by go_simp) (by go_simp) (by go_simp) (by go_simp) (by go_simp) (by go_simp) (by go_simp)).mono ?_; rintro e w' ⟨rfl, k, rfl⟩))
  all_goals (go_wp2; go_returns; exact ⟨rfl, (by repeat' (first | (with_reducible exact Below.refl _ _) | (with_reducible assumption) | (with_reducible refine Below.alloc ?_ ?_ _) | (with_reducible refine Below.drew ?_) | (with_reducible refine below_drewN ?_ _) | (with_reducible refine Below.setCell ?_ ?_ _) | (with_reducible refine below_setRow' ?_ ?_ _) | go_size))⟩)
set_option maxHeartbeats 4000000 in
set_option maxRecDepth 100000 in
theorem putU32 (g n c : Nat) (x : Int) (hx : 0 ≤ x ∧ x < 18446744073709551616) (y : Int) (hy : y = x % 4294967296) (w : World) (hn : 4 ≤ n) (b : Nat → Int) (hb : blk? w g = some (arr4 b)) :
    Calls Tryd.prog 132 #[.slice (some ⟨g, 0, none⟩) n c, .int .u32 y] w fun e w' => e = .returned (.tuple #[]) ∧ w.setRow g (arr4 (b4of x)) = w' := by
  subst hy
  obtain ⟨hx0, hx1⟩ := hx
  have q1 : (1 : Int) < (n : Int) := by omega
  have q2 : (2 : Int) < (n : Int) := by omega
  have q3 : (3 : Int) < (n : Int) := by omega
  have q0 : 0 < n := by omega
  have c0 : w.cell? ⟨g, 0, none⟩ = some (.int .u8 (b (0))) := by rw [blk?_cell hb]; exact arr4_byte b _ (by omega)
  have c1 : w.cell? ⟨g, 1, none⟩ = some (.int .u8 (b (1))) := by rw [blk?_cell hb]; exact arr4_byte b _ (by omega)
  have c2 : w.cell? ⟨g, 2, none⟩ = some (.int .u8 (b (2))) := by rw [blk?_cell hb]; exact arr4_byte b _ (by omega)
  have c3 : w.cell? ⟨g, 3, none⟩ = some (.int .u8 (b (3))) := by rw [blk?_cell hb]; exact arr4_byte b _ (by omega)
  have f0 : w.frozen? ⟨g, 0, none⟩ = false := blk?_frozen hb _
  have f1 : w.frozen? ⟨g, 1, none⟩ = false := blk?_frozen hb _
  have f2 : w.frozen? ⟨g, 2, none⟩ = false := blk?_frozen hb _
  have f3 : w.frozen? ⟨g, 3, none⟩ = false := blk?_frozen hb _
  have HB := Lib.hid hb
  clear hb
  go_enter Tryd.func132, Tryd.ntmps132
  go_wp2
  go_end0
  refine ⟨rfl, ?_⟩
  have k0 := HB.out
  rw [setCell_setRow k0 (0) (.int .u8 (x % 4294967296 / 16777216)), arr4_set _ _ _ (by omega)]
  have k1 := blk?_setRow k0 (arr4 (upd b (0) (x % 4294967296 / 16777216)))
  rw [setCell_setRow k1 (1) (.int .u8 (x % 4294967296 / 65536 % 256)), arr4_set _ _ _ (by omega)]
  have k2 := blk?_setRow k1 (arr4 (upd (upd b (0) (x % 4294967296 / 16777216)) (1) (x % 4294967296 / 65536 % 256)))
  rw [setRow_setRow] at k2 ⊢
  rw [setCell_setRow k2 (2) (.int .u8 (x % 4294967296 / 256 % 256)), arr4_set _ _ _ (by omega)]
  have k3 := blk?_setRow k2 (arr4 (upd (upd (upd b (0) (x % 4294967296 / 16777216)) (1) (x % 4294967296 / 65536 % 256)) (2) (x % 4294967296 / 256 % 256)))
  rw [setRow_setRow] at k3 ⊢
  rw [setCell_setRow k3 (3) (.int .u8 (x % 256)), arr4_set _ _ _ (by omega)]
  have k4 := blk?_setRow k3 (arr4 (upd (upd (upd (upd b (0) (x % 4294967296 / 16777216)) (1) (x % 4294967296 / 65536 % 256)) (2) (x % 4294967296 / 256 % 256)) (3) (x % 256)))
  rw [setRow_setRow] at k4 ⊢
  congr 1
  apply arr4_congr
  intro k hk
  simp only [upd, b4of]
  match k, hk with
  | 0, _ => simp [by8]; omega
  | 1, _ => simp [by8]; omega
  | 2, _ => simp [by8]; omega
  | 3, _ => simp [by8]
  | k + 4, hk => omega
set_option maxHeartbeats 4000000 in
set_option maxRecDepth 100000 in
theorem putU64 (g o n c : Nat) (x : Int) (hx : 0 ≤ x ∧ x < 18446744073709551616) (w : World) (hn : 8 ≤ n) (b : Nat → Int) (hb : blk? w g = some (arr16 b)) (ho : o + 8 ≤ 16) :
    Calls Tryd.prog 133 #[.slice (some ⟨g, o, none⟩) n c, .int .u64 x] w fun e w' => e = .returned (.tuple #[]) ∧ w.setRow g (arr16 (put8 b o x)) = w' := by
  obtain ⟨hx0, hx1⟩ := hx
  have q1 : (1 : Int) < (n : Int) := by omega
  have q2 : (2 : Int) < (n : Int) := by omega
  have q3 : (3 : Int) < (n : Int) := by omega
  have q4 : (4 : Int) < (n : Int) := by omega
  have q5 : (5 : Int) < (n : Int) := by omega
  have q6 : (6 : Int) < (n : Int) := by omega
  have q7 : (7 : Int) < (n : Int) := by omega
  have q0 : 0 < n := by omega
  have c0 : w.cell? ⟨g, o, none⟩ = some (.int .u8 (b (o))) := by rw [blk?_cell hb]; exact arr16_byte b _ (by omega)
  have c1 : w.cell? ⟨g, o + 1, none⟩ = some (.int .u8 (b (o + 1))) := by rw [blk?_cell hb]; exact arr16_byte b _ (by omega)
  have c2 : w.cell? ⟨g, o + 2, none⟩ = some (.int .u8 (b (o + 2))) := by rw [blk?_cell hb]; exact arr16_byte b _ (by omega)
  have c3 : w.cell? ⟨g, o + 3, none⟩ = some (.int .u8 (b (o + 3))) := by rw [blk?_cell hb]; exact arr16_byte b _ (by omega)
  have c4 : w.cell? ⟨g, o + 4, none⟩ = some (.int .u8 (b (o + 4))) := by rw [blk?_cell hb]; exact arr16_byte b _ (by omega)
  have c5 : w.cell? ⟨g, o + 5, none⟩ = some (.int .u8 (b (o + 5))) := by rw [blk?_cell hb]; exact arr16_byte b _ (by omega)
  have c6 : w.cell? ⟨g, o + 6, none⟩ = some (.int .u8 (b (o + 6))) := by rw [blk?_cell hb]; exact arr16_byte b _ (by omega)
  have c7 : w.cell? ⟨g, o + 7, none⟩ = some (.int .u8 (b (o + 7))) := by rw [blk?_cell hb]; exact arr16_byte b _ (by omega)
  have f0 : w.frozen? ⟨g, o, none⟩ = false := blk?_frozen hb _
  have f1 : w.frozen? ⟨g, o + 1, none⟩ = false := blk?_frozen hb _
  have f2 : w.frozen? ⟨g, o + 2, none⟩ = false := blk?_frozen hb _
  have f3 : w.frozen? ⟨g, o + 3, none⟩ = false := blk?_frozen hb _
  have f4 : w.frozen? ⟨g, o + 4, none⟩ = false := blk?_frozen hb _
  have f5 : w.frozen? ⟨g, o + 5, none⟩ = false := blk?_frozen hb _
  have f6 : w.frozen? ⟨g, o + 6, none⟩ = false := blk?_frozen hb _
  have f7 : w.frozen? ⟨g, o + 7, none⟩ = false := blk?_frozen hb _
  have HB := Lib.hid hb
  clear hb
  go_enter Tryd.func133, Tryd.ntmps133
  go_wp2
  go_end0
  refine ⟨rfl, ?_⟩
  have k0 := HB.out
  rw [setCell_setRow k0 (o) (.int .u8 (x / 72057594037927936)), arr16_set _ _ _ (by omega)]
  have k1 := blk?_setRow k0 (arr16 (upd b (o) (x / 72057594037927936)))
  rw [setCell_setRow k1 (o + 1) (.int .u8 (x / 281474976710656 % 256)), arr16_set _ _ _ (by omega)]
  have k2 := blk?_setRow k1 (arr16 (upd (upd b (o) (x / 72057594037927936)) (o + 1) (x / 281474976710656 % 256)))
  rw [setRow_setRow] at k2 ⊢
  rw [setCell_setRow k2 (o + 2) (.int .u8 (x / 1099511627776 % 256)), arr16_set _ _ _ (by omega)]
  have k3 := blk?_setRow k2 (arr16 (upd (upd (upd b (o) (x / 72057594037927936)) (o + 1) (x / 281474976710656 % 256)) (o + 2) (x / 1099511627776 % 256)))
  rw [setRow_setRow] at k3 ⊢
  rw [setCell_setRow k3 (o + 3) (.int .u8 (x / 4294967296 % 256)), arr16_set _ _ _ (by omega)]
  have k4 := blk?_setRow k3 (arr16 (upd (upd (upd (upd b (o) (x / 72057594037927936)) (o + 1) (x / 281474976710656 % 256)) (o + 2) (x / 1099511627776 % 256)) (o + 3) (x / 4294967296 % 256)))
  rw [setRow_setRow] at k4 ⊢
  rw [setCell_setRow k4 (o + 4) (.int .u8 (x / 16777216 % 256)), arr16_set _ _ _ (by omega)]
  have k5 := blk?_setRow k4 (arr16 (upd (upd (upd (upd (upd b (o) (x / 72057594037927936)) (o + 1) (x / 281474976710656 % 256)) (o + 2) (x / 1099511627776 % 256)) (o + 3) (x / 4294967296 % 256)) (o + 4) (x / 16777216 % 256)))
  rw [setRow_setRow] at k5 ⊢
  rw [setCell_setRow k5 (o + 5) (.int .u8 (x / 65536 % 256)), arr16_set _ _ _ (by omega)]
  have k6 := blk?_setRow k5 (arr16 (upd (upd (upd (upd (upd (upd b (o) (x / 72057594037927936)) (o + 1) (x / 281474976710656 % 256)) (o + 2) (x / 1099511627776 % 256)) (o + 3) (x / 4294967296 % 256)) (o + 4) (x / 16777216 % 256)) (o + 5) (x / 65536 % 256)))
  rw [setRow_setRow] at k6 ⊢
  rw [setCell_setRow k6 (o + 6) (.int .u8 (x / 256 % 256)), arr16_set _ _ _ (by omega)]
  have k7 := blk?_setRow k6 (arr16 (upd (upd (upd (upd (upd (upd (upd b (o) (x / 72057594037927936)) (o + 1) (x / 281474976710656 % 256)) (o + 2) (x / 1099511627776 % 256)) (o + 3) (x / 4294967296 % 256)) (o + 4) (x / 16777216 % 256)) (o + 5) (x / 65536 % 256)) (o + 6) (x / 256 % 256)))
  rw [setRow_setRow] at k7 ⊢
  rw [setCell_setRow k7 (o + 7) (.int .u8 (x % 256)), arr16_set _ _ _ (by omega)]
  have k8 := blk?_setRow k7 (arr16 (upd (upd (upd (upd (upd (upd (upd (upd b (o) (x / 72057594037927936)) (o + 1) (x / 281474976710656 % 256)) (o + 2) (x / 1099511627776 % 256)) (o + 3) (x / 4294967296 % 256)) (o + 4) (x / 16777216 % 256)) (o + 5) (x / 65536 % 256)) (o + 6) (x / 256 % 256)) (o + 7) (x % 256)))
  rw [setRow_setRow] at k8 ⊢
  congr 1
  apply arr16_congr
  intro k hk
  simp only [upd, put8]
  by_cases h : o ≤ k ∧ k < o + 8
  · obtain ⟨j, rfl⟩ : ∃ j, k = o + j := ⟨k - o, by omega⟩
    have hj : j < 8 := by omega
    rw [if_pos h, show o + j - o = j from by omega]
    match j, hj with
    | 0, _ => simp [by8]
    | 1, _ => simp [by8]
    | 2, _ => simp [by8]
    | 3, _ => simp [by8]
    | 4, _ => simp [by8]
    | 5, _ => simp [by8]
    | 6, _ => simp [by8]
    | 7, _ => simp [by8]
    | j + 8, hj => omega
  · rw [if_neg h]
    have : k ≠ o ∧ k ≠ o + 1 ∧ k ≠ o + 2 ∧ k ≠ o + 3 ∧ k ≠ o + 4 ∧ k ≠ o + 5 ∧ k ≠ o + 6 ∧ k ≠ o + 7 := by omega
    simp [this]
end Go.Proofs.YtmlkcgacneealaaDoor
