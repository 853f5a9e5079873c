/- inside, of the reference. No conditions but on the bytes. -/
import Derived.Test.YtmlkcgacneealaaDoorBits
import Derived.BigRegion
set_option linter.unusedVariables false
set_option linter.unusedSimpArgs false
namespace Go.Proofs.YtmlkcgacneealaaDoor
open Go.RowKit

theorem ret_bool {a b : Bool} (h : a = b) : Ending.returned (.bool a) = .returned (.bool b) := by rw [h]
/-- The first k bits are those of F. -/
def insB (b F : Nat → Int) : Nat → Bool
  | 0 => true
  | k + 1 => insB b F k && (bt b k == bt F k)
theorem insB_true (b F : Nat → Int) : ∀ k, (∀ j, j < k → bt b j = bt F j) → insB b F k = true
  | 0, _ => rfl
  | k + 1, h => by simp only [insB]; rw [insB_true b F k (fun j hj => h j (by omega)), h k (by omega)]; simp
theorem insB_false (b F : Nat → Int) (q : Nat) (h : bt b q ≠ bt F q) : ∀ k, q < k → insB b F k = false
  | 0, hk => by omega
  | k + 1, hk => by
    simp only [insB]
    by_cases e : q = k
    · subst e; simp [h]
    · rw [insB_false b F q h k (by omega)]; rfl
theorem bt_at' (b : Nat → Int) (hb : Bt b) (q : Nat) : (bits .and .u8 (b (q / 8) / 2 ^ (7 - q % 8)) 1 == 1) = bt b q := by
  rw [bt_at b hb (q / 8) (q % 8) (by omega), show 8 * (q / 8) + q % 8 = q by omega]
set_option maxHeartbeats 4000000 in
set_option maxRecDepth 100000 in
theorem inside_4 (b : Nat → Int) (hb : Bt b) (z : ByteArray) (F : Nat → Int) (hF : Bt F) (k len cap gF : Nat) (hk : k ≤ 8 * len) (hk2 : k ≤ 32) (hlen : len ≤ 4) (w : World) (hgF : gF < w.heap.size) (hcF : ∀ i, i < len → w.cell? ⟨gF, i, none⟩ = some (.int .u8 (F i))) :
    Calls Tryd.prog 146 #[.agg (adr 4 b z), .int .i64 k, .slice (some ⟨gF, 0, none⟩) len cap] w fun e w' => e = .returned (.bool (insB b F k)) ∧ Below w.heap.size w w' := by
  have HB := Lib.hid hb
  have HF := Lib.hid hF
  have HCF := Lib.hid hcF
  clear hb hF hcF
  go_enter Tryd.func146, Tryd.ntmps146
  go_wp2_with (first
    | (go_at_call 108; (with_reducible refine (sbits_4 _ HB.out _ _).mono ?_); rintro e w1 ⟨v8, rfl, hown8, hb1⟩; have hB1 := below_via (w := w) (by repeat' (first | (with_reducible exact Below.refl _ _) | (with_reducible assumption) | (with_reducible refine Below.alloc ?_ ?_ _) | (with_reducible refine Below.drew ?_) | (with_reducible refine below_drewN ?_ _) | (with_reducible refine Below.setCell ?_ ?_ _) | (with_reducible refine below_setRow' ?_ ?_ _) | go_size)) hb1; obtain ⟨g, cap8, rfl, hg0, hg1, hcap, hmax, hcell8, hfz8⟩ := owns_cells hown8 (by omega); clear hown8 hb1))
  have HC8 := Lib.hid hcell8
  clear hcell8 hfz8 hg0
  have hgF1 : gF < w1.heap.size := by have := hB1.size; omega
  go_loopw [12, 8] (fun i v8 wr => ∃ q : Nat, q ≤ k ∧ i = .int .i64 q ∧ (∀ j, j < q → bt b j = bt F j) ∧ Below w1.heap.size w1 wr) (fun i _ _ => k - (intOf i).toNat)
  case atStart => exact ⟨0, by omega, rfl, fun j hj => by omega, Below.refl _ _⟩
  case round =>
    obtain ⟨q, hq, rfl, hs, hbel⟩ := hrel
    have HS := Lib.hid hs
    clear hs
    have hbw : Below w.heap.size w wr := hB1.trans (hbel.mono hB1.size)
    by_cases hlt : q < k
    · have hi0 : (0 : Int) ≤ (q : Int) := by omega
      have hi1 : (q : Int) < (k : Int) := by omega
      have hi2 : (q : Int) < 32 := by omega
      have hcell : wr.cell? ⟨g, q, none⟩ = some (.bool (bt b q)) := by rw [hbel.cell (by exact hg1), HC8.out q (by omega)]; exact btl_get b 32 q (by omega)
      have hcF : wr.cell? ⟨gF, q / 8, none⟩ = some (.int .u8 (F (q / 8))) := by rw [hbel.cell (by exact hgF1), hB1.cell (by exact hgF)]; exact HCF.out (q / 8) (by omega)
      have h80 : (0 : Int) ≤ (q : Int) / 8 := by omega
      have h81 : (q : Int) / 8 < (len : Int) := by omega
      have hm0 : (0 : Int) ≤ 7 - (q : Int) % 8 := by omega
      have hm1 : 7 - (q : Int) % 8 < 8 := by omega
      obtain ⟨hf0, hf1⟩ := HF.out (q / 8)
      have hbt := bt_at' F HF.out q
      have HBE : Hid (bt b q = bt F q ∨ bt b q ≠ bt F q) := Lib.hid (Classical.em _)
      cases hx : bt b q <;> cases hy : bt F q <;> rw [hx] at hcell <;> rw [hy] at hbt
      all_goals (go_wp2; go_region)
      all_goals go_wp2
      · go_roundw
        case rel => exact ⟨q + 1, by omega, by go_num, fun j hj => by
          by_cases e : j = q
          · rw [e, hx, hy]
          · exact HS.out j (by omega), Below.drew hbel⟩
        case measure => simp [intOf]; omega
      · go_ret
        exact ⟨ret_bool (insB_false b F q (by rw [hx, hy]; simp) k hlt).symm, (by repeat' (first | (with_reducible exact Below.refl _ _) | (with_reducible assumption) | (with_reducible refine Below.alloc ?_ ?_ _) | (with_reducible refine Below.drew ?_) | (with_reducible refine below_drewN ?_ _) | (with_reducible refine Below.setCell ?_ ?_ _) | (with_reducible refine below_setRow' ?_ ?_ _) | go_size))⟩
      · go_ret
        exact ⟨ret_bool (insB_false b F q (by rw [hx, hy]; simp) k hlt).symm, (by repeat' (first | (with_reducible exact Below.refl _ _) | (with_reducible assumption) | (with_reducible refine Below.alloc ?_ ?_ _) | (with_reducible refine Below.drew ?_) | (with_reducible refine below_drewN ?_ _) | (with_reducible refine Below.setCell ?_ ?_ _) | (with_reducible refine below_setRow' ?_ ?_ _) | go_size))⟩
      · go_roundw
        case rel => exact ⟨q + 1, by omega, by go_num, fun j hj => by
          by_cases e : j = q
          · rw [e, hx, hy]
          · exact HS.out j (by omega), Below.drew hbel⟩
        case measure => simp [intOf]; omega
    · obtain rfl : q = k := by omega
      go_wp2
      go_ret
      exact ⟨ret_bool (insB_true b F q HS.out).symm, hB1.trans (hbel.mono hB1.size)⟩
set_option maxHeartbeats 4000000 in
set_option maxRecDepth 100000 in
theorem inside_16 (b : Nat → Int) (hb : Bt b) (z : ByteArray) (F : Nat → Int) (hF : Bt F) (k len cap gF : Nat) (hk : k ≤ 8 * len) (hk2 : k ≤ 128) (hlen : len ≤ 4) (w : World) (hgF : gF < w.heap.size) (hcF : ∀ i, i < len → w.cell? ⟨gF, i, none⟩ = some (.int .u8 (F i))) :
    Calls Tryd.prog 146 #[.agg (adr 16 b z), .int .i64 k, .slice (some ⟨gF, 0, none⟩) len cap] w fun e w' => e = .returned (.bool (insB b F k)) ∧ Below w.heap.size w w' := by
  have HB := Lib.hid hb
  have HF := Lib.hid hF
  have HCF := Lib.hid hcF
  clear hb hF hcF
  go_enter Tryd.func146, Tryd.ntmps146
  go_wp2_with (first
    | (go_at_call 108; (with_reducible refine (sbits_16 _ HB.out _ _).mono ?_); rintro e w1 ⟨v8, rfl, hown8, hb1⟩; have hB1 := below_via (w := w) (by repeat' (first | (with_reducible exact Below.refl _ _) | (with_reducible assumption) | (with_reducible refine Below.alloc ?_ ?_ _) | (with_reducible refine Below.drew ?_) | (with_reducible refine below_drewN ?_ _) | (with_reducible refine Below.setCell ?_ ?_ _) | (with_reducible refine below_setRow' ?_ ?_ _) | go_size)) hb1; obtain ⟨g, cap8, rfl, hg0, hg1, hcap, hmax, hcell8, hfz8⟩ := owns_cells hown8 (by omega); clear hown8 hb1))
  have HC8 := Lib.hid hcell8
  clear hcell8 hfz8 hg0
  have hgF1 : gF < w1.heap.size := by have := hB1.size; omega
  go_loopw [12, 8] (fun i v8 wr => ∃ q : Nat, q ≤ k ∧ i = .int .i64 q ∧ (∀ j, j < q → bt b j = bt F j) ∧ Below w1.heap.size w1 wr) (fun i _ _ => k - (intOf i).toNat)
  case atStart => exact ⟨0, by omega, rfl, fun j hj => by omega, Below.refl _ _⟩
  case round =>
    obtain ⟨q, hq, rfl, hs, hbel⟩ := hrel
    have HS := Lib.hid hs
    clear hs
    have hbw : Below w.heap.size w wr := hB1.trans (hbel.mono hB1.size)
    by_cases hlt : q < k
    · have hi0 : (0 : Int) ≤ (q : Int) := by omega
      have hi1 : (q : Int) < (k : Int) := by omega
      have hi2 : (q : Int) < 128 := by omega
      have hcell : wr.cell? ⟨g, q, none⟩ = some (.bool (bt b q)) := by rw [hbel.cell (by exact hg1), HC8.out q (by omega)]; exact btl_get b 128 q (by omega)
      have hcF : wr.cell? ⟨gF, q / 8, none⟩ = some (.int .u8 (F (q / 8))) := by rw [hbel.cell (by exact hgF1), hB1.cell (by exact hgF)]; exact HCF.out (q / 8) (by omega)
      have h80 : (0 : Int) ≤ (q : Int) / 8 := by omega
      have h81 : (q : Int) / 8 < (len : Int) := by omega
      have hm0 : (0 : Int) ≤ 7 - (q : Int) % 8 := by omega
      have hm1 : 7 - (q : Int) % 8 < 8 := by omega
      obtain ⟨hf0, hf1⟩ := HF.out (q / 8)
      have hbt := bt_at' F HF.out q
      have HBE : Hid (bt b q = bt F q ∨ bt b q ≠ bt F q) := Lib.hid (Classical.em _)
      cases hx : bt b q <;> cases hy : bt F q <;> rw [hx] at hcell <;> rw [hy] at hbt
      all_goals (go_wp2; go_region)
      all_goals go_wp2
      · go_roundw
        case rel => exact ⟨q + 1, by omega, by go_num, fun j hj => by
          by_cases e : j = q
          · rw [e, hx, hy]
          · exact HS.out j (by omega), Below.drew hbel⟩
        case measure => simp [intOf]; omega
      · go_ret
        exact ⟨ret_bool (insB_false b F q (by rw [hx, hy]; simp) k hlt).symm, (by repeat' (first | (with_reducible exact Below.refl _ _) | (with_reducible assumption) | (with_reducible refine Below.alloc ?_ ?_ _) | (with_reducible refine Below.drew ?_) | (with_reducible refine below_drewN ?_ _) | (with_reducible refine Below.setCell ?_ ?_ _) | (with_reducible refine below_setRow' ?_ ?_ _) | go_size))⟩
      · go_ret
        exact ⟨ret_bool (insB_false b F q (by rw [hx, hy]; simp) k hlt).symm, (by repeat' (first | (with_reducible exact Below.refl _ _) | (with_reducible assumption) | (with_reducible refine Below.alloc ?_ ?_ _) | (with_reducible refine Below.drew ?_) | (with_reducible refine below_drewN ?_ _) | (with_reducible refine Below.setCell ?_ ?_ _) | (with_reducible refine below_setRow' ?_ ?_ _) | go_size))⟩
      · go_roundw
        case rel => exact ⟨q + 1, by omega, by go_num, fun j hj => by
          by_cases e : j = q
          · rw [e, hx, hy]
          · exact HS.out j (by omega), Below.drew hbel⟩
        case measure => simp [intOf]; omega
    · obtain rfl : q = k := by omega
      go_wp2
      go_ret
      exact ⟨ret_bool (insB_true b F q HS.out).symm, hB1.trans (hbel.mono hB1.size)⟩
end Go.Proofs.YtmlkcgacneealaaDoor
