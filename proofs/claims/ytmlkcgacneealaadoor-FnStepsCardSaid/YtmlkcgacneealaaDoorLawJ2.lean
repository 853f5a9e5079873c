/- FnNextAndPrev returns true for every address. Conditions: the listed variables as laid. -/
import Derived.Test.YtmlkcgacneealaaDoorLawJ
import Derived.Test.YtmlkcgacneealaaDoorLawC
set_option linter.unusedVariables false
set_option linter.unusedSimpArgs false
namespace Go.Proofs.YtmlkcgacneealaaDoor
open Go.RowKit

theorem be4_top {b : Nat → Int} (hb : Bt b) (h : be4f b 0 = 4294967295) : ∀ i, i < 4 → b i = 255 := by
  have g0 := hb 0
  have g1 := hb 1
  have g2 := hb 2
  have g3 := hb 3
  unfold be4f be4 at h; simp only [Nat.zero_add] at h
  intro i hi
  match i, hi with
  | 0, _ => omega
  | 1, _ => omega
  | 2, _ => omega
  | 3, _ => omega
  | i + 4, hi => omega
theorem be4_bot {b : Nat → Int} (hb : Bt b) (h : be4f b 0 = 0) : ∀ i, i < 4 → b i = 0 := by
  have g0 := hb 0
  have g1 := hb 1
  have g2 := hb 2
  have g3 := hb 3
  unfold be4f be4 at h; simp only [Nat.zero_add] at h
  intro i hi
  match i, hi with
  | 0, _ => omega
  | 1, _ => omega
  | 2, _ => omega
  | 3, _ => omega
  | i + 4, hi => omega
theorem be8_top {b : Nat → Int} (hb : Bt b) (k : Nat) (h : be8f b k = 18446744073709551615) : ∀ i, i < 8 → b (k + i) = 255 := by
  have g0 := hb (k + 0)
  have g1 := hb (k + 1)
  have g2 := hb (k + 2)
  have g3 := hb (k + 3)
  have g4 := hb (k + 4)
  have g5 := hb (k + 5)
  have g6 := hb (k + 6)
  have g7 := hb (k + 7)
  unfold be8f be8 at h; simp only [Nat.add_zero] at g0
  intro i hi
  match i, hi with
  | 0, _ => simp only [Nat.add_zero]; omega
  | 1, _ => omega
  | 2, _ => omega
  | 3, _ => omega
  | 4, _ => omega
  | 5, _ => omega
  | 6, _ => omega
  | 7, _ => omega
  | i + 8, hi => omega
theorem be8_bot {b : Nat → Int} (hb : Bt b) (k : Nat) (h : be8f b k = 0) : ∀ i, i < 8 → b (k + i) = 0 := by
  have g0 := hb (k + 0)
  have g1 := hb (k + 1)
  have g2 := hb (k + 2)
  have g3 := hb (k + 3)
  have g4 := hb (k + 4)
  have g5 := hb (k + 5)
  have g6 := hb (k + 6)
  have g7 := hb (k + 7)
  unfold be8f be8 at h; simp only [Nat.add_zero] at g0
  intro i hi
  match i, hi with
  | 0, _ => simp only [Nat.add_zero]; omega
  | 1, _ => omega
  | 2, _ => omega
  | 3, _ => omega
  | 4, _ => omega
  | 5, _ => omega
  | 6, _ => omega
  | 7, _ => omega
  | i + 8, hi => omega
theorem be4f_lst (c : Nat → Int) : be4f (lst 4 c) 0 = 4294967295 := by unfold be4f be4 lst; simp
theorem be8f_lst (c : Nat → Int) (k : Nat) (hk : k + 8 ≤ 16) : be8f (lst 16 c) k = 18446744073709551615 := by
  unfold be8f be8 lst
  have h0 : k < 16 := by omega
  have h1 : k + 1 < 16 := by omega
  have h2 : k + 2 < 16 := by omega
  have h3 : k + 3 < 16 := by omega
  have h4 : k + 4 < 16 := by omega
  have h5 : k + 5 < 16 := by omega
  have h6 : k + 6 < 16 := by omega
  have h7 : k + 7 < 16 := by omega
  simp only [h0, h1, h2, h3, h4, h5, h6, h7, if_true]; omega
theorem be4f_cong16 {b c : Nat → Int} (h : ∀ i, i < 16 → b i = c i) : be4f b 0 = be4f c 0 := by
  unfold be4f; simp only [Nat.zero_add]; rw [h 0 (by omega), h 1 (by omega), h 2 (by omega), h 3 (by omega)]
theorem be8f_cong16 {b c : Nat → Int} (h : ∀ i, i < 16 → b i = c i) (k : Nat) (hk : k + 8 ≤ 16) : be8f b k = be8f c k := by
  unfold be8f; rw [h k (by omega), h (k + 1) (by omega), h (k + 2) (by omega), h (k + 3) (by omega), h (k + 4) (by omega), h (k + 5) (by omega), h (k + 6) (by omega), h (k + 7) (by omega)]
theorem last4_t {b : Nat → Int} (hb : Bt b) (h : be4f b 0 = 4294967295) : adrEq 4 (pre 4 b) ⟨#[]⟩ 4 (lst 4 (pre 4 b)) ⟨#[]⟩ = true := by
  rw [adrEq_iff]
  refine ⟨rfl, fun i hi => ?_, rfl⟩
  unfold lst pre
  by_cases c : i < 4
  · rw [if_pos c, if_pos c]; exact be4_top hb h i c
  · rw [if_neg c, if_neg c]
theorem last4_f {b : Nat → Int} (h : be4f b 0 ≠ 4294967295) : adrEq 4 (pre 4 b) ⟨#[]⟩ 4 (lst 4 (pre 4 b)) ⟨#[]⟩ = false := by
  rw [Bool.eq_false_iff]; intro e
  obtain ⟨_, e, _⟩ := (adrEq_iff _ _ _ _ _ _).1 e
  have := be4f_cong16 e
  rw [be4f_pre, be4f_lst] at this
  exact h this
theorem first4_t {b : Nat → Int} (hb : Bt b) (h : be4f b 0 = 0) : adrEq 4 (pre 4 b) ⟨#[]⟩ 4 zb ⟨#[]⟩ = true := by
  rw [adrEq_iff]
  refine ⟨rfl, fun i hi => ?_, rfl⟩
  unfold pre zb
  by_cases c : i < 4
  · rw [if_pos c]; exact be4_bot hb h i c
  · rw [if_neg c]
theorem first4_f {b : Nat → Int} (h : be4f b 0 ≠ 0) : adrEq 4 (pre 4 b) ⟨#[]⟩ 4 zb ⟨#[]⟩ = false := by
  rw [Bool.eq_false_iff]; intro e
  obtain ⟨_, e, _⟩ := (adrEq_iff _ _ _ _ _ _).1 e
  have := be4f_cong16 e
  rw [be4f_pre, be4f_zb] at this
  exact h this
theorem last16_t {b : Nat → Int} (hb : Bt b) (h : be8f b 0 = 18446744073709551615) (h' : be8f b 8 = 18446744073709551615) : adrEq 16 b ⟨#[]⟩ 16 (lst 16 b) ⟨#[]⟩ = true := by
  rw [adrEq_iff]
  refine ⟨rfl, fun i hi => ?_, rfl⟩
  unfold lst
  rw [if_pos hi]
  by_cases c : i < 8
  · have := be8_top hb 0 h i c
    rwa [Nat.zero_add] at this
  · have := be8_top hb 8 h' (i - 8) (by omega)
    rwa [show 8 + (i - 8) = i by omega] at this
theorem last16_f {b : Nat → Int} (h : ¬ (be8f b 0 = 18446744073709551615 ∧ be8f b 8 = 18446744073709551615)) : adrEq 16 b ⟨#[]⟩ 16 (lst 16 b) ⟨#[]⟩ = false := by
  rw [Bool.eq_false_iff]; intro e
  obtain ⟨_, e, _⟩ := (adrEq_iff _ _ _ _ _ _).1 e
  have e0 := be8f_cong16 e 0 (by omega)
  have e8 := be8f_cong16 e 8 (by omega)
  rw [be8f_lst _ _ (by omega)] at e0 e8
  exact h ⟨e0, e8⟩
theorem first16_t {b : Nat → Int} (hb : Bt b) (h : be8f b 0 = 0) (h' : be8f b 8 = 0) : adrEq 16 b ⟨#[]⟩ 16 zb ⟨#[]⟩ = true := by
  rw [adrEq_iff]
  refine ⟨rfl, fun i hi => ?_, rfl⟩
  unfold zb
  by_cases c : i < 8
  · have := be8_bot hb 0 h i c
    rwa [Nat.zero_add] at this
  · have := be8_bot hb 8 h' (i - 8) (by omega)
    rwa [show 8 + (i - 8) = i by omega] at this
theorem first16_f {b : Nat → Int} (h : ¬ (be8f b 0 = 0 ∧ be8f b 8 = 0)) : adrEq 16 b ⟨#[]⟩ 16 zb ⟨#[]⟩ = false := by
  rw [Bool.eq_false_iff]; intro e
  obtain ⟨_, e, _⟩ := (adrEq_iff _ _ _ _ _ _).1 e
  have e0 := be8f_cong16 e 0 (by omega)
  have e8 := be8f_cong16 e 8 (by omega)
  rw [be8f_zb] at e0 e8
  exact h ⟨e0, e8⟩
theorem be4_b4of (v : Int) (hv : 0 ≤ v ∧ v < 4294967296) : be4f (b4of (281470681743360 + v)) 0 = v := by
  unfold be4f be4 b4of
  simp [by8]
  omega

theorem law12_4 (b : Nat → Int) (hb : Bt b) (z : ByteArray) {b4 o4 b6 o6 : Nat} (w : World) (hg : Gl b4 o4 b6 o6 w) : Calls Tryd.prog 12 #[.agg (adr 4 b z)] w fun e w' => e = .returned (.bool true) ∧ Below w.heap.size w w' := by
  have hp := Bt_pre hb 4
  have hl := be4f_lt hb 0
  have e0 := be4f_pre b
  have hN (h : be4f b 0 + 1 < 4294967296) : ∀ w, Gl b4 o4 b6 o6 w → Calls Tryd.prog 41 #[.agg (adr 4 (pre 4 b) ⟨#[]⟩)] w fun e w' => e = .returned (.agg (adr 4 (b4of (281470681743360 + be4f b 0 + 1)) ⟨#[]⟩)) ∧ Below w.heap.size w w' := fun w hg => by
    have := iNext_4n (pre 4 b) hp ⟨#[]⟩ (by rw [e0]; exact h) w hg.g4
    rwa [e0] at this
  have hP (h : 1 ≤ be4f b 0) : ∀ w, Gl b4 o4 b6 o6 w → Calls Tryd.prog 39 #[.agg (adr 4 (pre 4 b) ⟨#[]⟩)] w fun e w' => e = .returned (.agg (adr 4 (b4of (281470681743360 + be4f b 0 - 1)) ⟨#[]⟩)) ∧ Below w.heap.size w w' := fun w hg => by
    have := iPrev_4n (pre 4 b) hp ⟨#[]⟩ (by rw [e0]; exact h) w hg.g4
    rwa [e0] at this
  have hBn (h : be4f b 0 + 1 < 4294967296) : Bt (b4of (281470681743360 + be4f b 0 + 1)) := Bt_b4 (by omega)
  have hBp (h : 1 ≤ be4f b 0) : Bt (b4of (281470681743360 + be4f b 0 - 1)) := Bt_b4 (by omega)
  have hNP (h : be4f b 0 + 1 < 4294967296) : ∀ w, Gl b4 o4 b6 o6 w → Calls Tryd.prog 39 #[.agg (adr 4 (b4of (281470681743360 + be4f b 0 + 1)) ⟨#[]⟩)] w fun e w' => e = .returned (.agg (adr 4 (pre 4 b) ⟨#[]⟩)) ∧ Below w.heap.size w w' := fun w hg => by
    have e1 : be4f (b4of (281470681743360 + be4f b 0 + 1)) 0 = be4f b 0 + 1 := by rw [Int.add_assoc]; exact be4_b4of _ (by omega)
    have := iPrev_4n (b4of (281470681743360 + be4f b 0 + 1)) (hBn h) ⟨#[]⟩ (by rw [e1]; omega) w hg.g4
    rw [e1, show (281470681743360 : Int) + (be4f b 0 + 1) - 1 = 281470681743360 + be4f b 0 by omega, b4of_be4 hb] at this
    exact this
  have hPN (h : 1 ≤ be4f b 0) : ∀ w, Gl b4 o4 b6 o6 w → Calls Tryd.prog 41 #[.agg (adr 4 (b4of (281470681743360 + be4f b 0 - 1)) ⟨#[]⟩)] w fun e w' => e = .returned (.agg (adr 4 (pre 4 b) ⟨#[]⟩)) ∧ Below w.heap.size w w' := fun w hg => by
    have e1 : be4f (b4of (281470681743360 + be4f b 0 - 1)) 0 = be4f b 0 - 1 := by rw [Int.add_sub_assoc]; exact be4_b4of _ (by omega)
    have := iNext_4n (b4of (281470681743360 + be4f b 0 - 1)) (hBp h) ⟨#[]⟩ (by rw [e1]; omega) w hg.g4
    rw [e1, show (281470681743360 : Int) + (be4f b 0 - 1) + 1 = 281470681743360 + be4f b 0 by omega, b4of_be4 hb] at this
    exact this
  by_cases c1 : be4f b 0 = 4294967295
  · exact law12_4A b zb _ z Bt_zb (hBp (by omega)) w hg (fun w hg => iNext_4z (pre 4 b) hp ⟨#[]⟩ (by rw [e0]; exact c1) w hg.g4) (hP (by omega)) (hPN (by omega)) (last4_t hb c1) (first4_f (by omega))
  by_cases c2 : be4f b 0 = 0
  · exact law12_4B b _ zb z (hBn (by omega)) Bt_zb w hg (hN (by omega)) (fun w hg => iPrev_4z (pre 4 b) hp ⟨#[]⟩ (by rw [e0]; exact c2) w hg.g4) (hNP (by omega)) (last4_f c1) (first4_t hb c2)
  · exact law12_4C b _ _ z (hBn (by omega)) (hBp (by omega)) w hg (hN (by omega)) (hP (by omega)) (hNP (by omega)) (hPN (by omega)) (last4_f c1) (first4_f c2)
/-- Next and Prev of an IPv6 address, by its two halves. -/
theorem nx16 (x y x' y' : Int) (hx : 0 ≤ x ∧ x < 18446744073709551616) (hy : 0 ≤ y ∧ y < 18446744073709551616) (h : (y + 1 < 18446744073709551616 ∧ x' = x ∧ y' = y + 1) ∨ (y = 18446744073709551615 ∧ x + 1 < 18446744073709551616 ∧ x' = x + 1 ∧ y' = 0)) (c : Nat → Int) (hc : Bt c) (ex : be8f c 0 = x) (ey : be8f c 8 = y) {b4 o4 b6 o6 : Nat} (w : World) (hg : Gl b4 o4 b6 o6 w) :
    Calls Tryd.prog 41 #[.agg (adr 16 c ⟨#[]⟩)] w fun e w' => e = .returned (.agg (adr 16 (b16of x' y') ⟨#[]⟩)) ∧ Below w.heap.size w w' := by
  rcases h with ⟨h, rfl, rfl⟩ | ⟨h, h1, rfl, rfl⟩
  · have := iNext_6n c hc (by rw [ey]; exact h) w hg
    rwa [ex, ey] at this
  · have := iNext_6c c hc (by rw [ex, ey]; exact ⟨h, h1⟩) w hg
    rwa [ex] at this
theorem pv16 (x y x' y' : Int) (hx : 0 ≤ x ∧ x < 18446744073709551616) (hy : 0 ≤ y ∧ y < 18446744073709551616) (h : (1 ≤ y ∧ x' = x ∧ y' = y - 1) ∨ (y = 0 ∧ 1 ≤ x ∧ x' = x - 1 ∧ y' = 18446744073709551615)) (c : Nat → Int) (hc : Bt c) (ex : be8f c 0 = x) (ey : be8f c 8 = y) {b4 o4 b6 o6 : Nat} (w : World) (hg : Gl b4 o4 b6 o6 w) :
    Calls Tryd.prog 39 #[.agg (adr 16 c ⟨#[]⟩)] w fun e w' => e = .returned (.agg (adr 16 (b16of x' y') ⟨#[]⟩)) ∧ Below w.heap.size w w' := by
  rcases h with ⟨h, rfl, rfl⟩ | ⟨h, h1, rfl, rfl⟩
  · have := iPrev_6n c hc (by rw [ey]; exact h) w hg
    rwa [ex, ey] at this
  · have := iPrev_6b c hc (by rw [ex, ey]; exact ⟨h, h1⟩) w hg
    rwa [ex] at this
theorem law12_16 (b : Nat → Int) (hb : Bt b) (z : ByteArray) {b4 o4 b6 o6 : Nat} (w : World) (hg : Gl b4 o4 b6 o6 w) : Calls Tryd.prog 12 #[.agg (adr 16 b z)] w fun e w' => e = .returned (.bool true) ∧ Below w.heap.size w w' := by
  have hx := be8f_lt hb 0
  have hy := be8f_lt hb 8
  have hback : adr 16 (b16of (be8f b 0) (be8f b 8)) ⟨#[]⟩ = adr 16 b ⟨#[]⟩ := by rw [b16of_be8 hb, adr_pre16]
  generalize ex : be8f b 0 = x at hx hback
  generalize ey : be8f b 8 = y at hy hback
  have hnext (h : ¬ (x = 18446744073709551615 ∧ y = 18446744073709551615)) : ∃ x' y' : Int, (0 ≤ x' ∧ x' < 18446744073709551616) ∧ (0 ≤ y' ∧ y' < 18446744073709551616) ∧ ((y + 1 < 18446744073709551616 ∧ x' = x ∧ y' = y + 1) ∨ (y = 18446744073709551615 ∧ x + 1 < 18446744073709551616 ∧ x' = x + 1 ∧ y' = 0)) := by
    by_cases c : y + 1 < 18446744073709551616
    · exact ⟨x, y + 1, hx, by omega, Or.inl ⟨c, rfl, rfl⟩⟩
    · exact ⟨x + 1, 0, by omega, by omega, Or.inr ⟨by omega, by omega, rfl, rfl⟩⟩
  have hprev (h : ¬ (x = 0 ∧ y = 0)) : ∃ x' y' : Int, (0 ≤ x' ∧ x' < 18446744073709551616) ∧ (0 ≤ y' ∧ y' < 18446744073709551616) ∧ ((1 ≤ y ∧ x' = x ∧ y' = y - 1) ∨ (y = 0 ∧ 1 ≤ x ∧ x' = x - 1 ∧ y' = 18446744073709551615)) := by
    by_cases c : 1 ≤ y
    · exact ⟨x, y - 1, hx, by omega, Or.inl ⟨c, rfl, rfl⟩⟩
    · exact ⟨x - 1, 18446744073709551615, by omega, by omega, Or.inr ⟨by omega, by omega, rfl, rfl⟩⟩
  have hNP (x' y' : Int) (h1 : 0 ≤ x' ∧ x' < 18446744073709551616) (h2 : 0 ≤ y' ∧ y' < 18446744073709551616) (h : (y + 1 < 18446744073709551616 ∧ x' = x ∧ y' = y + 1) ∨ (y = 18446744073709551615 ∧ x + 1 < 18446744073709551616 ∧ x' = x + 1 ∧ y' = 0)) : ∀ w, Gl b4 o4 b6 o6 w → Calls Tryd.prog 39 #[.agg (adr 16 (b16of x' y') ⟨#[]⟩)] w fun e w' => e = .returned (.agg (adr 16 b ⟨#[]⟩)) ∧ Below w.heap.size w w' := fun w hg => by
    rw [← hback]
    exact pv16 x' y' x y h1 h2 (by omega) _ (Bt_b16 h1 h2) (be8f_b16hi h1) (be8f_b16lo h2) w hg
  have hPN (x' y' : Int) (h1 : 0 ≤ x' ∧ x' < 18446744073709551616) (h2 : 0 ≤ y' ∧ y' < 18446744073709551616) (h : (1 ≤ y ∧ x' = x ∧ y' = y - 1) ∨ (y = 0 ∧ 1 ≤ x ∧ x' = x - 1 ∧ y' = 18446744073709551615)) : ∀ w, Gl b4 o4 b6 o6 w → Calls Tryd.prog 41 #[.agg (adr 16 (b16of x' y') ⟨#[]⟩)] w fun e w' => e = .returned (.agg (adr 16 b ⟨#[]⟩)) ∧ Below w.heap.size w w' := fun w hg => by
    rw [← hback]
    exact nx16 x' y' x y h1 h2 (by omega) _ (Bt_b16 h1 h2) (be8f_b16hi h1) (be8f_b16lo h2) w hg
  by_cases c1 : x = 18446744073709551615 ∧ y = 18446744073709551615
  · obtain ⟨x', y', h1, h2, h⟩ := hprev (by omega)
    exact law12_16A b zb _ z Bt_zb (Bt_b16 h1 h2) w hg (fun w hg => iNext_6z b hb (by rw [ex, ey]; exact ⟨c1.2, c1.1⟩) w hg) (fun w hg => pv16 x y x' y' hx hy h b hb ex ey w hg) (hPN x' y' h1 h2 h) (last16_t hb (ex.trans c1.1) (ey.trans c1.2)) (first16_f (by rw [ex, ey]; omega))
  by_cases c2 : x = 0 ∧ y = 0
  · obtain ⟨x', y', h1, h2, h⟩ := hnext (by omega)
    exact law12_16B b _ zb z (Bt_b16 h1 h2) Bt_zb w hg (fun w hg => nx16 x y x' y' hx hy h b hb ex ey w hg) (fun w hg => iPrev_6z b hb (by rw [ex, ey]; exact ⟨c2.2, c2.1⟩) w hg) (hNP x' y' h1 h2 h) (last16_f (by rw [ex, ey]; exact c1)) (first16_t hb (ex.trans c2.1) (ey.trans c2.2))
  · obtain ⟨x', y', h1, h2, h⟩ := hnext c1
    obtain ⟨x2, y2, h3, h4, h5⟩ := hprev c2
    exact law12_16C b _ _ z (Bt_b16 h1 h2) (Bt_b16 h3 h4) w hg (fun w hg => nx16 x y x' y' hx hy h b hb ex ey w hg) (fun w hg => pv16 x y x2 y2 hx hy h5 b hb ex ey w hg) (hNP x' y' h1 h2 h) (hPN x2 y2 h3 h4 h5) (last16_f (by rw [ex, ey]; exact c1)) (first16_f (by rw [ex, ey]; exact c2))
set_option maxHeartbeats 4000000 in
set_option maxRecDepth 100000 in
theorem law12_0 (n : Int) (h4 : n ≠ 4) (h16 : n ≠ 16) (b : Nat → Int) (z : ByteArray) (w : World) :
    Calls Tryd.prog 12 #[.agg (adr n b z)] w fun e w' => e = .returned (.bool true) ∧ Below w.heap.size w w' := by
  go_enter Tryd.func12, Tryd.ntmps12
  go_wp2_with (first
    | (go_at_call 52; (with_reducible refine (bare_0 n h4 h16 _ _ _).mono ?_); rintro e w1 ⟨rfl, hb1⟩; have hk1 := blk?_below hb1; (try simp only [size_drew', size_drewN'] at hk1); have hB1 := below_via (w := w) (by repeat' (first | (with_reducible exact Below.refl _ _) | (with_reducible assumption) | (with_reducible refine Below.alloc ?_ ?_ _) | (with_reducible refine Below.drew ?_) | (with_reducible refine below_drewN ?_ _) | (with_reducible refine Below.setCell ?_ ?_ _) | (with_reducible refine below_setRow' ?_ ?_ _) | go_size)) hb1; have hL0 : w.heap.size < w1.heap.size := (by have hS0 := hb1.size; (try simp at hS0); omega); have hLe : w.heap.size ≤ w1.heap.size := hB1.size; clear hb1)
    | (go_at_call 36; (with_reducible refine (valid_0 0 (by omega) (by omega) _ _ _).mono ?_); rintro e w1 ⟨rfl, hb1⟩; have hk1 := blk?_below hb1; (try simp only [size_drew', size_drewN'] at hk1); have hB1 := below_via (w := w) (by repeat' (first | (with_reducible exact Below.refl _ _) | (with_reducible assumption) | (with_reducible refine Below.alloc ?_ ?_ _) | (with_reducible refine Below.drew ?_) | (with_reducible refine below_drewN ?_ _) | (with_reducible refine Below.setCell ?_ ?_ _) | (with_reducible refine below_setRow' ?_ ?_ _) | go_size)) hb1; have hL0 : w.heap.size < w1.heap.size := (by have hS0 := hb1.size; (try simp at hS0); omega); have hLe : w.heap.size ≤ w1.heap.size := hB1.size; clear hb1))
  go_ret
  exact ⟨rfl, (by repeat' (first | (with_reducible exact Below.refl _ _) | (with_reducible assumption) | (with_reducible refine Below.alloc ?_ ?_ _) | (with_reducible refine Below.drew ?_) | (with_reducible refine below_drewN ?_ _) | (with_reducible refine Below.setCell ?_ ?_ _) | (with_reducible refine below_setRow' ?_ ?_ _) | go_size))⟩
theorem law12 (n : Int) (b : Nat → Int) (hb : Bt b) (z : ByteArray) {b4 o4 b6 o6 : Nat} (w : World) (hg : Gl b4 o4 b6 o6 w) :
    Calls Tryd.prog 12 #[.agg (adr n b z)] w fun e w' => e = .returned (.bool true) ∧ Below w.heap.size w w' := by
  by_cases h4 : n = 4
  · subst h4; exact law12_4 b hb z w hg
  by_cases h16 : n = 16
  · subst h16; exact law12_16 b hb z w hg
  exact law12_0 n h4 h16 b z w
end Go.Proofs.YtmlkcgacneealaaDoor
