/- FnNextIsLeast returns true for every two addresses. Conditions: the listed variables as laid. -/
import Derived.Test.YtmlkcgacneealaaDoorLawG
import Derived.Test.YtmlkcgacneealaaDoorAlikeF
import Derived.Test.YtmlkcgacneealaaDoorLawF
set_option linter.unusedVariables false
set_option linter.unusedSimpArgs false
namespace Go.Proofs.YtmlkcgacneealaaDoor
open Go.RowKit
theorem next4_val {b : Nat → Int} (hb : Bt b) {p : Nat} (h : lastIdx (bt b) true 32 = some p) : be4f (pb (fl (bt b) p) 32) 0 = be4f b 0 + 1 := by
  rw [be4_pb, be4_bt hb]; exact nb_next h
theorem prev4_val {b : Nat → Int} (hb : Bt b) {p : Nat} (h : lastIdx (bt b) false 32 = some p) : be4f (pb (fl (bt b) p) 32) 0 = be4f b 0 - 1 := by
  rw [be4_pb, be4_bt hb, nb_prev h]; omega
theorem v16_lt {b : Nat → Int} (hb : Bt b) : 0 ≤ v16 b ∧ v16 b < 340282366920938463463374607431768211456 := by
  have h1 := be8f_lt hb 0; have h2 := be8f_lt hb 8; unfold v16; omega
theorem law15_4 (b b' : Nat → Int) (hb : Bt b) (hb' : Bt b') (z z' : ByteArray) {b4 o4 b6 o6 : Nat} (w : World) (hg : Gl b4 o4 b6 o6 w) :
    Calls Tryd.prog 15 #[.agg (adr 4 b z), .agg (adr 4 b' z')] w fun e w' => e = .returned (.bool true) ∧ Below w.heap.size w w' := by
  have l1 := be4f_lt hb 0
  have l2 := be4f_lt hb' 0
  rcases Int.lt_trichotomy (be4f b 0) (be4f b' 0) with h | h | h
  · cases hn : lastIdx (bt b) true 32 with
    | none => have := next4_n hb hn; omega
    | some p =>
      cases hp : lastIdx (bt b') false 32 with
      | none => have := prev4_n hb' hp; omega
      | some q =>
        have e1 := next4_val hb hn
        have e2 := prev4_val hb' hp
        have hN := fun (w : World) (hg : Gl b4 o4 b6 o6 w) => iNext_4 b hb z w hg.g4
        have hP := fun (w : World) (hg : Gl b4 o4 b6 o6 w) => iPrev_4 b' hb' z' w hg.g4
        simp only [bres_some hn] at hN
        simp only [bres_some hp] at hP
        by_cases c : be4f b 0 + 1 = be4f b' 0
        · exact law15_4E b b' _ _ hb hb' (Bt_pb _ _) (Bt_pb _ _) z z' w hg hN hP (cmpI_lt (by omega)) (cmpI_eq (by omega)) (cmpI_lt (by omega)) (cmpI_eq (by omega)) (cmpI_lt (by omega))
        · exact law15_4L b b' _ _ hb hb' (Bt_pb _ _) (Bt_pb _ _) z z' w hg hN hP (cmpI_lt (by omega)) (cmpI_lt (by omega)) (cmpI_lt (by omega)) (cmpI_lt (by omega)) (cmpI_lt (by omega))
  · exact law15_4ge0 b b' hb hb' z z' (cmpI_eq (by omega)) w
  · exact law15_4ge1 b b' hb hb' z z' (cmpI_gt (by omega)) w
theorem law15_16 (b b' : Nat → Int) (hb : Bt b) (hb' : Bt b') {b4 o4 b6 o6 : Nat} (w : World) (hg : Gl b4 o4 b6 o6 w) :
    Calls Tryd.prog 15 #[.agg (adr 16 b ⟨#[]⟩), .agg (adr 16 b' ⟨#[]⟩)] w fun e w' => e = .returned (.bool true) ∧ Below w.heap.size w w' := by
  have l1 := v16_lt hb
  have l2 := v16_lt hb'
  rcases Int.lt_trichotomy (v16 b) (v16 b') with h | h | h
  · cases hn : lastIdx (bt b) true 128 with
    | none => have := next16_n hb hn; omega
    | some p =>
      cases hp : lastIdx (bt b') false 128 with
      | none => have := prev16_n hb' hp; omega
      | some q =>
        have e1 := next16_s hb hn
        have e2 := prev16_s hb' hp
        have hN := fun (w : World) (hg : Gl b4 o4 b6 o6 w) => iNext_16 b hb w hg
        have hP := fun (w : World) (hg : Gl b4 o4 b6 o6 w) => iPrev_16 b' hb' w hg
        simp only [bres_some hn] at hN
        simp only [bres_some hp] at hP
        by_cases c : v16 b + 1 = v16 b'
        · exact law15_16E b b' _ _ hb hb' (Bt_pb _ _) (Bt_pb _ _) w hg hN hP (cmpI_lt (by omega)) (cmpI_eq (by omega)) (cmpI_lt (by omega)) (cmpI_eq (by omega)) (cmpI_lt (by omega))
        · exact law15_16L b b' _ _ hb hb' (Bt_pb _ _) (Bt_pb _ _) w hg hN hP (cmpI_lt (by omega)) (cmpI_lt (by omega)) (cmpI_lt (by omega)) (cmpI_lt (by omega)) (cmpI_lt (by omega))
  · exact law15_16ge0 b b' hb hb' (cmpI_eq (by omega)) w
  · exact law15_16ge1 b b' hb hb' (cmpI_gt (by omega)) w
theorem alike_false (n n' : Int) (b b' : Nat → Int) (z z' : ByteArray) (h : ¬ (n = 4 ∧ n' = 4) ∧ ¬ (n = 16 ∧ n' = 16 ∧ z = ⟨#[]⟩ ∧ z' = ⟨#[]⟩)) (w : World) :
    Calls Tryd.prog 43 #[.agg (adr n b z), .agg (adr n' b' z')] w fun e w' => e = .returned (.bool false) ∧ Below w.heap.size w w' := by
  by_cases h4 : n = 4
  · subst h4
    by_cases k4 : n' = 4
    · exact absurd ⟨rfl, k4⟩ h.1
    by_cases k16 : n' = 16
    · subst k16; exact alike_4_16a b z b' z' w
    · exact alike_4_0 b z n' k4 k16 b' z' w
  by_cases h16 : n = 16
  · subst h16
    by_cases k4 : n' = 4
    · subst k4; exact alike_16a_4 b z b' z' w
    by_cases k16 : n' = 16
    · subst k16
      cases hz : z.toList.isEmpty
      · exact alike_16z b z hz b' z' w
      · obtain rfl := zone_empty hz
        cases hz' : z'.toList.isEmpty
        · exact alike_16_z b b' z' hz' w
        · obtain rfl := zone_empty hz'
          exact absurd ⟨rfl, rfl, rfl, rfl⟩ h.2
    · exact alike_16a_0 b z n' k4 k16 b' z' w
  exact alike_0 n h4 h16 b z n' b' z' w
theorem law15 (n : Int) (b : Nat → Int) (hb : Bt b) (z : ByteArray) (n' : Int) (b' : Nat → Int) (hb' : Bt b') (z' : ByteArray) {b4 o4 b6 o6 : Nat} (w : World) (hg : Gl b4 o4 b6 o6 w) :
    Calls Tryd.prog 15 #[.agg (adr n b z), .agg (adr n' b' z')] w fun e w' => e = .returned (.bool true) ∧ Below w.heap.size w w' := by
  by_cases h : n = 4 ∧ n' = 4
  · obtain ⟨rfl, rfl⟩ := h; exact law15_4 b b' hb hb' z z' w hg
  by_cases k : n = 16 ∧ n' = 16 ∧ z = ⟨#[]⟩ ∧ z' = ⟨#[]⟩
  · obtain ⟨rfl, rfl, rfl, rfl⟩ := k; exact law15_16 b b' hb hb' w hg
  exact law15_f n n' b b' z z' (alike_false n n' b b' z z' ⟨h, k⟩) w
end Go.Proofs.YtmlkcgacneealaaDoor
