/- The kinds are apart: at most one of the five, the two kinds of multicast are multicast. Plain arithmetic on the bytes. -/
import Derived.Test.YtmlkcgacneealaaDoorPKinds
set_option linter.unusedVariables false
set_option linter.unusedSimpArgs false
namespace Go.Proofs.YtmlkcgacneealaaDoor
open Go.RowKit
/-- What FnKindsApart asks of the seven. -/
def adm (a0 a1 a2 a3 a4 a5 a6 : Bool) : Bool := !(a0 && a1) && !(a0 && a2) && !(a0 && a5) && !(a0 && a6) && !(a1 && a2) && !(a1 && a5) && !(a1 && a6) && !(a2 && a5) && !(a2 && a6) && !(a5 && a6) && (!a3 || a2) && (!a4 || a2) && !(a3 && a4)
theorem apF4 : ∀ (x : Fin 256) (u p q r s v : Bool), adm ((((x.val : Nat) : Int) == 0) && u) (((x.val : Nat) : Int) == 127) (bits .and .u8 ((x.val : Nat) : Int) 240 == 224) false ((((x.val : Nat) : Int) == 224) && p && q) ((((x.val : Nat) : Int) == 169) && r) ((((x.val : Nat) : Int) == 10) || (((x.val : Nat) : Int) == 172) && s || (((x.val : Nat) : Int) == 192) && v) = true := by decide +kernel
theorem apF6 : ∀ (x : Fin 256) (u p0 p1 q1 q2 r : Bool), (p0 && p1) = false → (q1 && q2) = false → adm ((((x.val : Nat) : Int) == 0) && (u && p0)) ((((x.val : Nat) : Int) == 0) && (u && p1)) (((x.val : Nat) : Int) == 255) ((((x.val : Nat) : Int) == 255) && q1) ((((x.val : Nat) : Int) == 255) && q2) ((((x.val : Nat) : Int) == 254) && r) (bits .and .u8 ((x.val : Nat) : Int) 254 == 252) = true := by decide +kernel
theorem ap4 (x : Int) (h : 0 ≤ x ∧ x < 256) (u p q r s v : Bool) : adm ((x == 0) && u) (x == 127) (bits .and .u8 x 240 == 224) false ((x == 224) && p && q) ((x == 169) && r) ((x == 10) || (x == 172) && s || (x == 192) && v) = true := by
  obtain ⟨n, rfl⟩ := Int.eq_ofNat_of_zero_le h.1
  exact apF4 ⟨n, by omega⟩ u p q r s v
theorem ap6 (x : Int) (h : 0 ≤ x ∧ x < 256) (u p0 p1 q1 q2 r : Bool) (h1 : (p0 && p1) = false) (h2 : (q1 && q2) = false) : adm ((x == 0) && (u && p0)) ((x == 0) && (u && p1)) (x == 255) ((x == 255) && q1) ((x == 255) && q2) ((x == 254) && r) (bits .and .u8 x 254 == 252) = true := by
  obtain ⟨n, rfl⟩ := Int.eq_ofNat_of_zero_le h.1
  exact apF6 ⟨n, by omega⟩ u p0 p1 q1 q2 r h1 h2
theorem apart_0 : adm false false false false false false false = true := rfl
theorem apart_4 {b : Nat → Int} (hb : Bt b) : adm (be4f b 0 == 0) (kLo4 (281470681743360 + be4f b 0)) (kMu4 (281470681743360 + be4f b 0)) false (kLM4 (281470681743360 + be4f b 0)) (kLU4 (281470681743360 + be4f b 0)) (kPr4 (281470681743360 + be4f b 0)) = true := by
  have e : (be4f b 0 == 0) = ((b 0 == 0) && (be4f b 0 == 0)) := by
    have h0 := hb 0; have h1 := hb 1; have h2 := hb 2; have h3 := hb 3
    rw [Bool.eq_iff_iff]
    simp only [beq_iff_eq, Bool.and_eq_true]
    unfold be4f be4; simp only [Nat.zero_add]
    omega
  rw [e]
  unfold kLo4 kMu4 kLM4 kLU4 kPr4
  rw [lo_b0 hb, lo_b1 hb, lo_b2 hb]
  exact ap4 (b 0) (hb 0) _ _ _ _ _ _
theorem apart_6 {b : Nat → Int} (hb : Bt b) : adm ((be8f b 0 == 0) && (be8f b 8 == 0)) (kLo6 (be8f b 0) (be8f b 8)) (kMu6 (be8f b 0)) (kIf6 (be8f b 0)) (kLM6 (be8f b 0)) (kLU6 (be8f b 0)) (kPr6 (be8f b 0)) = true := by
  have e : (be8f b 0 == 0) = ((b 0 == 0) && (be8f b 0 == 0)) := by
    have h := hi_b0 hb
    rw [Bool.eq_iff_iff]
    simp only [beq_iff_eq, Bool.and_eq_true]
    omega
  unfold kLo6 kMu6 kIf6 kLM6 kLU6 kPr6
  rw [hi_b0 hb, hi_b01 hb, show (65281 : Int) = 65280 + 1 from rfl, show (65282 : Int) = 65280 + 2 from rfl, mask_if (b 0) (b 1) (hb 0) (hb 1) 1 (by omega), mask_if (b 0) (b 1) (hb 0) (hb 1) 2 (by omega), mask_lu (b 0) (b 1) (hb 0) (hb 1), e, Bool.and_assoc, Bool.and_assoc]
  refine ap6 (b 0) (hb 0) _ _ _ _ _ _ ?_ ?_
  · rw [Bool.eq_false_iff]; simp only [ne_eq, Bool.and_eq_true, beq_iff_eq]; omega
  · rw [Bool.eq_false_iff]; simp only [ne_eq, Bool.and_eq_true, beq_iff_eq]; omega
end Go.Proofs.YtmlkcgacneealaaDoor
