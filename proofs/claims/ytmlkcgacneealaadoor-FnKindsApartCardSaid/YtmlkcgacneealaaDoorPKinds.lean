/- The kinds by bytes: what the library reckons is what the reference says. Plain arithmetic. No conditions but on the bytes. -/
import Derived.Test.YtmlkcgacneealaaDoorKindsB
import Derived.Test.YtmlkcgacneealaaDoorSpcKB
set_option linter.unusedVariables false
set_option linter.unusedSimpArgs false
namespace Go.Proofs.YtmlkcgacneealaaDoor
open Go.RowKit
theorem land_split (a b m n : Nat) (hb : b < 256) (hn : n < 256) : (2 ^ 8 * a + b) &&& (2 ^ 8 * m + n) = 2 ^ 8 * (a &&& m) + (b &&& n) := by
  have hbn : b &&& n < 2 ^ 8 := Nat.and_lt_two_pow b (by omega)
  apply Nat.eq_of_testBit_eq
  intro i
  rw [Nat.testBit_and, Nat.testBit_two_pow_mul_add a (by omega : b < 2 ^ 8), Nat.testBit_two_pow_mul_add m (by omega : n < 2 ^ 8), Nat.testBit_two_pow_mul_add (a &&& m) hbn]
  split <;> simp [Nat.testBit_and]
/-- The first r bits of two bytes are the same. -/
def byI (x y : Int) (r : Nat) : Bool := (List.range r).all fun s => (x / 2 ^ (7 - s) % 2 == 1) == (y / 2 ^ (7 - s) % 2 == 1)
theorem byF_127_8 : ∀ x : Fin 256, byI ((x.val : Nat) : Int) 127 8 = (((x.val : Nat) : Int) == 127) := by decide +kernel
theorem by_127_8 (x : Int) (h : 0 ≤ x ∧ x < 256) : byI x 127 8 = (x == 127) := by
  obtain ⟨n, rfl⟩ := Int.eq_ofNat_of_zero_le h.1
  exact byF_127_8 ⟨n, by omega⟩
theorem byF_224_8 : ∀ x : Fin 256, byI ((x.val : Nat) : Int) 224 8 = (((x.val : Nat) : Int) == 224) := by decide +kernel
theorem by_224_8 (x : Int) (h : 0 ≤ x ∧ x < 256) : byI x 224 8 = (x == 224) := by
  obtain ⟨n, rfl⟩ := Int.eq_ofNat_of_zero_le h.1
  exact byF_224_8 ⟨n, by omega⟩
theorem byF_0_8 : ∀ x : Fin 256, byI ((x.val : Nat) : Int) 0 8 = (((x.val : Nat) : Int) == 0) := by decide +kernel
theorem by_0_8 (x : Int) (h : 0 ≤ x ∧ x < 256) : byI x 0 8 = (x == 0) := by
  obtain ⟨n, rfl⟩ := Int.eq_ofNat_of_zero_le h.1
  exact byF_0_8 ⟨n, by omega⟩
theorem byF_169_8 : ∀ x : Fin 256, byI ((x.val : Nat) : Int) 169 8 = (((x.val : Nat) : Int) == 169) := by decide +kernel
theorem by_169_8 (x : Int) (h : 0 ≤ x ∧ x < 256) : byI x 169 8 = (x == 169) := by
  obtain ⟨n, rfl⟩ := Int.eq_ofNat_of_zero_le h.1
  exact byF_169_8 ⟨n, by omega⟩
theorem byF_254_8 : ∀ x : Fin 256, byI ((x.val : Nat) : Int) 254 8 = (((x.val : Nat) : Int) == 254) := by decide +kernel
theorem by_254_8 (x : Int) (h : 0 ≤ x ∧ x < 256) : byI x 254 8 = (x == 254) := by
  obtain ⟨n, rfl⟩ := Int.eq_ofNat_of_zero_le h.1
  exact byF_254_8 ⟨n, by omega⟩
theorem byF_10_8 : ∀ x : Fin 256, byI ((x.val : Nat) : Int) 10 8 = (((x.val : Nat) : Int) == 10) := by decide +kernel
theorem by_10_8 (x : Int) (h : 0 ≤ x ∧ x < 256) : byI x 10 8 = (x == 10) := by
  obtain ⟨n, rfl⟩ := Int.eq_ofNat_of_zero_le h.1
  exact byF_10_8 ⟨n, by omega⟩
theorem byF_172_8 : ∀ x : Fin 256, byI ((x.val : Nat) : Int) 172 8 = (((x.val : Nat) : Int) == 172) := by decide +kernel
theorem by_172_8 (x : Int) (h : 0 ≤ x ∧ x < 256) : byI x 172 8 = (x == 172) := by
  obtain ⟨n, rfl⟩ := Int.eq_ofNat_of_zero_le h.1
  exact byF_172_8 ⟨n, by omega⟩
theorem byF_192_8 : ∀ x : Fin 256, byI ((x.val : Nat) : Int) 192 8 = (((x.val : Nat) : Int) == 192) := by decide +kernel
theorem by_192_8 (x : Int) (h : 0 ≤ x ∧ x < 256) : byI x 192 8 = (x == 192) := by
  obtain ⟨n, rfl⟩ := Int.eq_ofNat_of_zero_le h.1
  exact byF_192_8 ⟨n, by omega⟩
theorem byF_168_8 : ∀ x : Fin 256, byI ((x.val : Nat) : Int) 168 8 = (((x.val : Nat) : Int) == 168) := by decide +kernel
theorem by_168_8 (x : Int) (h : 0 ≤ x ∧ x < 256) : byI x 168 8 = (x == 168) := by
  obtain ⟨n, rfl⟩ := Int.eq_ofNat_of_zero_le h.1
  exact byF_168_8 ⟨n, by omega⟩
theorem byF_255_8 : ∀ x : Fin 256, byI ((x.val : Nat) : Int) 255 8 = (((x.val : Nat) : Int) == 255) := by decide +kernel
theorem by_255_8 (x : Int) (h : 0 ≤ x ∧ x < 256) : byI x 255 8 = (x == 255) := by
  obtain ⟨n, rfl⟩ := Int.eq_ofNat_of_zero_le h.1
  exact byF_255_8 ⟨n, by omega⟩
theorem byF_224_4 : ∀ x : Fin 256, byI ((x.val : Nat) : Int) 224 4 = (bits .and .u8 ((x.val : Nat) : Int) 240 == 224) := by decide +kernel
theorem by_224_4 (x : Int) (h : 0 ≤ x ∧ x < 256) : byI x 224 4 = (bits .and .u8 x 240 == 224) := by
  obtain ⟨n, rfl⟩ := Int.eq_ofNat_of_zero_le h.1
  exact byF_224_4 ⟨n, by omega⟩
theorem byF_16_4 : ∀ x : Fin 256, byI ((x.val : Nat) : Int) 16 4 = (bits .and .u8 ((x.val : Nat) : Int) 240 == 16) := by decide +kernel
theorem by_16_4 (x : Int) (h : 0 ≤ x ∧ x < 256) : byI x 16 4 = (bits .and .u8 x 240 == 16) := by
  obtain ⟨n, rfl⟩ := Int.eq_ofNat_of_zero_le h.1
  exact byF_16_4 ⟨n, by omega⟩
theorem byF_252_7 : ∀ x : Fin 256, byI ((x.val : Nat) : Int) 252 7 = (bits .and .u8 ((x.val : Nat) : Int) 254 == 252) := by decide +kernel
theorem by_252_7 (x : Int) (h : 0 ≤ x ∧ x < 256) : byI x 252 7 = (bits .and .u8 x 254 == 252) := by
  obtain ⟨n, rfl⟩ := Int.eq_ofNat_of_zero_le h.1
  exact byF_252_7 ⟨n, by omega⟩
theorem byF_128_2 : ∀ x : Fin 256, byI ((x.val : Nat) : Int) 128 2 = (((x.val : Nat) : Int) / 64 == 2) := by decide +kernel
theorem by_128_2 (x : Int) (h : 0 ≤ x ∧ x < 256) : byI x 128 2 = (x / 64 == 2) := by
  obtain ⟨n, rfl⟩ := Int.eq_ofNat_of_zero_le h.1
  exact byF_128_2 ⟨n, by omega⟩
theorem insB_4 (c F : Nat → Int) : insB c F 4 = (byI (c 0) (F 0) 4) := by
  simp [insB, byI, bt, List.range_succ, Bool.and_assoc]
theorem insB_7 (c F : Nat → Int) : insB c F 7 = (byI (c 0) (F 0) 7) := by
  simp [insB, byI, bt, List.range_succ, Bool.and_assoc]
theorem insB_8 (c F : Nat → Int) : insB c F 8 = (byI (c 0) (F 0) 8) := by
  simp [insB, byI, bt, List.range_succ, Bool.and_assoc]
theorem insB_10 (c F : Nat → Int) : insB c F 10 = (byI (c 0) (F 0) 8 && byI (c 1) (F 1) 2) := by
  simp [insB, byI, bt, List.range_succ, Bool.and_assoc]
theorem insB_12 (c F : Nat → Int) : insB c F 12 = (byI (c 0) (F 0) 8 && byI (c 1) (F 1) 4) := by
  simp [insB, byI, bt, List.range_succ, Bool.and_assoc]
theorem insB_16 (c F : Nat → Int) : insB c F 16 = (byI (c 0) (F 0) 8 && byI (c 1) (F 1) 8) := by
  simp [insB, byI, bt, List.range_succ, Bool.and_assoc]
theorem insB_24 (c F : Nat → Int) : insB c F 24 = (byI (c 0) (F 0) 8 && byI (c 1) (F 1) 8 && byI (c 2) (F 2) 8) := by
  simp [insB, byI, bt, List.range_succ, Bool.and_assoc]

theorem lo_b0 {b : Nat → Int} (hb : Bt b) : (281470681743360 + be4f b 0) / 16777216 % 256 = b 0 := by
  have h0 := hb 0; have h1 := hb 1; have h2 := hb 2; have h3 := hb 3
  unfold be4f be4; simp only [Nat.zero_add]; omega
theorem lo_b1 {b : Nat → Int} (hb : Bt b) : (281470681743360 + be4f b 0) / 65536 % 256 = b 1 := by
  have h0 := hb 0; have h1 := hb 1; have h2 := hb 2; have h3 := hb 3
  unfold be4f be4; simp only [Nat.zero_add]; omega
theorem lo_b2 {b : Nat → Int} (hb : Bt b) : (281470681743360 + be4f b 0) / 256 % 256 = b 2 := by
  have h0 := hb 0; have h1 := hb 1; have h2 := hb 2; have h3 := hb 3
  unfold be4f be4; simp only [Nat.zero_add]; omega
theorem hi_b0 {b : Nat → Int} (hb : Bt b) : be8f b 0 / 72057594037927936 = b 0 := by
  have := by8_be8f hb 0 0 (by omega); simpa [by8] using this
theorem hi_b01 {b : Nat → Int} (hb : Bt b) : be8f b 0 / 281474976710656 = b 0 * 256 + b 1 := by
  have h0 := hb 0; have h1 := hb 1; have h2 := hb 2; have h3 := hb 3; have h4 := hb 4; have h5 := hb 5; have h6 := hb 6; have h7 := hb 7
  unfold be8f be8; simp only [Nat.zero_add]; omega
theorem pre4_0 (b : Nat → Int) : pre 4 b 0 = b 0 := rfl
theorem pre4_1 (b : Nat → Int) : pre 4 b 1 = b 1 := rfl
theorem pre4_2 (b : Nat → Int) : pre 4 b 2 = b 2 := rfl
theorem u16_and (a b m n : Nat) (ha : a < 256) (hb : b < 256) (hm : m < 256) (hn : n < 256) : bits .and .u16 ((a : Int) * 256 + (b : Int)) ((m : Int) * 256 + (n : Int)) = (((a &&& m) * 256 + (b &&& n) : Nat) : Int) := by
  have h := (bits_nat .u16 16 (by decide) (fun n h0 h1 => by rw [IntKind.wrap_u16]; omega) (2 ^ 8 * a + b) (2 ^ 8 * m + n) (by omega) (by omega)).1
  rw [land_split a b m n hb hn] at h
  have e1 : ((2 ^ 8 * a + b : Nat) : Int) = (a : Int) * 256 + (b : Int) := by omega
  have e2 : ((2 ^ 8 * m + n : Nat) : Int) = (m : Int) * 256 + (n : Int) := by omega
  rw [e1, e2] at h
  rw [h]
  congr 1
  omega
theorem and255 (a : Nat) (h : a < 256) : a &&& 255 = a := by
  have := Nat.and_two_pow_sub_one_eq_mod a 8
  rw [show (2 : Nat) ^ 8 - 1 = 255 from rfl] at this
  rw [this]; omega
theorem and15 (a : Nat) : a &&& 15 = a % 16 := by
  have := Nat.and_two_pow_sub_one_eq_mod a 4
  rw [show (2 : Nat) ^ 4 - 1 = 15 from rfl] at this
  rw [this]
theorem and192F : ∀ x : Fin 256, (x.val &&& 192) = x.val / 64 * 64 := by decide +kernel
theorem and192 (a : Nat) (h : a < 256) : a &&& 192 = a / 64 * 64 := and192F ⟨a, h⟩
theorem mask_if (x y : Int) (hx : 0 ≤ x ∧ x < 256) (hy : 0 ≤ y ∧ y < 256) (v : Int) (hv : 0 ≤ v ∧ v < 16) : (bits .and .u16 (x * 256 + y) 65295 == 65280 + v) = ((x == 255) && (y % 16 == v)) := by
  obtain ⟨a, rfl⟩ := Int.eq_ofNat_of_zero_le hx.1
  obtain ⟨b, rfl⟩ := Int.eq_ofNat_of_zero_le hy.1
  have h := u16_and a b 255 15 (by omega) (by omega) (by omega) (by omega)
  rw [and255 a (by omega), and15] at h
  have h' : bits .and .u16 ((a : Int) * 256 + (b : Int)) 65295 = ((a * 256 + b % 16 : Nat) : Int) := h
  rw [h', Bool.eq_iff_iff]
  simp only [beq_iff_eq, Bool.and_eq_true]
  omega
theorem mask_lu (x y : Int) (hx : 0 ≤ x ∧ x < 256) (hy : 0 ≤ y ∧ y < 256) : (bits .and .u16 (x * 256 + y) 65472 == 65152) = ((x == 254) && (y / 64 == 2)) := by
  obtain ⟨a, rfl⟩ := Int.eq_ofNat_of_zero_le hx.1
  obtain ⟨b, rfl⟩ := Int.eq_ofNat_of_zero_le hy.1
  have h := u16_and a b 255 192 (by omega) (by omega) (by omega) (by omega)
  rw [and255 a (by omega), and192 b (by omega)] at h
  have h' : bits .and .u16 ((a : Int) * 256 + (b : Int)) 65472 = ((a * 256 + b / 64 * 64 : Nat) : Int) := h
  rw [h', Bool.eq_iff_iff]
  simp only [beq_iff_eq, Bool.and_eq_true]
  omega
theorem kLo4_eq {b : Nat → Int} (hb : Bt b) : sLo4 (pre 4 b) = kLo4 (281470681743360 + be4f b 0) := by
  have h0 := hb 0; have h1 := hb 1; have h2 := hb 2
  unfold sLo4 kLo4
  rw [lo_b0 hb]
  simp only [insB_4, insB_7, insB_8, insB_10, insB_12, insB_16, insB_24, pre4_0, pre4_1, pre4_2]
  exact by_127_8 _ h0
theorem kMu4_eq {b : Nat → Int} (hb : Bt b) : sMu4 (pre 4 b) = kMu4 (281470681743360 + be4f b 0) := by
  have h0 := hb 0; have h1 := hb 1; have h2 := hb 2
  unfold sMu4 kMu4
  rw [lo_b0 hb]
  simp only [insB_4, insB_7, insB_8, insB_10, insB_12, insB_16, insB_24, pre4_0, pre4_1, pre4_2]
  exact by_224_4 _ h0
theorem kLM4_eq {b : Nat → Int} (hb : Bt b) : sLM4 (pre 4 b) = kLM4 (281470681743360 + be4f b 0) := by
  have h0 := hb 0; have h1 := hb 1; have h2 := hb 2
  unfold sLM4 kLM4
  rw [lo_b0 hb, lo_b1 hb, lo_b2 hb]
  simp only [insB_4, insB_7, insB_8, insB_10, insB_12, insB_16, insB_24, pre4_0, pre4_1, pre4_2]
  have e0 := by_224_8 (b 0) h0; have e1 := by_0_8 (b 1) h1; have e2 := by_0_8 (b 2) h2
  rw [← e0, ← e1, ← e2]; rfl
theorem kLU4_eq {b : Nat → Int} (hb : Bt b) : sLU4 (pre 4 b) = kLU4 (281470681743360 + be4f b 0) := by
  have h0 := hb 0; have h1 := hb 1; have h2 := hb 2
  unfold sLU4 kLU4
  rw [lo_b0 hb, lo_b1 hb]
  simp only [insB_4, insB_7, insB_8, insB_10, insB_12, insB_16, insB_24, pre4_0, pre4_1, pre4_2]
  have e0 := by_169_8 (b 0) h0; have e1 := by_254_8 (b 1) h1
  rw [← e0, ← e1]; rfl
theorem kPr4_eq {b : Nat → Int} (hb : Bt b) : sPr4 (pre 4 b) = kPr4 (281470681743360 + be4f b 0) := by
  have h0 := hb 0; have h1 := hb 1; have h2 := hb 2
  unfold sPr4 kPr4
  rw [lo_b0 hb, lo_b1 hb]
  simp only [insB_4, insB_7, insB_8, insB_10, insB_12, insB_16, insB_24, pre4_0, pre4_1, pre4_2]
  have e0 := by_10_8 (b 0) h0; have e1 := by_172_8 (b 0) h0; have e2 := by_16_4 (b 1) h1; have e3 := by_192_8 (b 0) h0; have e4 := by_168_8 (b 1) h1
  rw [← e0, ← e1, ← e2, ← e3, ← e4]; rfl
theorem kMu6_eq {b : Nat → Int} (hb : Bt b) : sMu6 b = kMu6 (be8f b 0) := by
  have h0 := hb 0; have h1 := hb 1
  unfold sMu6 kMu6
  rw [hi_b0 hb]
  simp only [insB_4, insB_7, insB_8, insB_10, insB_12, insB_16, insB_24]
  exact by_255_8 _ h0
theorem kPr6_eq {b : Nat → Int} (hb : Bt b) : sPr6 b = kPr6 (be8f b 0) := by
  have h0 := hb 0; have h1 := hb 1
  unfold sPr6 kPr6
  rw [hi_b0 hb]
  simp only [insB_4, insB_7, insB_8, insB_10, insB_12, insB_16, insB_24]
  exact by_252_7 _ h0
theorem kIf6_eq {b : Nat → Int} (hb : Bt b) : sIf6 b = kIf6 (be8f b 0) := by
  have h0 := hb 0; have h1 := hb 1
  unfold sIf6 kIf6
  rw [hi_b01 hb]
  simp only [insB_4, insB_7, insB_8, insB_10, insB_12, insB_16, insB_24]
  have e := mask_if (b 0) (b 1) h0 h1 1 (by omega)
  have e0 := by_255_8 (b 0) h0
  rw [show (65281 : Int) = 65280 + 1 from rfl, e, ← e0]; rfl
theorem kLM6_eq {b : Nat → Int} (hb : Bt b) : sLM6 b = kLM6 (be8f b 0) := by
  have h0 := hb 0; have h1 := hb 1
  unfold sLM6 kLM6
  rw [hi_b01 hb]
  simp only [insB_4, insB_7, insB_8, insB_10, insB_12, insB_16, insB_24]
  have e := mask_if (b 0) (b 1) h0 h1 2 (by omega)
  have e0 := by_255_8 (b 0) h0
  rw [show (65282 : Int) = 65280 + 2 from rfl, e, ← e0]; rfl
theorem kLU6_eq {b : Nat → Int} (hb : Bt b) : sLU6 b = kLU6 (be8f b 0) := by
  have h0 := hb 0; have h1 := hb 1
  unfold sLU6 kLU6
  rw [hi_b01 hb]
  simp only [insB_4, insB_7, insB_8, insB_10, insB_12, insB_16, insB_24]
  have e := mask_lu (b 0) (b 1) h0 h1
  have e0 := by_254_8 (b 0) h0
  have e1 := by_128_2 (b 1) h1
  rw [e, ← e0, ← e1]; rfl
theorem kLo6_eq {b : Nat → Int} (hb : Bt b) : sLo6 b = kLo6 (be8f b 0) (be8f b 8) := by
  have h0 := hb 0
  have h1 := hb 1
  have h2 := hb 2
  have h3 := hb 3
  have h4 := hb 4
  have h5 := hb 5
  have h6 := hb 6
  have h7 := hb 7
  have h8 := hb 8
  have h9 := hb 9
  have h10 := hb 10
  have h11 := hb 11
  have h12 := hb 12
  have h13 := hb 13
  have h14 := hb 14
  have h15 := hb 15
  unfold sLo6 kLo6
  rw [Bool.eq_iff_iff, eqB_iff, Bool.and_eq_true, beq_iff_eq, beq_iff_eq]
  have e : (∀ i, i < 16 → b i = upd zb 15 1 i) ↔ (b 0 = 0 ∧ b 1 = 0 ∧ b 2 = 0 ∧ b 3 = 0 ∧ b 4 = 0 ∧ b 5 = 0 ∧ b 6 = 0 ∧ b 7 = 0 ∧ b 8 = 0 ∧ b 9 = 0 ∧ b 10 = 0 ∧ b 11 = 0 ∧ b 12 = 0 ∧ b 13 = 0 ∧ b 14 = 0 ∧ b 15 = 1) := by
    constructor
    · intro h
      exact ⟨h 0 (by omega), h 1 (by omega), h 2 (by omega), h 3 (by omega), h 4 (by omega), h 5 (by omega), h 6 (by omega), h 7 (by omega), h 8 (by omega), h 9 (by omega), h 10 (by omega), h 11 (by omega), h 12 (by omega), h 13 (by omega), h 14 (by omega), h 15 (by omega)⟩
    · intro h i hi
      obtain ⟨g0, g1, g2, g3, g4, g5, g6, g7, g8, g9, g10, g11, g12, g13, g14, g15⟩ := h
      match i, hi with
      | 0, _ => exact g0
      | 1, _ => exact g1
      | 2, _ => exact g2
      | 3, _ => exact g3
      | 4, _ => exact g4
      | 5, _ => exact g5
      | 6, _ => exact g6
      | 7, _ => exact g7
      | 8, _ => exact g8
      | 9, _ => exact g9
      | 10, _ => exact g10
      | 11, _ => exact g11
      | 12, _ => exact g12
      | 13, _ => exact g13
      | 14, _ => exact g14
      | 15, _ => exact g15
      | i + 16, hi => omega
  rw [e]
  unfold be8f be8
  simp only [Nat.zero_add, Nat.reduceAdd]
  constructor <;> intro h <;> omega
theorem uns4_eq {b : Nat → Int} (hb : Bt b) : adrEq 4 (pre 4 b) ⟨#[]⟩ 4 zb ⟨#[]⟩ = (be4f b 0 == 0) := by
  have h0 := hb 0; have h1 := hb 1; have h2 := hb 2; have h3 := hb 3
  rw [Bool.eq_iff_iff, adrEq_iff, beq_iff_eq]
  unfold be4f be4; simp only [Nat.zero_add]
  constructor
  · rintro ⟨_, h, _⟩
    have g0 : b 0 = 0 := h 0 (by omega)
    have g1 : b 1 = 0 := h 1 (by omega)
    have g2 : b 2 = 0 := h 2 (by omega)
    have g3 : b 3 = 0 := h 3 (by omega)
    omega
  · intro h
    refine ⟨trivial, fun i hi => ?_, trivial⟩
    unfold pre zb
    split
    · rename_i c
      match i, c with
      | 0, _ => omega
      | 1, _ => omega
      | 2, _ => omega
      | 3, _ => omega
      | i + 4, c => omega
    · rfl
theorem uns6_eq {b : Nat → Int} (hb : Bt b) : adrEq 16 b ⟨#[]⟩ 16 zb ⟨#[]⟩ = ((be8f b 0 == 0) && (be8f b 8 == 0)) := by
  have h0 := hb 0
  have h1 := hb 1
  have h2 := hb 2
  have h3 := hb 3
  have h4 := hb 4
  have h5 := hb 5
  have h6 := hb 6
  have h7 := hb 7
  have h8 := hb 8
  have h9 := hb 9
  have h10 := hb 10
  have h11 := hb 11
  have h12 := hb 12
  have h13 := hb 13
  have h14 := hb 14
  have h15 := hb 15
  rw [Bool.eq_iff_iff, adrEq_iff, Bool.and_eq_true, beq_iff_eq, beq_iff_eq]
  unfold be8f be8
  simp only [Nat.zero_add, Nat.reduceAdd]
  constructor
  · rintro ⟨_, h, _⟩
    have g0 : b 0 = 0 := h 0 (by omega)
    have g1 : b 1 = 0 := h 1 (by omega)
    have g2 : b 2 = 0 := h 2 (by omega)
    have g3 : b 3 = 0 := h 3 (by omega)
    have g4 : b 4 = 0 := h 4 (by omega)
    have g5 : b 5 = 0 := h 5 (by omega)
    have g6 : b 6 = 0 := h 6 (by omega)
    have g7 : b 7 = 0 := h 7 (by omega)
    have g8 : b 8 = 0 := h 8 (by omega)
    have g9 : b 9 = 0 := h 9 (by omega)
    have g10 : b 10 = 0 := h 10 (by omega)
    have g11 : b 11 = 0 := h 11 (by omega)
    have g12 : b 12 = 0 := h 12 (by omega)
    have g13 : b 13 = 0 := h 13 (by omega)
    have g14 : b 14 = 0 := h 14 (by omega)
    have g15 : b 15 = 0 := h 15 (by omega)
    omega
  · intro h
    refine ⟨trivial, fun i hi => ?_, trivial⟩
    show b i = 0
    match i, hi with
    | 0, _ => omega
    | 1, _ => omega
    | 2, _ => omega
    | 3, _ => omega
    | 4, _ => omega
    | 5, _ => omega
    | 6, _ => omega
    | 7, _ => omega
    | 8, _ => omega
    | 9, _ => omega
    | 10, _ => omega
    | 11, _ => omega
    | 12, _ => omega
    | 13, _ => omega
    | 14, _ => omega
    | 15, _ => omega
    | i + 16, hi => omega
end Go.Proofs.YtmlkcgacneealaaDoor
