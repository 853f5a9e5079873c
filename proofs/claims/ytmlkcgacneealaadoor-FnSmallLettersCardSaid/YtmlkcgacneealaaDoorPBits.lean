/- Bits, bytes and numbers: plain arithmetic, no program in sight. No conditions but on the bytes. -/
import Derived.Test.YtmlkcgacneealaaDoorBits
set_option linter.unusedVariables false
set_option linter.unusedSimpArgs false
namespace Go.Proofs.YtmlkcgacneealaaDoor
open Go.RowKit
/-- A bit as a number; the byte i that the bits f make; the number that the first m bits make. -/
def bv (f : Nat → Bool) (j : Nat) : Int := if f j then 1 else 0
def pbyte (f : Nat → Bool) (i : Nat) : Int := bv f (8 * i) * 128 + bv f (8 * i + 1) * 64 + bv f (8 * i + 2) * 32 + bv f (8 * i + 3) * 16 + bv f (8 * i + 4) * 8 + bv f (8 * i + 5) * 4 + bv f (8 * i + 6) * 2 + bv f (8 * i + 7)
def nb (f : Nat → Bool) : Nat → Int
  | 0 => 0
  | m + 1 => 2 * nb f m + bv f m
/-- The bits before q alone. -/
def msk (f : Nat → Bool) (q : Nat) : Nat → Bool := fun j => decide (j < q) && f j
def pb (f : Nat → Bool) (q : Nat) : Nat → Int := fun i => pbyte (msk f q) i
theorem bv_01 (f : Nat → Bool) (j : Nat) : bv f j = 0 ∨ bv f j = 1 := by unfold bv; split <;> simp
theorem bv_lt (f : Nat → Bool) (j : Nat) : 0 ≤ bv f j ∧ bv f j ≤ 1 := by rcases bv_01 f j with h | h <;> omega
theorem Bt_pbyte (f : Nat → Bool) : Bt (pbyte f) := fun i => by
  unfold pbyte
  have h0 := bv_lt f (8 * i); have h1 := bv_lt f (8 * i + 1); have h2 := bv_lt f (8 * i + 2); have h3 := bv_lt f (8 * i + 3)
  have h4 := bv_lt f (8 * i + 4); have h5 := bv_lt f (8 * i + 5); have h6 := bv_lt f (8 * i + 6); have h7 := bv_lt f (8 * i + 7)
  omega
theorem nb_byte (f : Nat → Bool) (q : Nat) : nb f (8 * q + 8) = 256 * nb f (8 * q) + pbyte f q := by
  unfold pbyte
  simp only [nb]
  omega
theorem bv_msk (f : Nat → Bool) (q j : Nat) : bv (msk f q) j = if j < q then bv f j else 0 := by
  unfold bv msk
  by_cases h : j < q <;> simp [h]
theorem msk_zero (f : Nat → Bool) : pb f 0 = zb := by
  funext i; unfold pb pbyte zb; simp [bv_msk]
theorem pb_same (f : Nat → Bool) (q : Nat) (h : f q = false) : pb f (q + 1) = pb f q := by
  have : msk f (q + 1) = msk f q := by
    funext j; unfold msk
    by_cases e : j = q
    · subst e; simp [h]
    · rw [show decide (j < q + 1) = decide (j < q) from decide_eq_decide.2 (by omega)]
  unfold pb; rw [this]
theorem pb_other (f : Nat → Bool) (q i : Nat) (h : i ≠ q / 8) : pb f (q + 1) i = pb f q i := by
  have e : ∀ s, s < 8 → bv (msk f (q + 1)) (8 * i + s) = bv (msk f q) (8 * i + s) := fun s hs => by
    rw [bv_msk, bv_msk]
    by_cases c : 8 * i + s < q
    · rw [if_pos c, if_pos (by omega)]
    · rw [if_neg c, if_neg (by omega)]
  unfold pb pbyte
  have e0 := e 0 (by omega); simp only [Nat.add_zero] at e0
  rw [e0, e 1 (by omega), e 2 (by omega), e 3 (by omega), e 4 (by omega), e 5 (by omega), e 6 (by omega), e 7 (by omega)]
theorem u8_bits : ∀ n : Int, 0 ≤ n → n < 2 ^ 8 → IntKind.u8.wrap n = n := fun n h0 h1 => by rw [IntKind.wrap_u8]; omega
theorem pb_step0 (f : Nat → Bool) (i : Nat) (hf : f (8 * i + 0) = true) : bits .or .u8 (pb f (8 * i + 0) i) (2 ^ (7 - 0) % 256) = pb f (8 * i + 0 + 1) i := by
  have h1 : bv f (8 * i + 0) = 1 := by unfold bv; rw [hf]; rfl
  have b1 := bv_lt f (8 * i + 1)
  have b2 := bv_lt f (8 * i + 2)
  have b3 := bv_lt f (8 * i + 3)
  have b4 := bv_lt f (8 * i + 4)
  have b5 := bv_lt f (8 * i + 5)
  have b6 := bv_lt f (8 * i + 6)
  have b7 := bv_lt f (8 * i + 7)
  have b0 := bv_lt f (8 * i)
  rw [Nat.add_zero] at h1 ⊢
  unfold pb pbyte
  simp only [bv_msk]
  have e1 : (2 : Int) ^ (7 - 0) % 256 = 128 := by decide
  rw [e1]
  simp (disch := omega) only [if_pos, if_neg, h1]
  rw [bits_join .u8 8 (by decide) u8_bits 8 _ _ (by omega) (by omega) (by omega) (by omega) (by omega) (by omega)]
  omega
theorem pb_step1 (f : Nat → Bool) (i : Nat) (hf : f (8 * i + 1) = true) : bits .or .u8 (pb f (8 * i + 1) i) (2 ^ (7 - 1) % 256) = pb f (8 * i + 1 + 1) i := by
  have h1 : bv f (8 * i + 1) = 1 := by unfold bv; rw [hf]; rfl
  have b1 := bv_lt f (8 * i + 1)
  have b2 := bv_lt f (8 * i + 2)
  have b3 := bv_lt f (8 * i + 3)
  have b4 := bv_lt f (8 * i + 4)
  have b5 := bv_lt f (8 * i + 5)
  have b6 := bv_lt f (8 * i + 6)
  have b7 := bv_lt f (8 * i + 7)
  have b0 := bv_lt f (8 * i)
  unfold pb pbyte
  simp only [bv_msk]
  have e1 : (2 : Int) ^ (7 - 1) % 256 = 64 := by decide
  rw [e1]
  simp (disch := omega) only [if_pos, if_neg, h1]
  rw [bits_join .u8 8 (by decide) u8_bits 7 _ _ (by omega) (by omega) (by omega) (by omega) (by omega) (by omega)]
  omega
theorem pb_step2 (f : Nat → Bool) (i : Nat) (hf : f (8 * i + 2) = true) : bits .or .u8 (pb f (8 * i + 2) i) (2 ^ (7 - 2) % 256) = pb f (8 * i + 2 + 1) i := by
  have h1 : bv f (8 * i + 2) = 1 := by unfold bv; rw [hf]; rfl
  have b1 := bv_lt f (8 * i + 1)
  have b2 := bv_lt f (8 * i + 2)
  have b3 := bv_lt f (8 * i + 3)
  have b4 := bv_lt f (8 * i + 4)
  have b5 := bv_lt f (8 * i + 5)
  have b6 := bv_lt f (8 * i + 6)
  have b7 := bv_lt f (8 * i + 7)
  have b0 := bv_lt f (8 * i)
  unfold pb pbyte
  simp only [bv_msk]
  have e1 : (2 : Int) ^ (7 - 2) % 256 = 32 := by decide
  rw [e1]
  simp (disch := omega) only [if_pos, if_neg, h1]
  rw [bits_join .u8 8 (by decide) u8_bits 6 _ _ (by omega) (by omega) (by omega) (by omega) (by omega) (by omega)]
  omega
theorem pb_step3 (f : Nat → Bool) (i : Nat) (hf : f (8 * i + 3) = true) : bits .or .u8 (pb f (8 * i + 3) i) (2 ^ (7 - 3) % 256) = pb f (8 * i + 3 + 1) i := by
  have h1 : bv f (8 * i + 3) = 1 := by unfold bv; rw [hf]; rfl
  have b1 := bv_lt f (8 * i + 1)
  have b2 := bv_lt f (8 * i + 2)
  have b3 := bv_lt f (8 * i + 3)
  have b4 := bv_lt f (8 * i + 4)
  have b5 := bv_lt f (8 * i + 5)
  have b6 := bv_lt f (8 * i + 6)
  have b7 := bv_lt f (8 * i + 7)
  have b0 := bv_lt f (8 * i)
  unfold pb pbyte
  simp only [bv_msk]
  have e1 : (2 : Int) ^ (7 - 3) % 256 = 16 := by decide
  rw [e1]
  simp (disch := omega) only [if_pos, if_neg, h1]
  rw [bits_join .u8 8 (by decide) u8_bits 5 _ _ (by omega) (by omega) (by omega) (by omega) (by omega) (by omega)]
  omega
theorem pb_step4 (f : Nat → Bool) (i : Nat) (hf : f (8 * i + 4) = true) : bits .or .u8 (pb f (8 * i + 4) i) (2 ^ (7 - 4) % 256) = pb f (8 * i + 4 + 1) i := by
  have h1 : bv f (8 * i + 4) = 1 := by unfold bv; rw [hf]; rfl
  have b1 := bv_lt f (8 * i + 1)
  have b2 := bv_lt f (8 * i + 2)
  have b3 := bv_lt f (8 * i + 3)
  have b4 := bv_lt f (8 * i + 4)
  have b5 := bv_lt f (8 * i + 5)
  have b6 := bv_lt f (8 * i + 6)
  have b7 := bv_lt f (8 * i + 7)
  have b0 := bv_lt f (8 * i)
  unfold pb pbyte
  simp only [bv_msk]
  have e1 : (2 : Int) ^ (7 - 4) % 256 = 8 := by decide
  rw [e1]
  simp (disch := omega) only [if_pos, if_neg, h1]
  rw [bits_join .u8 8 (by decide) u8_bits 4 _ _ (by omega) (by omega) (by omega) (by omega) (by omega) (by omega)]
  omega
theorem pb_step5 (f : Nat → Bool) (i : Nat) (hf : f (8 * i + 5) = true) : bits .or .u8 (pb f (8 * i + 5) i) (2 ^ (7 - 5) % 256) = pb f (8 * i + 5 + 1) i := by
  have h1 : bv f (8 * i + 5) = 1 := by unfold bv; rw [hf]; rfl
  have b1 := bv_lt f (8 * i + 1)
  have b2 := bv_lt f (8 * i + 2)
  have b3 := bv_lt f (8 * i + 3)
  have b4 := bv_lt f (8 * i + 4)
  have b5 := bv_lt f (8 * i + 5)
  have b6 := bv_lt f (8 * i + 6)
  have b7 := bv_lt f (8 * i + 7)
  have b0 := bv_lt f (8 * i)
  unfold pb pbyte
  simp only [bv_msk]
  have e1 : (2 : Int) ^ (7 - 5) % 256 = 4 := by decide
  rw [e1]
  simp (disch := omega) only [if_pos, if_neg, h1]
  rw [bits_join .u8 8 (by decide) u8_bits 3 _ _ (by omega) (by omega) (by omega) (by omega) (by omega) (by omega)]
  omega
theorem pb_step6 (f : Nat → Bool) (i : Nat) (hf : f (8 * i + 6) = true) : bits .or .u8 (pb f (8 * i + 6) i) (2 ^ (7 - 6) % 256) = pb f (8 * i + 6 + 1) i := by
  have h1 : bv f (8 * i + 6) = 1 := by unfold bv; rw [hf]; rfl
  have b1 := bv_lt f (8 * i + 1)
  have b2 := bv_lt f (8 * i + 2)
  have b3 := bv_lt f (8 * i + 3)
  have b4 := bv_lt f (8 * i + 4)
  have b5 := bv_lt f (8 * i + 5)
  have b6 := bv_lt f (8 * i + 6)
  have b7 := bv_lt f (8 * i + 7)
  have b0 := bv_lt f (8 * i)
  unfold pb pbyte
  simp only [bv_msk]
  have e1 : (2 : Int) ^ (7 - 6) % 256 = 2 := by decide
  rw [e1]
  simp (disch := omega) only [if_pos, if_neg, h1]
  rw [bits_join .u8 8 (by decide) u8_bits 2 _ _ (by omega) (by omega) (by omega) (by omega) (by omega) (by omega)]
  omega
theorem pb_step7 (f : Nat → Bool) (i : Nat) (hf : f (8 * i + 7) = true) : bits .or .u8 (pb f (8 * i + 7) i) (2 ^ (7 - 7) % 256) = pb f (8 * i + 7 + 1) i := by
  have h1 : bv f (8 * i + 7) = 1 := by unfold bv; rw [hf]; rfl
  have b1 := bv_lt f (8 * i + 1)
  have b2 := bv_lt f (8 * i + 2)
  have b3 := bv_lt f (8 * i + 3)
  have b4 := bv_lt f (8 * i + 4)
  have b5 := bv_lt f (8 * i + 5)
  have b6 := bv_lt f (8 * i + 6)
  have b7 := bv_lt f (8 * i + 7)
  have b0 := bv_lt f (8 * i)
  unfold pb pbyte
  simp only [bv_msk]
  have e1 : (2 : Int) ^ (7 - 7) % 256 = 1 := by decide
  rw [e1]
  simp (disch := omega) only [if_pos, if_neg, h1]
  rw [bits_join .u8 8 (by decide) u8_bits 1 _ _ (by omega) (by omega) (by omega) (by omega) (by omega) (by omega)]
  omega
theorem pb_step (f : Nat → Bool) (q : Nat) (hf : f q = true) : bits .or .u8 (pb f q (q / 8)) (2 ^ (7 - q % 8) % 256) = pb f (q + 1) (q / 8) := by
  obtain ⟨i, s, hs, rfl⟩ : ∃ i s, s < 8 ∧ q = 8 * i + s := ⟨q / 8, q % 8, by omega, by omega⟩
  rw [show (8 * i + s) / 8 = i by omega, show (8 * i + s) % 8 = s by omega]
  match s, hs with
  | 0, _ => exact pb_step0 f i hf
  | 1, _ => exact pb_step1 f i hf
  | 2, _ => exact pb_step2 f i hf
  | 3, _ => exact pb_step3 f i hf
  | 4, _ => exact pb_step4 f i hf
  | 5, _ => exact pb_step5 f i hf
  | 6, _ => exact pb_step6 f i hf
  | 7, _ => exact pb_step7 f i hf
  | s + 8, hs => omega
theorem pb_upd (f : Nat → Bool) (q : Nat) (hf : f q = true) : upd (pb f q) (q / 8) (bits .or .u8 (pb f q (q / 8)) (2 ^ (7 - q % 8) % 256)) = pb f (q + 1) := by
  rw [pb_step f q hf]
  funext i
  unfold upd
  by_cases h : i = q / 8
  · rw [if_pos h, h]
  · rw [if_neg h, pb_other f q i h]
theorem pb_full (f : Nat → Bool) (m i : Nat) (h : 8 * i + 8 ≤ m) : pb f m i = pbyte f i := by
  have e : ∀ s, s < 8 → bv (msk f m) (8 * i + s) = bv f (8 * i + s) := fun s hs => by rw [bv_msk, if_pos (by omega)]
  unfold pb pbyte
  have e0 := e 0 (by omega); simp only [Nat.add_zero] at e0
  rw [e0, e 1 (by omega), e 2 (by omega), e 3 (by omega), e 4 (by omega), e 5 (by omega), e 6 (by omega), e 7 (by omega)]
theorem pbyte_bt (b : Nat → Int) (hb : Bt b) (i : Nat) : pbyte (bt b) i = b i := by
  have hi := hb i
  have e : ∀ s, s < 8 → bv (bt b) (8 * i + s) = b i / 2 ^ (7 - s) % 2 := fun s hs => by
    unfold bv bt
    rw [show (8 * i + s) / 8 = i by omega, show (8 * i + s) % 8 = s by omega]
    by_cases h : b i / 2 ^ (7 - s) % 2 = 1
    · simp [h]
    · rw [if_neg (by simpa using h)]; omega
  unfold pbyte
  have e0 := e 0 (by omega); simp only [Nat.add_zero] at e0
  rw [e0, e 1 (by omega), e 2 (by omega), e 3 (by omega), e 4 (by omega), e 5 (by omega), e 6 (by omega), e 7 (by omega)]
  simp
  omega
/-- The bits from p on turned, where they were a 0 and then 1s: the number is greater by one. -/
theorem nb_up (f g : Nat → Bool) (p : Nat) (hp : ∀ j, j < p → g j = f j) (h0 : f p = false) (h1 : g p = true) : ∀ m, p < m → (∀ j, p < j → j < m → f j = true ∧ g j = false) → nb g m = nb f m + 1
  | 0, h, _ => by omega
  | m + 1, h, hr => by
    have same : ∀ k, k ≤ p → nb g k = nb f k := by
      intro k
      induction k with
      | zero => intro _; rfl
      | succ k ih => intro hk; simp only [nb, bv]; rw [ih (by omega), hp k (by omega)]
    simp only [nb]
    by_cases e : p = m
    · subst e
      rw [same p (Nat.le_refl _)]
      unfold bv; rw [h0, h1]; simp
    · rw [nb_up f g p hp h0 h1 m (by omega) (fun j a b => hr j a (by omega))]
      have := hr m (by omega) (by omega)
      unfold bv; rw [this.1, this.2]; simp; omega
/-- All bits are 1: it is the greatest number; all are 0. -/
theorem nb_ones (f : Nat → Bool) : ∀ m, (∀ j, j < m → f j = true) → nb f m = 2 ^ m - 1
  | 0, _ => rfl
  | m + 1, h => by
    simp only [nb]
    rw [nb_ones f m (fun j hj => h j (by omega))]
    unfold bv; rw [h m (by omega)]
    simp [Int.pow_succ]; omega
theorem nb_zeros (f : Nat → Bool) : ∀ m, (∀ j, j < m → f j = false) → nb f m = 0
  | 0, _ => rfl
  | m + 1, h => by
    simp only [nb]
    rw [nb_zeros f m (fun j hj => h j (by omega))]
    unfold bv; rw [h m (by omega)]; simp
theorem be4_nb (f : Nat → Bool) : be4f (pbyte f) 0 = nb f 32 := by
  have h0 := nb_byte f 0; have h1 := nb_byte f 1; have h2 := nb_byte f 2; have h3 := nb_byte f 3
  have z : nb f (8 * 0) = 0 := rfl
  rw [z] at h0
  unfold be4f be4
  simp only [Nat.zero_add, Nat.mul_zero, Nat.mul_one, Nat.reduceMul, Nat.reduceAdd] at h0 h1 h2 h3 ⊢
  omega
theorem be8_nb (f : Nat → Bool) : be8f (pbyte f) 0 * 18446744073709551616 + be8f (pbyte f) 8 = nb f 128 := by
  have h0 := nb_byte f 0
  have h1 := nb_byte f 1
  have h2 := nb_byte f 2
  have h3 := nb_byte f 3
  have h4 := nb_byte f 4
  have h5 := nb_byte f 5
  have h6 := nb_byte f 6
  have h7 := nb_byte f 7
  have h8 := nb_byte f 8
  have h9 := nb_byte f 9
  have h10 := nb_byte f 10
  have h11 := nb_byte f 11
  have h12 := nb_byte f 12
  have h13 := nb_byte f 13
  have h14 := nb_byte f 14
  have h15 := nb_byte f 15
  have z : nb f (8 * 0) = 0 := rfl
  rw [z] at h0
  unfold be8f be8
  simp only [Nat.zero_add, Nat.mul_zero, Nat.mul_one, Nat.reduceMul, Nat.reduceAdd] at h0 h1 h2 h3 h4 h5 h6 h7 h8 h9 h10 h11 h12 h13 h14 h15 ⊢
  omega
end Go.Proofs.YtmlkcgacneealaaDoor
