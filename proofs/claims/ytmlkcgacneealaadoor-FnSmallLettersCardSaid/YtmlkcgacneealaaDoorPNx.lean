/- Next and Prev: impl's and the reference's agree; FnNext, FnPrev return true. Conditions: the listed variables as laid. -/
import Derived.Test.YtmlkcgacneealaaDoorNum
import Derived.Test.YtmlkcgacneealaaDoorBeside
set_option linter.unusedVariables false
set_option linter.unusedSimpArgs false
namespace Go.Proofs.YtmlkcgacneealaaDoor
open Go.RowKit

theorem lastIdx_some {f : Nat → Bool} {last : Bool} : ∀ {m p : Nat}, lastIdx f last m = some p → p < m ∧ f p ≠ last ∧ ∀ j, p < j → j < m → f j = last
  | 0, _, h => by cases h
  | m + 1, p, h => by
    unfold lastIdx at h
    by_cases c : f m = last
    · rw [if_pos c] at h
      obtain ⟨h1, h2, h3⟩ := lastIdx_some h
      refine ⟨by omega, h2, fun j a b => ?_⟩
      by_cases e : j = m
      · rw [e]; exact c
      · exact h3 j a (by omega)
    · rw [if_neg c] at h
      cases h
      exact ⟨by omega, c, fun j a b => by omega⟩
theorem lastIdx_none {f : Nat → Bool} {last : Bool} : ∀ {m : Nat}, lastIdx f last m = none → ∀ j, j < m → f j = last
  | 0, _, j, hj => by omega
  | m + 1, h, j, hj => by
    unfold lastIdx at h
    by_cases c : f m = last
    · rw [if_pos c] at h
      by_cases e : j = m
      · rw [e]; exact c
      · exact lastIdx_none h j (by omega)
    · rw [if_neg c] at h; cases h
theorem bool_ne_t {x : Bool} (h : x ≠ true) : x = false := by cases x <;> simp_all
theorem bool_ne_f {x : Bool} (h : x ≠ false) : x = true := by cases x <;> simp_all
theorem nb_next {f : Nat → Bool} {m p : Nat} (h : lastIdx f true m = some p) : nb (fl f p) m = nb f m + 1 := by
  obtain ⟨h1, h2, h3⟩ := lastIdx_some h
  have h2' := bool_ne_t h2
  refine nb_up f (fl f p) p (fun j hj => by simp [fl, hj]) h2' (by simp [fl, h2']) m h1 (fun j a b => ⟨h3 j a b, ?_⟩)
  simp [fl, Nat.not_lt.2 (Nat.le_of_lt a), h3 j a b]
theorem nb_prev {f : Nat → Bool} {m p : Nat} (h : lastIdx f false m = some p) : nb f m = nb (fl f p) m + 1 := by
  obtain ⟨h1, h2, h3⟩ := lastIdx_some h
  have h2' := bool_ne_f h2
  refine nb_up (fl f p) f p (fun j hj => by simp [fl, hj]) (by simp [fl, h2']) h2' m h1 (fun j a b => ⟨?_, h3 j a b⟩)
  simp [fl, Nat.not_lt.2 (Nat.le_of_lt a), h3 j a b]
theorem be4f_congr {b c : Nat → Int} (h : ∀ i, i < 4 → b i = c i) : be4f b 0 = be4f c 0 := by
  unfold be4f; rw [h _ (by omega), h _ (by omega), h _ (by omega), h _ (by omega)]
theorem be8f_congr {b c : Nat → Int} (k : Nat) (h : ∀ i, i < k + 8 → b i = c i) : be8f b k = be8f c k := by
  unfold be8f; rw [h _ (by omega), h _ (by omega), h _ (by omega), h _ (by omega), h _ (by omega), h _ (by omega), h _ (by omega), h _ (by omega)]
theorem be4_bt {b : Nat → Int} (hb : Bt b) : be4f b 0 = nb (bt b) 32 := by
  rw [← be4_nb]; exact be4f_congr fun i _ => (pbyte_bt b hb i).symm
theorem be4_pb (f : Nat → Bool) : be4f (pb f 32) 0 = nb f 32 := by
  rw [← be4_nb]; exact be4f_congr fun i hi => pb_full f 32 i (by omega)
/-- The number of sixteen bytes. -/
def v16 (b : Nat → Int) : Int := be8f b 0 * 18446744073709551616 + be8f b 8
theorem v16_congr {b c : Nat → Int} (h : ∀ i, i < 16 → b i = c i) : v16 b = v16 c := by
  unfold v16; rw [be8f_congr 0 (fun i hi => h i (by omega)), be8f_congr 8 (fun i hi => h i (by omega))]
theorem v16_bt {b : Nat → Int} (hb : Bt b) : v16 b = nb (bt b) 128 := by
  rw [← be8_nb]; exact v16_congr (c := pbyte (bt b)) fun i _ => (pbyte_bt b hb i).symm
theorem v16_pb (f : Nat → Bool) : v16 (pb f 128) = nb f 128 := by
  rw [← be8_nb]; exact v16_congr (c := pbyte f) fun i hi => pb_full f 128 i (by omega)
theorem Bt_pb (f : Nat → Bool) (m : Nat) : Bt (pb f m) := Bt_pbyte _
theorem nb_lt (f : Nat → Bool) : ∀ m, 0 ≤ nb f m ∧ nb f m < 2 ^ m
  | 0 => by simp [nb]
  | m + 1 => by
    have h := nb_lt f m
    have h1 := bv_lt f m
    simp only [nb, Int.pow_succ]
    omega
theorem eql29_bres (n : Int) (m : Nat) (f : Nat → Bool) (z : ByteArray) (last : Bool) (w : World) : (binOp .eql 29 (.agg (bres n m f z last)) (.agg (bres n m f z last))).run Tryd.prog w = .ok (.bool true) w := by
  unfold bres
  split <;> (rw [eqlT29]; congr 2; exact (adrEq_iff _ _ _ _ _ _).2 ⟨rfl, fun _ _ => rfl, rfl⟩)
attribute [go_sem ↓] eql29_bres
attribute [go_sem 3000] eql29_bres
theorem ia_bres (n : Int) (m : Nat) (f : Nat → Bool) (z : ByteArray) (last : Bool) (w : World) :
    Calls Tryd.prog 27 #[.agg (bres n m f z last)] w fun e w' => e = .returned (.agg (bres n m f z last)) ∧ Below w.heap.size w w' := by
  unfold bres
  split <;> exact ia_any _ _ _ w
theorem next4_s {b : Nat → Int} (hb : Bt b) {p : Nat} (h : lastIdx (bt b) true 32 = some p) : adr 4 (b4of (281470681743360 + be4f b 0 + 1)) ⟨#[]⟩ = adr 4 (pb (fl (bt b) p) 32) ⟨#[]⟩ ∧ be4f b 0 + 1 < 4294967296 := by
  have h1 := nb_next h
  have h2 := be4f_lt (Bt_pb (fl (bt b) p) 32) 0
  rw [be4_bt hb]
  rw [be4_pb] at h2
  refine ⟨?_, by omega⟩
  have h3 := b4of_be4 (Bt_pb (fl (bt b) p) 32)
  rw [be4_pb, pre4_pb] at h3
  rw [show 281470681743360 + nb (bt b) 32 + 1 = 281470681743360 + nb (fl (bt b) p) 32 by omega, h3]
theorem next4_n {b : Nat → Int} (hb : Bt b) (h : lastIdx (bt b) true 32 = none) : be4f b 0 = 4294967295 := by
  rw [be4_bt hb, nb_ones _ _ (lastIdx_none h)]; decide
theorem prev4_s {b : Nat → Int} (hb : Bt b) {p : Nat} (h : lastIdx (bt b) false 32 = some p) : adr 4 (b4of (281470681743360 + be4f b 0 - 1)) ⟨#[]⟩ = adr 4 (pb (fl (bt b) p) 32) ⟨#[]⟩ ∧ 1 ≤ be4f b 0 := by
  have h1 := nb_prev h
  have h2 := be4f_lt (Bt_pb (fl (bt b) p) 32) 0
  rw [be4_bt hb]
  rw [be4_pb] at h2
  refine ⟨?_, by omega⟩
  have h3 := b4of_be4 (Bt_pb (fl (bt b) p) 32)
  rw [be4_pb, pre4_pb] at h3
  rw [show 281470681743360 + nb (bt b) 32 - 1 = 281470681743360 + nb (fl (bt b) p) 32 by omega, h3]
theorem prev4_n {b : Nat → Int} (hb : Bt b) (h : lastIdx (bt b) false 32 = none) : be4f b 0 = 0 := by
  rw [be4_bt hb, nb_zeros _ _ (lastIdx_none h)]
theorem adr16_pb (f : Nat → Bool) : adr 16 (b16of (be8f (pb f 128) 0) (be8f (pb f 128) 8)) ⟨#[]⟩ = adr 16 (pb f 128) ⟨#[]⟩ := by
  rw [b16of_be8 (Bt_pb f 128), adr_pre16]
theorem next16_s {b : Nat → Int} (hb : Bt b) {p : Nat} (h : lastIdx (bt b) true 128 = some p) : v16 (pb (fl (bt b) p) 128) = v16 b + 1 := by
  rw [v16_pb, v16_bt hb]; exact nb_next h
theorem next16_n {b : Nat → Int} (hb : Bt b) (h : lastIdx (bt b) true 128 = none) : v16 b = 340282366920938463463374607431768211455 := by
  rw [v16_bt hb, nb_ones _ _ (lastIdx_none h)]; decide
theorem prev16_s {b : Nat → Int} (hb : Bt b) {p : Nat} (h : lastIdx (bt b) false 128 = some p) : v16 (pb (fl (bt b) p) 128) = v16 b - 1 := by
  rw [v16_pb, v16_bt hb, nb_prev h]; omega
theorem prev16_n {b : Nat → Int} (hb : Bt b) (h : lastIdx (bt b) false 128 = none) : v16 b = 0 := by
  rw [v16_bt hb, nb_zeros _ _ (lastIdx_none h)]
end Go.Proofs.YtmlkcgacneealaaDoor
