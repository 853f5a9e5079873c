/- Dotted decimal read from the left: which sign stands where, and what number the digits make. Plain. -/
import Derived.Test.YtmlkcgacneealaaDoorTxt6
set_option linter.unusedVariables false
set_option linter.unusedSimpArgs false
namespace Go.Proofs.YtmlkcgacneealaaDoor
open Go.RowKit
/-- The number that the first d digits make. -/
def dv (x : Int) (d : Nat) : Int := ((dec x).take d).foldl (fun v c => v * 10 + (c - 48)) 0
theorem dv_zero (x : Int) : dv x 0 = 0 := rfl
theorem dv_succ (x : Int) (d : Nat) (h : d < (dec x).length) : dv x (d + 1) = dv x d * 10 + ((dec x).getD d 0 - 48) := by
  unfold dv
  rw [List.take_add_one, List.getElem?_eq_getElem h]
  simp only [Option.toList_some, List.foldl_append, List.foldl_cons, List.foldl_nil]
  rw [List.getD_eq_getElem?_getD, List.getElem?_eq_getElem h]
  rfl
theorem decF : ∀ x : Fin 256, dv ((x.val : Nat) : Int) (dec ((x.val : Nat) : Int)).length = ((x.val : Nat) : Int) ∧ (∀ d : Fin 4, dv ((x.val : Nat) : Int) d.val ≤ 255 ∧ 0 ≤ dv ((x.val : Nat) : Int) d.val) ∧ (∀ d : Fin 3, d.val < (dec ((x.val : Nat) : Int)).length → 48 ≤ (dec ((x.val : Nat) : Int)).getD d.val 0 ∧ (dec ((x.val : Nat) : Int)).getD d.val 0 ≤ 57 ∧ (1 ≤ d.val → 1 ≤ dv ((x.val : Nat) : Int) d.val)) := by decide +kernel
theorem dv_all (x : Int) (h : 0 ≤ x ∧ x < 256) : dv x (dec x).length = x := by
  obtain ⟨n, rfl⟩ := Int.eq_ofNat_of_zero_le h.1
  exact (decF ⟨n, by omega⟩).1
theorem dv_le (x : Int) (h : 0 ≤ x ∧ x < 256) (d : Nat) (hd : d ≤ (dec x).length) : 0 ≤ dv x d ∧ dv x d ≤ 255 := by
  obtain ⟨n, rfl⟩ := Int.eq_ofNat_of_zero_le h.1
  have := dec_len ((n : Nat) : Int)
  have := (decF ⟨n, by omega⟩).2.1 ⟨d, by omega⟩
  exact ⟨this.2, this.1⟩
theorem dec_dig (x : Int) (h : 0 ≤ x ∧ x < 256) (d : Nat) (hd : d < (dec x).length) : 48 ≤ (dec x).getD d 0 ∧ (dec x).getD d 0 ≤ 57 ∧ (1 ≤ d → 1 ≤ dv x d) := by
  obtain ⟨n, rfl⟩ := Int.eq_ofNat_of_zero_le h.1
  have := dec_len ((n : Nat) : Int)
  exact (decF ⟨n, by omega⟩).2.2 ⟨d, by omega⟩ hd
/-- Fields p .. p + n with full stops between them. -/
def tf (x : Nat → Int) (p : Nat) : Nat → List Int
  | 0 => dec (x p)
  | n + 1 => dec (x p) ++ 46 :: tf x (p + 1) n
def offs (x : Nat → Int) : Nat → Nat
  | 0 => 0
  | p + 1 => offs x p + (dec (x p)).length + 1
theorem tf_drop (x : Nat → Int) : ∀ p n, (tf x 0 (p + n)).drop (offs x p) = tf x p n
  | 0, n => by simp [offs]
  | p + 1, n => by
    have h := tf_drop x p (n + 1)
    rw [show p + 1 + n = p + (n + 1) by omega]
    simp only [offs]
    rw [Nat.add_assoc, ← List.drop_drop, h]
    simp [tf]
theorem tf_dot4 (x : Nat → Int) : tf x 0 3 = dot4 (x 0) (x 1) (x 2) (x 3) := by simp [tf, dot4]
theorem getD_drop (l : List Int) (k d : Nat) : l.getD (k + d) 0 = (l.drop k).getD d 0 := by simp [List.getD_eq_getElem?_getD]
theorem tf_dig (x : Nat → Int) (p n d : Nat) (hd : d < (dec (x p)).length) : (tf x p n).getD d 0 = (dec (x p)).getD d 0 := by
  cases n with
  | zero => rfl
  | succ n => simp only [tf, List.getD_eq_getElem?_getD]; rw [List.getElem?_append_left hd]
theorem tf_dot (x : Nat → Int) (p n : Nat) : (tf x p (n + 1)).getD (dec (x p)).length 0 = 46 := by
  simp [tf, List.getD_eq_getElem?_getD]
theorem at_dig (x : Nat → Int) (p d : Nat) (hp : p ≤ 3) (hd : d < (dec (x p)).length) : (tf x 0 3).getD (offs x p + d) 0 = (dec (x p)).getD d 0 := by
  have h := tf_drop x p (3 - p)
  rw [show p + (3 - p) = 3 by omega] at h
  rw [getD_drop, h, tf_dig x p _ d hd]
theorem at_dot (x : Nat → Int) (p : Nat) (hp : p < 3) : (tf x 0 3).getD (offs x p + (dec (x p)).length) 0 = 46 := by
  have h := tf_drop x p (2 - p + 1)
  rw [show p + (2 - p + 1) = 3 by omega] at h
  rw [getD_drop, h, tf_dot]
theorem tf_len (x : Nat → Int) : (tf x 0 3).length = offs x 3 + (dec (x 3)).length := by
  simp [tf, offs]; omega
theorem offs_lt (x : Nat → Int) (p : Nat) (hp : p < 3) : offs x p + (dec (x p)).length + 1 ≤ offs x 3 := by
  have h0 := dec_len (x 0); have h1 := dec_len (x 1); have h2 := dec_len (x 2)
  match p, hp with
  | 0, _ => simp [offs]; omega
  | 1, _ => simp [offs]; omega
  | 2, _ => simp [offs]
  | p + 3, hp => omega
end Go.Proofs.YtmlkcgacneealaaDoor
