/- The text of an IPv6 address read from the left: the plain reader. -/
import Derived.Test.YtmlkcgacneealaaDoorPrs4
set_option linter.unusedVariables false
set_option linter.unusedSimpArgs false
namespace Go.Proofs.YtmlkcgacneealaaDoor
open Go.RowKit
/-- A hexadecimal digit; its value. -/
def hxd (c : Int) : Bool := decide (48 ≤ c ∧ c ≤ 57) || decide (97 ≤ c ∧ c ≤ 102) || decide (65 ≤ c ∧ c ≤ 70)
def hval (c : Int) : Int := if c ≤ 57 then c - 48 else if 97 ≤ c then c - 87 else c - 55
/-- How many digits a text begins with; the number that its first n digits make. -/
def hl (t : List Int) : Nat := (t.takeWhile hxd).length
def ha (t : List Int) (n : Nat) : Int := (t.take n).foldl (fun a c => a * 16 + hval c) 0
theorem hl_le (t : List Int) : hl t ≤ t.length := by
  unfold hl
  induction t with
  | nil => simp
  | cons a t ih =>
    rw [List.takeWhile_cons]
    split
    · simp; exact ih
    · simp
theorem hl_hex (t : List Int) (j : Nat) (h : j < hl t) : hxd (t.getD j 0) = true := by
  unfold hl at h
  induction t generalizing j with
  | nil => simp at h
  | cons a t ih =>
    rw [List.takeWhile_cons] at h
    split at h
    · rename_i ha
      cases j with
      | zero => simpa using ha
      | succ j => simp only [List.getD_cons_succ]; exact ih j (by simpa using h)
    · simp at h
theorem hl_not (t : List Int) (h : hl t < t.length) : hxd (t.getD (hl t) 0) = false := by
  unfold hl at h ⊢
  induction t with
  | nil => simp at h
  | cons a t ih =>
    rw [List.takeWhile_cons] at h ⊢
    split
    · rename_i ha
      rw [if_pos ha] at h
      simp only [List.length_cons, List.getD_cons_succ]
      exact ih (by simpa using h)
    · rename_i ha
      simpa using ha
theorem ha_zero (t : List Int) : ha t 0 = 0 := rfl
theorem ha_succ (t : List Int) (n : Nat) (h : n < t.length) : ha t (n + 1) = ha t n * 16 + hval (t.getD n 0) := by
  unfold ha
  rw [List.take_add_one, List.getElem?_eq_getElem h]
  simp only [Option.toList_some, List.foldl_append, List.foldl_cons, List.foldl_nil]
  rw [List.getD_eq_getElem?_getD, List.getElem?_eq_getElem h]
  rfl
theorem hval_lt (c : Int) (h : hxd c = true) : 0 ≤ hval c ∧ hval c < 16 := by
  unfold hxd at h
  simp only [Bool.or_eq_true, decide_eq_true_eq] at h
  unfold hval
  split
  · omega
  · split <;> omega
theorem ha_lt (t : List Int) : ∀ n, n ≤ hl t → 0 ≤ ha t n ∧ ha t n < 16 ^ n
  | 0, _ => by simp [ha]
  | n + 1, h => by
    have ih := ha_lt t n (by omega)
    have hl' := hl_le t
    have hv := hval_lt _ (hl_hex t n (by omega))
    rw [ha_succ t n (by omega), Int.pow_succ]
    omega
/-- A group's two bytes. -/
def put2 (f : Nat → Int) (i : Nat) (v : Int) : Nat → Int := upd (upd f i (v / 256)) (i + 1) (v % 256)
def put4 (f : Nat → Int) (i : Nat) (x : Nat → Int) : Nat → Int := upd (upd (upd (upd f i (x 0)) (i + 1) (x 1)) (i + 2) (x 2)) (i + 3) (x 3)
/-- The loop of the reader: what is left of the text, the place, the ellipsis, the bytes; none: two colons twice. Where the place is 99, nothing is said. Dotted decimal is read only if it is that of x. -/
def p6 (x : Nat → Int) : Nat → List Int → Nat → Option Nat → (Nat → Int) → Option (List Int × Nat × Option Nat × (Nat → Int))
  | 0, t, i, e, f => some (t, i, e, f)
  | n + 1, t, i, e, f =>
    if 4 < hl t then some ([], 99, e, f) else if hl t = 0 then some ([], 99, e, f) else
    if hl t < t.length ∧ t.getD (hl t) 0 = 46 then
      if t = tf x 0 3 ∧ (e = none → i = 12) ∧ i + 4 ≤ 16 then some ([], i + 4, e, put4 f i x) else some ([], 99, e, f)
    else
      let f' := put2 f i (ha t (hl t))
      let t1 := t.drop (hl t)
      if t1.length = 0 then some ([], i + 2, e, f')
      else if t1.getD 0 0 ≠ 58 then some ([], 99, e, f) else if t1.length = 1 then some ([], 99, e, f) else
        let t2 := t1.drop 1
        if t2.getD 0 0 = 58 then
          if e ≠ none then none else
          let t3 := t2.drop 1
          if t3.length = 0 then some ([], i + 2, some (i + 2), f') else p6 x n t3 (i + 2) (some (i + 2)) f'
        else p6 x n t2 (i + 2) e f'
/-- An end of which something is said. -/
def Ok6 (R : Option (List Int × Nat × Option Nat × (Nat → Int))) : Prop := ∀ t i e f, R = some (t, i, e, f) → t = [] ∧ i ≤ 16 ∧ (i < 16 → e ≠ none)
/-- The bytes with the ellipsis filled in. -/
def exp6 (f : Nat → Int) (i e : Nat) : Nat → Int := fun k => if k < e then f k else if k < e + (16 - i) then 0 else f (k - (16 - i))
/-- The end of the reader. -/
def fin6 : Option (List Int × Nat × Option Nat × (Nat → Int)) → Option (Nat → Int)
  | none => none
  | some (t, i, e, f) => if i < 16 then (match e with | none => none | some e => some (exp6 f i e)) else (match e with | none => some f | some _ => none)
/-- The whole reader, for a text without a percent sign. -/
def rd6 (x : Nat → Int) (T : List Int) : Option (Nat → Int) :=
  if 2 ≤ T.length ∧ T.getD 0 0 = 58 ∧ T.getD 1 0 = 58 then
    if (T.drop 2).length = 0 then some zb else fin6 (p6 x 8 (T.drop 2) 0 (some 0) zb)
  else fin6 (p6 x 8 T 0 none zb)
/-- Something is said of the text. -/
def ok6 (x : Nat → Int) (T : List Int) : Prop :=
  if 2 ≤ T.length ∧ T.getD 0 0 = 58 ∧ T.getD 1 0 = 58 then
    if (T.drop 2).length = 0 then True else Ok6 (p6 x 8 (T.drop 2) 0 (some 0) zb)
  else Ok6 (p6 x 8 T 0 none zb)
theorem ok_some {i : Nat} {e : Option Nat} {f : Nat → Int} (h : i ≤ 16) (k : i < 16 → e ≠ none) : Ok6 (some ([], i, e, f)) := by
  intro t i' e' f' h'
  simp only [Option.some.injEq, Prod.mk.injEq] at h'
  obtain ⟨rfl, rfl, rfl, rfl⟩ := h'
  exact ⟨rfl, h, k⟩
theorem ok_none : Ok6 none := fun _ _ _ _ h => by cases h
/-- One round of the reader: its six ways. -/
theorem p6_step (x : Nat → Int) (n : Nat) (t : List Int) (i : Nat) (e : Option Nat) (f : Nat → Int) (R : Option (List Int × Nat × Option Nat × (Nat → Int))) (h : p6 x (n + 1) t i e f = R) (hOk : Ok6 R) :
    1 ≤ hl t ∧ hl t ≤ 4 ∧
    ((hl t < t.length ∧ t.getD (hl t) 0 = 46 ∧ t = tf x 0 3 ∧ (e = none → i = 12) ∧ i + 4 ≤ 16 ∧ R = some ([], i + 4, e, put4 f i x))
    ∨ ((hl t < t.length → t.getD (hl t) 0 ≠ 46) ∧ (t.drop (hl t)).length = 0 ∧ R = some ([], i + 2, e, put2 f i (ha t (hl t))))
    ∨ ((hl t < t.length → t.getD (hl t) 0 ≠ 46) ∧ 1 < (t.drop (hl t)).length ∧ (t.drop (hl t)).getD 0 0 = 58 ∧ ((t.drop (hl t)).drop 1).getD 0 0 = 58 ∧ e ≠ none ∧ R = none)
    ∨ ((hl t < t.length → t.getD (hl t) 0 ≠ 46) ∧ 1 < (t.drop (hl t)).length ∧ (t.drop (hl t)).getD 0 0 = 58 ∧ ((t.drop (hl t)).drop 1).getD 0 0 = 58 ∧ e = none ∧ (((t.drop (hl t)).drop 1).drop 1).length = 0 ∧ R = some ([], i + 2, some (i + 2), put2 f i (ha t (hl t))))
    ∨ ((hl t < t.length → t.getD (hl t) 0 ≠ 46) ∧ 1 < (t.drop (hl t)).length ∧ (t.drop (hl t)).getD 0 0 = 58 ∧ ((t.drop (hl t)).drop 1).getD 0 0 = 58 ∧ e = none ∧ (((t.drop (hl t)).drop 1).drop 1).length ≠ 0 ∧ p6 x n (((t.drop (hl t)).drop 1).drop 1) (i + 2) (some (i + 2)) (put2 f i (ha t (hl t))) = R)
    ∨ ((hl t < t.length → t.getD (hl t) 0 ≠ 46) ∧ 1 < (t.drop (hl t)).length ∧ (t.drop (hl t)).getD 0 0 = 58 ∧ ((t.drop (hl t)).drop 1).getD 0 0 ≠ 58 ∧ p6 x n ((t.drop (hl t)).drop 1) (i + 2) e (put2 f i (ha t (hl t))) = R)) := by
  rw [p6] at h
  have bad : ∀ {e' : Option Nat} {f' : Nat → Int}, some ([], 99, e', f') = R → False := fun {e' f'} q => by
    have := (hOk _ _ _ _ q.symm).2.1; omega
  by_cases c1 : 4 < hl t
  · rw [if_pos c1] at h; exact (bad h).elim
  rw [if_neg c1] at h
  by_cases c2 : hl t = 0
  · rw [if_pos c2] at h; exact (bad h).elim
  rw [if_neg c2] at h
  refine ⟨by omega, by omega, ?_⟩
  by_cases c3 : hl t < t.length ∧ t.getD (hl t) 0 = 46
  · rw [if_pos c3] at h
    by_cases c4 : t = tf x 0 3 ∧ (e = none → i = 12) ∧ i + 4 ≤ 16
    · rw [if_pos c4] at h
      exact Or.inl ⟨c3.1, c3.2, c4.1, c4.2.1, c4.2.2, h.symm⟩
    · rw [if_neg c4] at h; exact (bad h).elim
  rw [if_neg c3] at h
  have c3' : hl t < t.length → t.getD (hl t) 0 ≠ 46 := fun a b => c3 ⟨a, b⟩
  dsimp only at h
  by_cases c5 : (t.drop (hl t)).length = 0
  · rw [if_pos c5] at h
    exact Or.inr (Or.inl ⟨c3', c5, h.symm⟩)
  rw [if_neg c5] at h
  by_cases c6 : (t.drop (hl t)).getD 0 0 ≠ 58
  · rw [if_pos c6] at h; exact (bad h).elim
  rw [if_neg c6] at h
  by_cases c7 : (t.drop (hl t)).length = 1
  · rw [if_pos c7] at h; exact (bad h).elim
  rw [if_neg c7] at h
  have c6' : (t.drop (hl t)).getD 0 0 = 58 := Decidable.not_not.1 c6
  by_cases c8 : ((t.drop (hl t)).drop 1).getD 0 0 = 58
  · rw [if_pos c8] at h
    by_cases c9 : e ≠ none
    · rw [if_pos c9] at h
      exact Or.inr (Or.inr (Or.inl ⟨c3', by omega, c6', c8, c9, h.symm⟩))
    rw [if_neg c9] at h
    have c9' : e = none := Decidable.not_not.1 c9
    by_cases c10 : (((t.drop (hl t)).drop 1).drop 1).length = 0
    · rw [if_pos c10] at h
      exact Or.inr (Or.inr (Or.inr (Or.inl ⟨c3', by omega, c6', c8, c9', c10, h.symm⟩)))
    · rw [if_neg c10] at h
      exact Or.inr (Or.inr (Or.inr (Or.inr (Or.inl ⟨c3', by omega, c6', c8, c9', c10, h⟩))))
  · rw [if_neg c8] at h
    exact Or.inr (Or.inr (Or.inr (Or.inr (Or.inr ⟨c3', by omega, c6', c8, h⟩))))
/-- What is left of the text is its end. -/
def Suf (T t : List Int) : Prop := t.length ≤ T.length ∧ T.drop (T.length - t.length) = t
theorem Suf.drop {T t : List Int} (h : Suf T t) (k : Nat) (hk : k ≤ t.length) : Suf T (t.drop k) := by
  refine ⟨by have := h.1; rw [List.length_drop]; omega, ?_⟩
  have e : T.length - (t.drop k).length = (T.length - t.length) + k := by have := h.1; rw [List.length_drop]; omega
  rw [e, ← List.drop_drop, h.2]
theorem Suf.refl (T : List Int) : Suf T T := ⟨Nat.le_refl _, by simp⟩
/-- The bytes behind place j moved up by n; a stretch cleared. -/
def shf (f : Nat → Int) (n j : Nat) : Nat → Int := fun m => if j + n ≤ m then f (m - n) else f m
def clr (f : Nat → Int) (o n : Nat) : Nat → Int := fun m => if o ≤ m ∧ m < o + n then 0 else f m
theorem shf_top (f : Nat → Int) (n j : Nat) (k : Nat) (hk : k < j + n) : shf f n j k = f k := by unfold shf; rw [if_neg (by omega)]
theorem shf_step (f : Nat → Int) (n j : Nat) : upd (shf f n (j + 1)) (j + n) (f j) = shf f n j := by
  funext m; unfold upd shf
  by_cases h : m = j + n
  · rw [if_pos h, if_pos (by omega), h, Nat.add_sub_cancel]
  · rw [if_neg h]
    by_cases h2 : j + n ≤ m
    · rw [if_pos h2, if_pos (by omega)]
    · rw [if_neg h2, if_neg (by omega)]
theorem clr_shf (f : Nat → Int) (i e : Nat) (h : i ≤ 16) : clr (shf f (16 - i) e) e (16 - i) = exp6 f i e := by
  funext m; unfold clr shf exp6
  by_cases h1 : m < e
  · rw [if_neg (by omega), if_neg (by omega), if_pos h1]
  · by_cases h2 : m < e + (16 - i)
    · rw [if_pos (by omega), if_neg h1, if_pos h2]
    · rw [if_neg (by omega), if_pos (by omega), if_neg h1, if_neg h2]
theorem clr_succ (f : Nat → Int) (o n : Nat) : clr (upd f o 0) (o + 1) n = clr f o (n + 1) := by
  funext m; unfold clr upd
  by_cases h1 : m = o
  · rw [if_neg (by omega), if_pos h1, if_pos (by omega)]
  · by_cases h2 : o + 1 ≤ m ∧ m < o + 1 + n
    · rw [if_pos h2, if_pos (by omega)]
    · rw [if_neg h2, if_neg h1, if_neg (by omega)]
theorem clr_zero (f : Nat → Int) (o : Nat) : clr f o 0 = f := by funext m; unfold clr; rw [if_neg (by omega)]
theorem ba_drop (s : List Int) (k : Nat) (h : k ≤ s.length) : (ba s).extract k (ba s).size = ba (s.drop k) := by
  apply ByteArray.ext
  rw [ByteArray.data_extract]
  simp [ba, ByteArray.size]
  exact List.take_of_length_le (by simp)
end Go.Proofs.YtmlkcgacneealaaDoor
