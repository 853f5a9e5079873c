/- The reference's clear and usual. Conditions: the text is of bytes and not too long. The reference's Parsed. Conditions: the text is of bytes and not too long. -/
import Derived.Test.YtmlkcgacneealaaDoorZc
import Derived.Test.YtmlkcgacneealaaDoorSpcK
set_option linter.unusedVariables false
set_option linter.unusedSimpArgs false
namespace Go.Proofs.YtmlkcgacneealaaDoor
open Go.RowKit
set_option maxHeartbeats 4000000 in
set_option maxRecDepth 100000 in
theorem sclear (n : Int) (b : Nat → Int) (z : ByteArray) (pl : Bool) (w : World) : Calls Tryd.prog 124 #[.agg (adr n b z), .bool pl] w fun e w' => e = .returned (if pl = true then .tuple #[.agg (adr n b z), .bool true, .bool true] else .tuple #[.agg (adr 0 zb ⟨#[]⟩), .bool false, .bool false]) ∧ Below w.heap.size w w' := by
  go_enter Tryd.func124, Tryd.ntmps124
  cases pl
  · go_wp2
    refine bodyPost_ret (res25tt Tryd.results124 _ _ (w.heap.size + 1) _ rfl ?_ rfl) rfl ⟨rfl, (by repeat' (first | (with_reducible exact Below.refl _ _) | (with_reducible assumption) | (with_reducible refine Below.alloc ?_ ?_ _) | (with_reducible refine Below.drew ?_) | (with_reducible refine below_drewN ?_ _) | (with_reducible refine Below.setCell ?_ ?_ _) | (with_reducible refine below_setRow' ?_ ?_ _) | go_size))⟩
    go_simp
  · go_wp2
    refine bodyPost_ret (res25tt Tryd.results124 _ _ (w.heap.size + 1) _ rfl ?_ rfl) rfl ⟨rfl, (by repeat' (first | (with_reducible exact Below.refl _ _) | (with_reducible assumption) | (with_reducible refine Below.alloc ?_ ?_ _) | (with_reducible refine Below.drew ?_) | (with_reducible refine below_drewN ?_ _) | (with_reducible refine Below.setCell ?_ ?_ _) | (with_reducible refine below_setRow' ?_ ?_ _) | go_size))⟩
    go_simp

/-- A letter or a digit. -/
def aln (c : Int) : Bool := decide (48 ≤ c ∧ c ≤ 57) || decide (97 ≤ c ∧ c ≤ 122) || decide (65 ≤ c ∧ c ≤ 90)
def us (z : List Int) : Bool := !z.isEmpty && z.all aln
theorem aln_true {c : Int} (h : (48 ≤ c ∧ c ≤ 57) ∨ (97 ≤ c ∧ c ≤ 122) ∨ (65 ≤ c ∧ c ≤ 90)) : aln c = true := by
  unfold aln; simp only [Bool.or_eq_true, decide_eq_true_eq]; omega
theorem aln_false {c : Int} (h : ¬ ((48 ≤ c ∧ c ≤ 57) ∨ (97 ≤ c ∧ c ≤ 122) ∨ (65 ≤ c ∧ c ≤ 90))) : aln c = false := by
  unfold aln; simp only [Bool.or_eq_false_iff, decide_eq_false_iff_not]; omega
theorem us_bad (z : List Int) (i : Nat) (hi : i < z.length) (h : aln (z.getD i 0) = false) : us z = false := by
  unfold us
  have : z.all aln = false := by
    rw [Bool.eq_false_iff]
    intro k
    have := List.all_eq_true.1 k (z.getD i 0) (by rw [List.getD_eq_getElem?_getD, List.getElem?_eq_getElem hi]; exact List.getElem_mem hi)
    rw [h] at this; cases this
  rw [this, Bool.and_false]
theorem us_ok (z : List Int) (h : ∀ j, j < z.length → aln (z.getD j 0) = true) : us z = !z.isEmpty := by
  unfold us
  have : z.all aln = true := List.all_eq_true.2 (fun x hx => by
    obtain ⟨j, hj, rfl⟩ := List.mem_iff_getElem.1 hx
    have := h j hj
    rwa [List.getD_eq_getElem?_getD, List.getElem?_eq_getElem hj, Option.getD_some] at this)
  rw [this, Bool.and_true]
set_option maxHeartbeats 4000000 in
set_option maxRecDepth 100000 in
theorem susual (z : List Int) (hB : By z) (hs : z.length ≤ 1048576) (w : World) : Calls Tryd.prog 126 #[.string (ba z)] w fun e w' => e = .returned (.bool (us z)) ∧ Below w.heap.size w w' := by
  have HSz := Lib.hid (ba_size z)
  have HB := Lib.hid hB
  have hsm : (((ba z).size : Nat) : Int) ≤ 1048576 := by rw [ba_size]; omega
  clear hB
  go_enter Tryd.func126, Tryd.ntmps126
  go_wp2
  go_loopw [2, 3, 4, 7] (fun v2 v3 v4 v7 wr => ∃ i : Nat, i ≤ z.length ∧ (∀ j, j < i → aln (z.getD j 0) = true) ∧ v2 = .bool false ∧ v7 = .int .i64 (i : Int) ∧ w = wr) (fun _ _ _ v7 _ => z.length - (intOf v7).toNat)
  case atStart => exact ⟨0, by omega, fun j hj => absurd hj (by omega), rfl, rfl, rfl⟩
  case round =>
    obtain ⟨i, hi, hok, rfl, rfl, rfl⟩ := hrel
    have hsz := HSz.out
    have HOk := Lib.hid hok
    have hi0 : (0 : Int) ≤ (i : Int) := by omega
    clear hok
    by_cases hlt : i < z.length
    · have hil : i < (ba z).size := by omega
      have hi1 : (i : Int) < (((ba z).size : Nat) : Int) := by omega
      have hcv := ba_get z HB.out i hil
      obtain ⟨ch, hch⟩ : ∃ ch : Int, ch = z.getD i 0 := ⟨_, rfl⟩
      rw [← hch] at hcv
      have HCh := Lib.hid hch
      clear hch hsz
      have hcase : (ch < 48) ∨ (48 ≤ ch ∧ ch ≤ 57) ∨ (58 ≤ ch ∧ ch ≤ 64) ∨ (65 ≤ ch ∧ ch ≤ 90) ∨ (91 ≤ ch ∧ ch ≤ 96) ∨ (97 ≤ ch ∧ ch ≤ 122) ∨ (123 ≤ ch) := by omega
      rcases hcase with c | c | c | c | c | c | c
      · have f0 : ch < 48 := by omega
        have f1 : ¬ (57 < ch) := by omega
        have f2 : ch < 97 := by omega
        have f3 : ¬ (122 < ch) := by omega
        have f4 : ch < 65 := by omega
        have f5 : ¬ (90 < ch) := by omega
        have HR := Lib.hid (us_bad z i hlt (by rw [← HCh.out]; exact aln_false (by omega)))
        clear c
        go_wp2
        go_ret
        exact ⟨by rw [HR.out]; rfl, Below.refl _ _⟩
      · have f0 : ¬ (ch < 48) := by omega
        have f1 : ¬ (57 < ch) := by omega
        have f2 : ch < 97 := by omega
        have f3 : ¬ (122 < ch) := by omega
        have f4 : ch < 65 := by omega
        have f5 : ¬ (90 < ch) := by omega
        have HR := Lib.hid (show ∀ j, j < i + 1 → aln (z.getD j 0) = true from fun j hj => by
          by_cases q : j = i
          · rw [q, ← HCh.out]; exact aln_true (by omega)
          · exact HOk.out j (by omega))
        clear c
        go_wp2
        go_roundw
        case rel => exact ⟨i + 1, by omega, HR.out, rfl, by go_num, trivial⟩
        case measure => simp [intOf]; omega
      · have f0 : ¬ (ch < 48) := by omega
        have f1 : 57 < ch := by omega
        have f2 : ch < 97 := by omega
        have f3 : ¬ (122 < ch) := by omega
        have f4 : ch < 65 := by omega
        have f5 : ¬ (90 < ch) := by omega
        have HR := Lib.hid (us_bad z i hlt (by rw [← HCh.out]; exact aln_false (by omega)))
        clear c
        go_wp2
        go_ret
        exact ⟨by rw [HR.out]; rfl, Below.refl _ _⟩
      · have f0 : ¬ (ch < 48) := by omega
        have f1 : 57 < ch := by omega
        have f2 : ch < 97 := by omega
        have f3 : ¬ (122 < ch) := by omega
        have f4 : ¬ (ch < 65) := by omega
        have f5 : ¬ (90 < ch) := by omega
        have HR := Lib.hid (show ∀ j, j < i + 1 → aln (z.getD j 0) = true from fun j hj => by
          by_cases q : j = i
          · rw [q, ← HCh.out]; exact aln_true (by omega)
          · exact HOk.out j (by omega))
        clear c
        go_wp2
        go_roundw
        case rel => exact ⟨i + 1, by omega, HR.out, rfl, by go_num, trivial⟩
        case measure => simp [intOf]; omega
      · have f0 : ¬ (ch < 48) := by omega
        have f1 : 57 < ch := by omega
        have f2 : ch < 97 := by omega
        have f3 : ¬ (122 < ch) := by omega
        have f4 : ¬ (ch < 65) := by omega
        have f5 : 90 < ch := by omega
        have HR := Lib.hid (us_bad z i hlt (by rw [← HCh.out]; exact aln_false (by omega)))
        clear c
        go_wp2
        go_ret
        exact ⟨by rw [HR.out]; rfl, Below.refl _ _⟩
      · have f0 : ¬ (ch < 48) := by omega
        have f1 : 57 < ch := by omega
        have f2 : ¬ (ch < 97) := by omega
        have f3 : ¬ (122 < ch) := by omega
        have f4 : ¬ (ch < 65) := by omega
        have f5 : 90 < ch := by omega
        have HR := Lib.hid (show ∀ j, j < i + 1 → aln (z.getD j 0) = true from fun j hj => by
          by_cases q : j = i
          · rw [q, ← HCh.out]; exact aln_true (by omega)
          · exact HOk.out j (by omega))
        clear c
        go_wp2
        go_roundw
        case rel => exact ⟨i + 1, by omega, HR.out, rfl, by go_num, trivial⟩
        case measure => simp [intOf]; omega
      · have f0 : ¬ (ch < 48) := by omega
        have f1 : 57 < ch := by omega
        have f2 : ¬ (ch < 97) := by omega
        have f3 : 122 < ch := by omega
        have f4 : ¬ (ch < 65) := by omega
        have f5 : 90 < ch := by omega
        have HR := Lib.hid (us_bad z i hlt (by rw [← HCh.out]; exact aln_false (by omega)))
        clear c
        go_wp2
        go_ret
        exact ⟨by rw [HR.out]; rfl, Below.refl _ _⟩
    · have hi1 : ¬ ((i : Int) < (((ba z).size : Nat) : Int)) := by omega
      obtain rfl : i = z.length := by omega
      have hem := ba_emp z
      have HR := Lib.hid (us_ok z HOk.out)
      clear hsz
      go_wp2
      go_ret
      exact ⟨by rw [HR.out]; rfl, Below.refl _ _⟩
end Go.Proofs.YtmlkcgacneealaaDoor
set_option linter.unusedVariables false
set_option linter.unusedSimpArgs false
namespace Go.Proofs.YtmlkcgacneealaaDoor
open Go.RowKit

theorem ssix (s : List Int) (hB : By s) (hs : s.length ≤ 1048576) (w : World) : Calls Tryd.prog 125 #[.string (ba s)] w fun e w' => e = .returned (adrV 16 (sx s)) ∧ Below w.heap.size w w' := by
  match h : cc s with
  | [] => exact six_none s hB hs h w
  | [q] => exact six_one s hB hs q h w
  | a :: b :: r => exact six_many s hB hs (by rw [h]; simp) w
/-- What Parsed says of a text: nothing that counts, or an IPv4 address, an IPv6 address without a zone, or none. -/
def PsdV (s : List Int) (n : Int) (b : Nat → Int) (z : List Int) (fx ok : Bool) : Prop :=
  (z ≠ [] ∨ fx = false) ∨ (z = [] ∧ fx = true ∧ ok = true ∧ n = 4 ∧ qd s = some (b, true)) ∨ (z = [] ∧ fx = true ∧ ok = true ∧ n = 16 ∧ (∀ c ∈ s, c ≠ 37) ∧ sx s = some (b, true)) ∨
  (z = [] ∧ fx = true ∧ ok = false ∧ n = 0 ∧ b = zb ∧ ((∀ c ∈ s, c ≠ 37) ∧ qd s = none ∧ sx s = none ∨ ∃ p r, (∀ c ∈ p, c ≠ 37) ∧ s = p ++ 37 :: r ∧ sx p = none))
def PsdR (s : List Int) (w : World) (e : Ending) (w' : World) : Prop := (∃ n b z fx ok, e = .returned (.tuple #[.agg (adr n b (ba z)), .bool fx, .bool ok]) ∧ PsdV s n b z fx ok) ∧ Below w.heap.size w w'
theorem PsdR_no {s : List Int} {w w' : World} {e : Ending} {n : Int} {b : Nat → Int} {ok : Bool} (h : e = .returned (.tuple #[.agg (adr n b ⟨#[]⟩), .bool false, .bool ok])) (hb : Below w.heap.size w w') : PsdR s w e w' :=
  ⟨⟨n, b, [], false, ok, h, Or.inl (Or.inr rfl)⟩, hb⟩
theorem PsdR_zone {s z : List Int} {w w' : World} {e : Ending} {n : Int} {b : Nat → Int} {fx ok : Bool} (hz : z ≠ []) (h : e = .returned (.tuple #[.agg (adr n b (ba z)), .bool fx, .bool ok])) (hb : Below w.heap.size w w') : PsdR s w e w' :=
  ⟨⟨n, b, z, fx, ok, h, Or.inl (Or.inl hz)⟩, hb⟩
theorem PsdR_4 {s : List Int} {w w' : World} {e : Ending} {b : Nat → Int} (hq : qd s = some (b, true)) (h : e = .returned (.tuple #[.agg (adr 4 b ⟨#[]⟩), .bool true, .bool true])) (hb : Below w.heap.size w w') : PsdR s w e w' :=
  ⟨⟨4, b, [], true, true, h, Or.inr (Or.inl ⟨rfl, rfl, rfl, rfl, hq⟩)⟩, hb⟩
theorem PsdR_16 {s : List Int} {w w' : World} {e : Ending} {b : Nat → Int} (h37 : ∀ c ∈ s, c ≠ 37) (hq : sx s = some (b, true)) (h : e = .returned (.tuple #[.agg (adr 16 b ⟨#[]⟩), .bool true, .bool true])) (hb : Below w.heap.size w w') : PsdR s w e w' :=
  ⟨⟨16, b, [], true, true, h, Or.inr (Or.inr (Or.inl ⟨rfl, rfl, rfl, rfl, h37, hq⟩))⟩, hb⟩
theorem PsdR_0 {s : List Int} {w w' : World} {e : Ending} (hq : (∀ c ∈ s, c ≠ 37) ∧ qd s = none ∧ sx s = none ∨ ∃ p r, (∀ c ∈ p, c ≠ 37) ∧ s = p ++ 37 :: r ∧ sx p = none) (h : e = .returned (.tuple #[.agg (adr 0 zb ⟨#[]⟩), .bool true, .bool false])) (hb : Below w.heap.size w w') : PsdR s w e w' :=
  ⟨⟨0, zb, [], true, false, h, Or.inr (Or.inr (Or.inr ⟨rfl, rfl, rfl, rfl, rfl, hq⟩))⟩, hb⟩
theorem adrV_some (n : Int) (x : Nat → Int) (pl : Bool) : adrV n (some (x, pl)) = .tuple #[.agg (adr n x ⟨#[]⟩), .bool pl, .bool true] := rfl
theorem adrV_none (n : Int) : adrV n none = .tuple #[.agg (adr 0 zb ⟨#[]⟩), .bool false, .bool false] := rfl
set_option maxHeartbeats 4000000 in
set_option maxRecDepth 100000 in
theorem parsedA (s : List Int) (hB : By s) (hs : s.length ≤ 1048576) (h37 : ∀ c ∈ s, c ≠ 37) (w : World) : Calls Tryd.prog 67 #[.string (ba s)] w (PsdR s w) := by
  have HB := Lib.hid hB
  have H37 := Lib.hid h37
  have HSp := Lib.hid (spl_no 37 s h37)
  clear hB h37
  go_enter Tryd.func67, Tryd.ntmps67
  go_upto_region 2 with (first
    | (go_at_call 122; (with_reducible refine (ssplit 37 (by omega) s.length s rfl HB.out hs _).mono ?_); rintro e w1 ⟨vr, rfl, hvr, hb1⟩))
  have k01 : blk? w1 w.heap.size = some (adr 0 zb ⟨#[]⟩) := by rw [blk?_below hb1 _ (by simp)]; go_simp
  have hB1 := below_via (w := w) (by repeat' (first | (with_reducible exact Below.refl _ _) | (with_reducible assumption) | (with_reducible refine Below.alloc ?_ ?_ _) | (with_reducible refine Below.drew ?_) | (with_reducible refine below_drewN ?_ _) | (with_reducible refine Below.setCell ?_ ?_ _) | (with_reducible refine below_setRow' ?_ ?_ _) | go_size)) hb1
  rw [HSp.out] at hvr
  obtain ⟨a1, c1, rfl⟩ := owns_shape hvr
  have hl0 := blk?_lt k01
  rw [show ([s] : List (List Int)).length = 1 from rfl]
  clear hvr hb1
  have HQ := Lib.hid (squad s HB.out hs)
  have H6 := Lib.hid (ssix s HB.out hs)
  cases hq : qd s with
  | some u =>
    obtain ⟨x, pl⟩ := u
    rw [hq, adrV_some] at HQ
    cases pl
    · clear hq
      go_wp2_with (first
        | (go_at_call 123; (with_reducible refine (HQ.out _).mono ?_); rintro e w2 ⟨rfl, hb1⟩; have hk1 := blk?_below hb1; (try simp only [size_drew', size_drewN'] at hk1); have hB1 := below_via (w := w) (by repeat' (first | (with_reducible exact Below.refl _ _) | (with_reducible assumption) | (with_reducible refine Below.alloc ?_ ?_ _) | (with_reducible refine Below.drew ?_) | (with_reducible refine below_drewN ?_ _) | (with_reducible refine Below.setCell ?_ ?_ _) | (with_reducible refine below_setRow' ?_ ?_ _) | go_size)) hb1; have hL0 : w.heap.size < w2.heap.size := (by have hS0 := hb1.size; (try simp at hS0); omega); have hLe : w.heap.size ≤ w2.heap.size := hB1.size; clear hb1)
        | (go_at_call 124; (with_reducible refine (sclear 4 x ⟨#[]⟩ false _).mono ?_); rintro e w3 ⟨rfl, hb1⟩; simp only [Bool.false_eq_true, if_false, reduceIte]; have hk1 := blk?_below hb1; (try simp only [size_drew', size_drewN'] at hk1); have hB1 := below_via (w := w) (by repeat' (first | (with_reducible exact Below.refl _ _) | (with_reducible assumption) | (with_reducible refine Below.alloc ?_ ?_ _) | (with_reducible refine Below.drew ?_) | (with_reducible refine below_drewN ?_ _) | (with_reducible refine Below.setCell ?_ ?_ _) | (with_reducible refine below_setRow' ?_ ?_ _) | go_size)) hb1; have hL0 : w.heap.size < w3.heap.size := (by have hS0 := hb1.size; (try simp at hS0); omega); have hLe : w.heap.size ≤ w3.heap.size := hB1.size; clear hb1))
      refine bodyPost_ret (res25tt Tryd.results67 _ _ w.heap.size _ rfl ?_ rfl) rfl (PsdR_no (n := 0) (b := zb) rfl (by repeat' (first | (with_reducible exact Below.refl _ _) | (with_reducible assumption) | (with_reducible refine Below.alloc ?_ ?_ _) | (with_reducible refine Below.drew ?_) | (with_reducible refine below_drewN ?_ _) | (with_reducible refine Below.setCell ?_ ?_ _) | (with_reducible refine below_setRow' ?_ ?_ _) | go_size)))
      go_simp
    · have HV := Lib.hid hq
      clear hq
      go_wp2_with (first
        | (go_at_call 123; (with_reducible refine (HQ.out _).mono ?_); rintro e w2 ⟨rfl, hb1⟩; have hk1 := blk?_below hb1; (try simp only [size_drew', size_drewN'] at hk1); have hB1 := below_via (w := w) (by repeat' (first | (with_reducible exact Below.refl _ _) | (with_reducible assumption) | (with_reducible refine Below.alloc ?_ ?_ _) | (with_reducible refine Below.drew ?_) | (with_reducible refine below_drewN ?_ _) | (with_reducible refine Below.setCell ?_ ?_ _) | (with_reducible refine below_setRow' ?_ ?_ _) | go_size)) hb1; have hL0 : w.heap.size < w2.heap.size := (by have hS0 := hb1.size; (try simp at hS0); omega); have hLe : w.heap.size ≤ w2.heap.size := hB1.size; clear hb1)
        | (go_at_call 124; (with_reducible refine (sclear 4 x ⟨#[]⟩ true _).mono ?_); rintro e w3 ⟨rfl, hb1⟩; simp only [if_true, reduceIte]; have hk1 := blk?_below hb1; (try simp only [size_drew', size_drewN'] at hk1); have hB1 := below_via (w := w) (by repeat' (first | (with_reducible exact Below.refl _ _) | (with_reducible assumption) | (with_reducible refine Below.alloc ?_ ?_ _) | (with_reducible refine Below.drew ?_) | (with_reducible refine below_drewN ?_ _) | (with_reducible refine Below.setCell ?_ ?_ _) | (with_reducible refine below_setRow' ?_ ?_ _) | go_size)) hb1; have hL0 : w.heap.size < w3.heap.size := (by have hS0 := hb1.size; (try simp at hS0); omega); have hLe : w.heap.size ≤ w3.heap.size := hB1.size; clear hb1))
      refine bodyPost_ret (res25tt Tryd.results67 _ _ w.heap.size _ rfl ?_ rfl) rfl (PsdR_4 HV.out rfl (by repeat' (first | (with_reducible exact Below.refl _ _) | (with_reducible assumption) | (with_reducible refine Below.alloc ?_ ?_ _) | (with_reducible refine Below.drew ?_) | (with_reducible refine below_drewN ?_ _) | (with_reducible refine Below.setCell ?_ ?_ _) | (with_reducible refine below_setRow' ?_ ?_ _) | go_size)))
      go_simp
  | none =>
    rw [hq, adrV_none] at HQ
    cases hx : sx s with
    | none =>
      rw [hx, adrV_none] at H6
      have HV := Lib.hid (And.intro H37.out (And.intro hq hx))
      clear hq hx
      go_wp2_with (first
        | (go_at_call 123; (with_reducible refine (HQ.out _).mono ?_); rintro e w2 ⟨rfl, hb1⟩; have hk1 := blk?_below hb1; (try simp only [size_drew', size_drewN'] at hk1); have hB1 := below_via (w := w) (by repeat' (first | (with_reducible exact Below.refl _ _) | (with_reducible assumption) | (with_reducible refine Below.alloc ?_ ?_ _) | (with_reducible refine Below.drew ?_) | (with_reducible refine below_drewN ?_ _) | (with_reducible refine Below.setCell ?_ ?_ _) | (with_reducible refine below_setRow' ?_ ?_ _) | go_size)) hb1; have hL0 : w.heap.size < w2.heap.size := (by have hS0 := hb1.size; (try simp at hS0); omega); have hLe : w.heap.size ≤ w2.heap.size := hB1.size; clear hb1)
        | (go_at_call 125; (with_reducible refine (H6.out _).mono ?_); rintro e w3 ⟨rfl, hb1⟩; have hk1 := blk?_below hb1; (try simp only [size_drew', size_drewN'] at hk1); have hB1 := below_via (w := w) (by repeat' (first | (with_reducible exact Below.refl _ _) | (with_reducible assumption) | (with_reducible refine Below.alloc ?_ ?_ _) | (with_reducible refine Below.drew ?_) | (with_reducible refine below_drewN ?_ _) | (with_reducible refine Below.setCell ?_ ?_ _) | (with_reducible refine below_setRow' ?_ ?_ _) | go_size)) hb1; have hL0 : w.heap.size < w3.heap.size := (by have hS0 := hb1.size; (try simp at hS0); omega); have hLe : w.heap.size ≤ w3.heap.size := hB1.size; clear hb1))
      refine bodyPost_ret (res25tt Tryd.results67 _ _ w.heap.size _ rfl ?_ rfl) rfl (PsdR_0 (Or.inl HV.out) rfl (by repeat' (first | (with_reducible exact Below.refl _ _) | (with_reducible assumption) | (with_reducible refine Below.alloc ?_ ?_ _) | (with_reducible refine Below.drew ?_) | (with_reducible refine below_drewN ?_ _) | (with_reducible refine Below.setCell ?_ ?_ _) | (with_reducible refine below_setRow' ?_ ?_ _) | go_size)))
      go_simp
    | some u =>
      obtain ⟨x, pl⟩ := u
      rw [hx, adrV_some] at H6
      cases pl
      · clear hq hx
        go_wp2_with (first
          | (go_at_call 123; (with_reducible refine (HQ.out _).mono ?_); rintro e w2 ⟨rfl, hb1⟩; have hk1 := blk?_below hb1; (try simp only [size_drew', size_drewN'] at hk1); have hB1 := below_via (w := w) (by repeat' (first | (with_reducible exact Below.refl _ _) | (with_reducible assumption) | (with_reducible refine Below.alloc ?_ ?_ _) | (with_reducible refine Below.drew ?_) | (with_reducible refine below_drewN ?_ _) | (with_reducible refine Below.setCell ?_ ?_ _) | (with_reducible refine below_setRow' ?_ ?_ _) | go_size)) hb1; have hL0 : w.heap.size < w2.heap.size := (by have hS0 := hb1.size; (try simp at hS0); omega); have hLe : w.heap.size ≤ w2.heap.size := hB1.size; clear hb1)
          | (go_at_call 125; (with_reducible refine (H6.out _).mono ?_); rintro e w3 ⟨rfl, hb1⟩; have hk1 := blk?_below hb1; (try simp only [size_drew', size_drewN'] at hk1); have hB1 := below_via (w := w) (by repeat' (first | (with_reducible exact Below.refl _ _) | (with_reducible assumption) | (with_reducible refine Below.alloc ?_ ?_ _) | (with_reducible refine Below.drew ?_) | (with_reducible refine below_drewN ?_ _) | (with_reducible refine Below.setCell ?_ ?_ _) | (with_reducible refine below_setRow' ?_ ?_ _) | go_size)) hb1; have hL0 : w.heap.size < w3.heap.size := (by have hS0 := hb1.size; (try simp at hS0); omega); have hLe : w.heap.size ≤ w3.heap.size := hB1.size; clear hb1)
          | (go_at_call 124; (with_reducible refine (sclear 16 x ⟨#[]⟩ false _).mono ?_); rintro e w4 ⟨rfl, hb1⟩; simp only [Bool.false_eq_true, if_false, reduceIte]; have hk1 := blk?_below hb1; (try simp only [size_drew', size_drewN'] at hk1); have hB1 := below_via (w := w) (by repeat' (first | (with_reducible exact Below.refl _ _) | (with_reducible assumption) | (with_reducible refine Below.alloc ?_ ?_ _) | (with_reducible refine Below.drew ?_) | (with_reducible refine below_drewN ?_ _) | (with_reducible refine Below.setCell ?_ ?_ _) | (with_reducible refine below_setRow' ?_ ?_ _) | go_size)) hb1; have hL0 : w.heap.size < w4.heap.size := (by have hS0 := hb1.size; (try simp at hS0); omega); have hLe : w.heap.size ≤ w4.heap.size := hB1.size; clear hb1))
        refine bodyPost_ret (res25tt Tryd.results67 _ _ w.heap.size _ rfl ?_ rfl) rfl (PsdR_no (n := 0) (b := zb) rfl (by repeat' (first | (with_reducible exact Below.refl _ _) | (with_reducible assumption) | (with_reducible refine Below.alloc ?_ ?_ _) | (with_reducible refine Below.drew ?_) | (with_reducible refine below_drewN ?_ _) | (with_reducible refine Below.setCell ?_ ?_ _) | (with_reducible refine below_setRow' ?_ ?_ _) | go_size)))
        go_simp
      · have HV := Lib.hid hx
        clear hq hx
        go_wp2_with (first
          | (go_at_call 123; (with_reducible refine (HQ.out _).mono ?_); rintro e w2 ⟨rfl, hb1⟩; have hk1 := blk?_below hb1; (try simp only [size_drew', size_drewN'] at hk1); have hB1 := below_via (w := w) (by repeat' (first | (with_reducible exact Below.refl _ _) | (with_reducible assumption) | (with_reducible refine Below.alloc ?_ ?_ _) | (with_reducible refine Below.drew ?_) | (with_reducible refine below_drewN ?_ _) | (with_reducible refine Below.setCell ?_ ?_ _) | (with_reducible refine below_setRow' ?_ ?_ _) | go_size)) hb1; have hL0 : w.heap.size < w2.heap.size := (by have hS0 := hb1.size; (try simp at hS0); omega); have hLe : w.heap.size ≤ w2.heap.size := hB1.size; clear hb1)
          | (go_at_call 125; (with_reducible refine (H6.out _).mono ?_); rintro e w3 ⟨rfl, hb1⟩; have hk1 := blk?_below hb1; (try simp only [size_drew', size_drewN'] at hk1); have hB1 := below_via (w := w) (by repeat' (first | (with_reducible exact Below.refl _ _) | (with_reducible assumption) | (with_reducible refine Below.alloc ?_ ?_ _) | (with_reducible refine Below.drew ?_) | (with_reducible refine below_drewN ?_ _) | (with_reducible refine Below.setCell ?_ ?_ _) | (with_reducible refine below_setRow' ?_ ?_ _) | go_size)) hb1; have hL0 : w.heap.size < w3.heap.size := (by have hS0 := hb1.size; (try simp at hS0); omega); have hLe : w.heap.size ≤ w3.heap.size := hB1.size; clear hb1)
          | (go_at_call 124; (with_reducible refine (sclear 16 x ⟨#[]⟩ true _).mono ?_); rintro e w4 ⟨rfl, hb1⟩; simp only [if_true, reduceIte]; have hk1 := blk?_below hb1; (try simp only [size_drew', size_drewN'] at hk1); have hB1 := below_via (w := w) (by repeat' (first | (with_reducible exact Below.refl _ _) | (with_reducible assumption) | (with_reducible refine Below.alloc ?_ ?_ _) | (with_reducible refine Below.drew ?_) | (with_reducible refine below_drewN ?_ _) | (with_reducible refine Below.setCell ?_ ?_ _) | (with_reducible refine below_setRow' ?_ ?_ _) | go_size)) hb1; have hL0 : w.heap.size < w4.heap.size := (by have hS0 := hb1.size; (try simp at hS0); omega); have hLe : w.heap.size ≤ w4.heap.size := hB1.size; clear hb1))
        refine bodyPost_ret (res25tt Tryd.results67 _ _ w.heap.size _ rfl ?_ rfl) rfl (PsdR_16 H37.out HV.out rfl (by repeat' (first | (with_reducible exact Below.refl _ _) | (with_reducible assumption) | (with_reducible refine Below.alloc ?_ ?_ _) | (with_reducible refine Below.drew ?_) | (with_reducible refine below_drewN ?_ _) | (with_reducible refine Below.setCell ?_ ?_ _) | (with_reducible refine below_setRow' ?_ ?_ _) | go_size)))
        go_simp
set_option maxHeartbeats 4000000 in
set_option maxRecDepth 100000 in
theorem parsedB (p r : List Int) (hB : By (p ++ 37 :: r)) (hs : (p ++ 37 :: r).length ≤ 1048576) (h37 : ∀ c ∈ p, c ≠ 37) (w : World) : Calls Tryd.prog 67 #[.string (ba (p ++ 37 :: r))] w (PsdR (p ++ 37 :: r) w) := by
  have H37 := Lib.hid h37
  have HBp := Lib.hid (show By p from fun c hc => hB c (by simp [hc]))
  have HBr := Lib.hid (show By r from fun c hc => hB c (by simp [hc]))
  have HSp := Lib.hid (spl_app 37 r p h37)
  have hlp : p.length ≤ 1048576 := by simp at hs; omega
  have hlr : r.length ≤ 1048576 := by simp at hs; omega
  obtain ⟨K, hK⟩ : ∃ K : Nat, K = p.length := ⟨_, rfl⟩
  obtain ⟨T, hT⟩ : ∃ T : List Int, T = p ++ 37 :: r := ⟨_, rfl⟩
  have hTl : T.length = K + (r.length + 1) := by rw [hT, hK]; simp
  have hx2 : (ba T).extract (K + 1) (ba T).size = ba r := by
    rw [ba_drop T (K + 1) (by omega), hT, show p ++ 37 :: r = (p ++ [37]) ++ r by simp, List.drop_left' (by simp [hK])]
  have HT := Lib.hid hT
  rw [← hT] at hs hB HSp ⊢
  have HB := Lib.hid hB
  have hsT := ba_size T
  have hpK : (ba p).size = K := by rw [ba_size, hK]
  have hsm : (((ba T).size : Nat) : Int) ≤ 1048576 := by omega
  have y0 : (0 : Int) ≤ (K : Int) := by omega
  have y2 : (K : Int) + 1 ≤ (((ba T).size : Nat) : Int) := by omega
  have y3 : (0 : Int) ≤ (K : Int) + 1 := by omega
  have y4 := wr64 ((K : Int) + 1) (by omega) (by omega)
  have y5 : ((K : Int) + 1).toNat = K + 1 := by omega
  clear hB h37 hT hTl hsT hK
  go_enter Tryd.func67, Tryd.ntmps67
  go_upto_region 2 with (first
    | (go_at_call 122; (with_reducible refine (ssplit 37 (by omega) T.length T rfl HB.out hs _).mono ?_); rintro e w1 ⟨vr, rfl, hvr, hb1⟩))
  have k01 : blk? w1 w.heap.size = some (adr 0 zb ⟨#[]⟩) := by rw [blk?_below hb1 _ (by simp)]; go_simp
  have hB1 := below_via (w := w) (by repeat' (first | (with_reducible exact Below.refl _ _) | (with_reducible assumption) | (with_reducible refine Below.alloc ?_ ?_ _) | (with_reducible refine Below.drew ?_) | (with_reducible refine below_drewN ?_ _) | (with_reducible refine Below.setCell ?_ ?_ _) | (with_reducible refine below_setRow' ?_ ?_ _) | go_size)) hb1
  rw [HSp.out] at hvr
  obtain ⟨g2, cap2, rfl, hg2, hg2l, hm2, hc2, hcell2, hfr2⟩ := owns_cells hvr (by simp)
  have hc0 : w1.cell? ⟨g2, 0, none⟩ = some (.string (ba p)) := by rw [hcell2 0 (by simp)]; rfl
  have hg3 : w.heap.size < g2 := by simp at hg2; omega
  have hl0 := blk?_lt k01
  obtain ⟨M, hM⟩ : ∃ M : Nat, M = (p :: spl 37 r).length := ⟨_, rfl⟩
  have hM1 : 1 < M := by rw [hM]; have := List.length_pos_iff.2 (spl_ne 37 r); simp; omega
  rw [← hM] at hm2 ⊢
  have hM2 : ((M : Int) == 1) = false := beq_eq_false_iff_ne.2 (by omega)
  have hM3 : (0 : Int) < (M : Int) := by omega
  have hM4 : 0 < M := by omega
  clear hvr hb1 hcell2 hfr2 hg2 hM
  have H6 := Lib.hid (ssix p HBp.out hlp)
  cases hx : sx p with
  | none =>
    rw [hx, adrV_none] at H6
    have HV := Lib.hid hx
    clear hx
    go_wp2_with (first
      | (go_at_call 125; (with_reducible refine (H6.out _).mono ?_); rintro e w3 ⟨rfl, hb1⟩; have hk1 := blk?_below hb1; (try simp only [size_drew', size_drewN'] at hk1); have hB1 := below_via (w := w) (by repeat' (first | (with_reducible exact Below.refl _ _) | (with_reducible assumption) | (with_reducible refine Below.alloc ?_ ?_ _) | (with_reducible refine Below.drew ?_) | (with_reducible refine below_drewN ?_ _) | (with_reducible refine Below.setCell ?_ ?_ _) | (with_reducible refine below_setRow' ?_ ?_ _) | go_size)) hb1; have hL0 : w.heap.size < w3.heap.size := (by have hS0 := hb1.size; (try simp at hS0); omega); have hLe : w.heap.size ≤ w3.heap.size := hB1.size; clear hb1))
    refine bodyPost_ret (res25tt Tryd.results67 _ _ w.heap.size _ rfl ?_ rfl) rfl (PsdR_0 (Or.inr ⟨p, r, H37.out, HT.out, HV.out⟩) rfl (by repeat' (first | (with_reducible exact Below.refl _ _) | (with_reducible assumption) | (with_reducible refine Below.alloc ?_ ?_ _) | (with_reducible refine Below.drew ?_) | (with_reducible refine below_drewN ?_ _) | (with_reducible refine Below.setCell ?_ ?_ _) | (with_reducible refine below_setRow' ?_ ?_ _) | go_size)))
    go_simp
  | some u =>
    obtain ⟨F, pl⟩ := u
    rw [hx, adrV_some] at H6
    clear hx
    go_upto_region 11 with (first
      | (go_at_call 125; (with_reducible refine (H6.out _).mono ?_); rintro e w3 ⟨rfl, hb1⟩; have hcx := hc0; have hc03 : w3.cell? ⟨g2, 0, none⟩ = some (.string (ba p)) := (by rw [hb1.cell (by exact hg2l)]; exact hcx); have hg2l3 : g2 < w3.heap.size := (by have := hb1.size; omega); have hk1 := blk?_below hb1; (try simp only [size_drew', size_drewN'] at hk1); have hB1 := below_via (w := w) (by repeat' (first | (with_reducible exact Below.refl _ _) | (with_reducible assumption) | (with_reducible refine Below.alloc ?_ ?_ _) | (with_reducible refine Below.drew ?_) | (with_reducible refine below_drewN ?_ _) | (with_reducible refine Below.setCell ?_ ?_ _) | (with_reducible refine below_setRow' ?_ ?_ _) | go_size)) hb1; have hL0 : w.heap.size < w3.heap.size := (by have hS0 := hb1.size; (try simp at hS0); omega); have hLe : w.heap.size ≤ w3.heap.size := hB1.size; clear hb1))
    have hb3' : Below w.heap.size w (w3.setRow w.heap.size (adr 16 F ⟨#[]⟩)) := (by repeat' (first | (with_reducible exact Below.refl _ _) | (with_reducible assumption) | (with_reducible refine Below.alloc ?_ ?_ _) | (with_reducible refine Below.drew ?_) | (with_reducible refine below_drewN ?_ _) | (with_reducible refine Below.setCell ?_ ?_ _) | (with_reducible refine below_setRow' ?_ ?_ _) | go_size))
    have k03 : blk? w3 w.heap.size = some (adr 0 zb ⟨#[]⟩) := by go_simp
    obtain ⟨w4, hw4⟩ : ∃ w4, w4 = w3.setRow w.heap.size (adr 16 F ⟨#[]⟩) := ⟨_, rfl⟩
    have k04 : blk? w4 w.heap.size = some (adr 16 F ⟨#[]⟩) := by rw [hw4]; exact blk?_setRow k03 _
    have hc4 : w4.cell? ⟨g2, 0, none⟩ = some (.string (ba p)) := by
      rw [hw4]; unfold World.cell?; rw [setRow_other w3 _ g2 _ (by omega)]; exact hc03
    have hl4 := blk?_lt k04
    rw [← hw4] at hb3' ⊢
    clear hw4 k03 hk1 hc03 hcx hB1 hc0
    by_cases hr : r = []
    · have hem : (ba r).toList.isEmpty = true := by rw [ba_emp, hr]; rfl
      clear hr
      go_wp2
      refine bodyPost_ret (res25tt Tryd.results67 _ _ w.heap.size _ rfl ?_ rfl) rfl (PsdR_no (n := 0) (b := zb) rfl (by repeat' (first | (with_reducible exact Below.refl _ _) | (with_reducible assumption) | (with_reducible refine Below.alloc ?_ ?_ _) | (with_reducible refine Below.drew ?_) | (with_reducible refine below_drewN ?_ _) | (with_reducible refine Below.setCell ?_ ?_ _) | (with_reducible refine below_setRow' ?_ ?_ _) | go_size)))
      go_simp
    · have hem : (ba r).toList.isEmpty = false := ba_neq r hr
      have HR := Lib.hid hr
      have hz1 : w4.cell? ⟨w.heap.size, 17, none⟩ = some (.string ⟨#[]⟩) := by rw [blk?_cell k04]; exact adr_zone _ _ _
      have hz2 : w4.frozen? ⟨w.heap.size, 17, none⟩ = false := blk?_frozen k04 _
      have hz3 : blk? (w4.setCell ⟨w.heap.size, 17, none⟩ (.string (ba r))) w.heap.size = some (adr 16 F (ba r)) := by rw [blk?_setSame, k04, Option.map_some, adr_setZone]
      clear hr
      cases pl
      · go_upto_region 18 with (first
          | (go_at_call 124; (with_reducible refine (sclear 16 F (ba r) false _).mono ?_); rintro e w5 ⟨rfl, hb1⟩; simp only [Bool.false_eq_true, if_false, reduceIte]; have hk1 := blk?_below hb1; (try simp only [size_drew', size_drewN'] at hk1); have hB1 := below_via (w := w) (by repeat' (first | (with_reducible exact Below.refl _ _) | (with_reducible assumption) | (with_reducible refine Below.alloc ?_ ?_ _) | (with_reducible refine Below.drew ?_) | (with_reducible refine below_drewN ?_ _) | (with_reducible refine Below.setCell ?_ ?_ _) | (with_reducible refine below_setRow' ?_ ?_ _) | go_size)) hb1; have hL0 : w.heap.size < w5.heap.size := (by have hS0 := hb1.size; (try simp at hS0); omega); have hLe : w.heap.size ≤ w5.heap.size := hB1.size; clear hb1))
        refine wp_region_held_drew (S := fun w' => blk? w' (w.heap.size) = some (adr 0 zb ⟨#[]⟩)) (by kernel_rfl) ?_ (fun hHeld0 => ?_)
        · ((try dsimp only); go_simp)
        refine wpAnyH_take (i := 0) (oi := _) (v := ?_) rfl (by kernel_rfl) (by kernel_rfl) (by kernel_rfl) (fun _ _ _ h => h) (Or.inl ⟨by rfl, ?_⟩) (by assumption) ?_
        rotate_left 1
        · (intro w hSw; (try dsimp only at hSw); (try simp only [List.getElem_toArray, List.getElem_cons_succ, List.getElem_cons_zero]); first | (go_simp; done) | (go_simp; with_reducible rfl))
        (try simp only [Act.put, List.setIfInBounds_toArray, List.set_cons_zero, List.set_cons_succ, List.getElem_toArray, List.getElem_cons_succ, List.getElem_cons_zero])
        refine wpAnyH_take (i := 1) (oi := _) (v := ?_) rfl (by kernel_rfl) (by kernel_rfl) (by kernel_rfl) (fun _ _ _ h => h) (Or.inl ⟨by rfl, ?_⟩) (by assumption) ?_
        rotate_left 1
        · (intro w hSw; (try dsimp only at hSw); (try simp only [List.getElem_toArray, List.getElem_cons_succ, List.getElem_cons_zero]); first | (go_simp; done) | (go_simp; with_reducible rfl))
        (try simp only [Act.put, List.setIfInBounds_toArray, List.set_cons_zero, List.set_cons_succ, List.getElem_toArray, List.getElem_cons_succ, List.getElem_cons_zero])
        refine wpAnyH_take (i := 2) (oi := _) (v := ?_) rfl (by kernel_rfl) (by kernel_rfl) (by kernel_rfl) (fun _ _ _ h => h) (Or.inl ⟨by rfl, ?_⟩) (by assumption) ?_
        rotate_left 1
        · (intro w hSw; (try dsimp only at hSw); (try simp only [List.getElem_toArray, List.getElem_cons_succ, List.getElem_cons_zero]); first | (go_simp; done) | (go_simp; with_reducible rfl))
        (try simp only [Act.put, List.setIfInBounds_toArray, List.set_cons_zero, List.set_cons_succ, List.getElem_toArray, List.getElem_cons_succ, List.getElem_cons_zero])
        refine wpAnyH_take (i := 3) (oi := _) (v := undef) rfl (by kernel_rfl) (by kernel_rfl) (by kernel_rfl) (fun _ _ _ h => h) (Or.inr ⟨by rfl, rfl⟩) (by assumption) ?_
        (try simp only [Act.put, List.setIfInBounds_toArray, List.set_cons_zero, List.set_cons_succ, List.getElem_toArray, List.getElem_cons_succ, List.getElem_cons_zero])
        refine wpAnyH_take (i := 4) (oi := _) (v := undef) rfl (by kernel_rfl) (by kernel_rfl) (by kernel_rfl) (fun _ _ _ h => h) (Or.inr ⟨by rfl, rfl⟩) (by assumption) ?_
        (try simp only [Act.put, List.setIfInBounds_toArray, List.set_cons_zero, List.set_cons_succ, List.getElem_toArray, List.getElem_cons_succ, List.getElem_cons_zero])
        refine wpAnyH_take (i := 5) (oi := _) (v := ?_) rfl (by kernel_rfl) (by kernel_rfl) (by kernel_rfl) (fun _ _ _ h => h) (Or.inl ⟨by rfl, ?_⟩) (by assumption) ?_
        rotate_left 1
        · (intro w hSw; (try dsimp only at hSw); (try simp only [List.getElem_toArray, List.getElem_cons_succ, List.getElem_cons_zero]); first | (go_simp; done) | (go_simp; with_reducible rfl))
        (try simp only [Act.put, List.setIfInBounds_toArray, List.set_cons_zero, List.set_cons_succ, List.getElem_toArray, List.getElem_cons_succ, List.getElem_cons_zero])
        refine wpAnyH_take (i := 6) (oi := _) (v := ?_) rfl (by kernel_rfl) (by kernel_rfl) (by kernel_rfl) (fun _ _ _ h => h) (Or.inl ⟨by rfl, ?_⟩) (by assumption) ?_
        rotate_left 1
        · (intro w hSw; (try dsimp only at hSw); (try simp only [List.getElem_toArray, List.getElem_cons_succ, List.getElem_cons_zero]); first | (go_simp; done) | (go_simp; with_reducible rfl))
        (try simp only [Act.put, List.setIfInBounds_toArray, List.set_cons_zero, List.set_cons_succ, List.getElem_toArray, List.getElem_cons_succ, List.getElem_cons_zero])
        refine wpAnyH_take (i := 7) (oi := _) (v := undef) rfl (by kernel_rfl) (by kernel_rfl) (by kernel_rfl) (fun _ _ _ h => h) (Or.inr ⟨by rfl, rfl⟩) (by assumption) ?_
        (try simp only [Act.put, List.setIfInBounds_toArray, List.set_cons_zero, List.set_cons_succ, List.getElem_toArray, List.getElem_cons_succ, List.getElem_cons_zero])
        refine wpAnyH_take (i := 8) (oi := _) (v := undef) rfl (by kernel_rfl) (by kernel_rfl) (by kernel_rfl) (fun _ _ _ h => h) (Or.inr ⟨by rfl, rfl⟩) (by assumption) ?_
        (try simp only [Act.put, List.setIfInBounds_toArray, List.set_cons_zero, List.set_cons_succ, List.getElem_toArray, List.getElem_cons_succ, List.getElem_cons_zero])
        refine wpAnyH_take (i := 9) (oi := _) (v := undef) rfl (by kernel_rfl) (by kernel_rfl) (by kernel_rfl) (fun _ _ _ h => h) (Or.inr ⟨by rfl, rfl⟩) (by assumption) ?_
        (try simp only [Act.put, List.setIfInBounds_toArray, List.set_cons_zero, List.set_cons_succ, List.getElem_toArray, List.getElem_cons_succ, List.getElem_cons_zero])
        refine wpAnyH_take (i := 10) (oi := _) (v := ?_) rfl (by kernel_rfl) (by kernel_rfl) (by kernel_rfl) (fun _ _ _ h => h) (Or.inl ⟨by rfl, ?_⟩) (by assumption) ?_
        rotate_left 1
        · (intro w hSw; (try dsimp only at hSw); (try simp only [List.getElem_toArray, List.getElem_cons_succ, List.getElem_cons_zero]); first | (go_simp; done) | (go_simp; with_reducible rfl))
        (try simp only [Act.put, List.setIfInBounds_toArray, List.set_cons_zero, List.set_cons_succ, List.getElem_toArray, List.getElem_cons_succ, List.getElem_cons_zero])
        refine wpAnyH_take (i := 11) (oi := _) (v := ?_) rfl (by kernel_rfl) (by kernel_rfl) (by kernel_rfl) (fun _ _ _ h => h) (Or.inl ⟨by rfl, ?_⟩) (by assumption) ?_
        rotate_left 1
        · (intro w hSw; (try dsimp only at hSw); (try simp only [List.getElem_toArray, List.getElem_cons_succ, List.getElem_cons_zero]); first | (go_simp; done) | (go_simp; with_reducible rfl))
        (try simp only [Act.put, List.setIfInBounds_toArray, List.set_cons_zero, List.set_cons_succ, List.getElem_toArray, List.getElem_cons_succ, List.getElem_cons_zero])
        refine wpAnyH_ready (rs := [12]) (by kernel_rfl) (by simp) (AllReadyH.cons rfl (fun K hK => ?_) AllReadyH.nil)
        go_simp
        refine hK.out _ _ ?_ (fun hHeld1 => ?_)
        · ((try dsimp only); go_simp)
        clear hK K hHeld0
        (try simp only [Act.put, List.setIfInBounds_toArray, List.set_cons_zero, List.set_cons_succ, List.getElem_toArray, List.getElem_cons_succ, List.getElem_cons_zero])
        refine wpAnyH_take (i := 13) (oi := _) (v := ?_) rfl (by kernel_rfl) (by kernel_rfl) (by kernel_rfl) (fun _ _ _ h => h) (Or.inl ⟨by rfl, ?_⟩) (by assumption) ?_
        rotate_left 1
        · (intro w hSw; (try dsimp only at hSw); (try simp only [List.getElem_toArray, List.getElem_cons_succ, List.getElem_cons_zero]); first | (go_simp; done) | (go_simp; with_reducible rfl))
        (try simp only [Act.put, List.setIfInBounds_toArray, List.set_cons_zero, List.set_cons_succ, List.getElem_toArray, List.getElem_cons_succ, List.getElem_cons_zero])
        refine wpAnyH_take (i := 14) (oi := _) (v := ?_) rfl (by kernel_rfl) (by kernel_rfl) (by kernel_rfl) (fun _ _ _ h => h) (Or.inl ⟨by rfl, ?_⟩) (by assumption) ?_
        rotate_left 1
        · (intro w hSw; (try dsimp only at hSw); (try simp only [List.getElem_toArray, List.getElem_cons_succ, List.getElem_cons_zero]); first | (go_simp; done) | (go_simp; with_reducible rfl))
        (try simp only [Act.put, List.setIfInBounds_toArray, List.set_cons_zero, List.set_cons_succ, List.getElem_toArray, List.getElem_cons_succ, List.getElem_cons_zero])
        refine wpAnyH_done (by kernel_rfl) ?_ _
        go_wp2
        refine bodyPost_ret (res25tt Tryd.results67 _ _ w.heap.size _ rfl ?_ rfl) rfl (PsdR_no (n := 0) (b := zb) rfl (by repeat' (first | (with_reducible exact Below.refl _ _) | (with_reducible assumption) | (with_reducible refine Below.alloc ?_ ?_ _) | (with_reducible refine Below.drew ?_) | (with_reducible refine below_drewN ?_ _) | (with_reducible refine Below.setCell ?_ ?_ _) | (with_reducible refine below_setRow' ?_ ?_ _) | go_size)))
        go_simp
      · go_upto_region 18 with (first
          | (go_at_call 124; (with_reducible refine (sclear 16 F (ba r) true _).mono ?_); rintro e w5 ⟨rfl, hb1⟩; simp only [if_true, reduceIte]; have hk1 := blk?_below hb1; (try simp only [size_drew', size_drewN'] at hk1); have hB1 := below_via (w := w) (by repeat' (first | (with_reducible exact Below.refl _ _) | (with_reducible assumption) | (with_reducible refine Below.alloc ?_ ?_ _) | (with_reducible refine Below.drew ?_) | (with_reducible refine below_drewN ?_ _) | (with_reducible refine Below.setCell ?_ ?_ _) | (with_reducible refine below_setRow' ?_ ?_ _) | go_size)) hb1; have hL0 : w.heap.size < w5.heap.size := (by have hS0 := hb1.size; (try simp at hS0); omega); have hLe : w.heap.size ≤ w5.heap.size := hB1.size; clear hb1))
        cases hu : us r
        · have HU := Lib.hid (show ∀ w : World, Calls Tryd.prog 126 #[.string (ba r)] w fun e w' => e = .returned (.bool false) ∧ Below w.heap.size w w' from fun w => by have h9 := susual r HBr.out hlr w; rw [hu] at h9; exact h9)
          clear hu
          refine wp_region_held_drew (S := fun w' => blk? w' (w.heap.size) = some (adr 16 F (ba r))) (by kernel_rfl) ?_ (fun hHeld0 => ?_)
          · ((try dsimp only); go_simp)
          refine wpAnyH_take (i := 0) (oi := _) (v := ?_) rfl (by kernel_rfl) (by kernel_rfl) (by kernel_rfl) (fun _ _ _ h => h) (Or.inl ⟨by rfl, ?_⟩) (by assumption) ?_
          rotate_left 1
          · (intro w hSw; (try dsimp only at hSw); (try simp only [List.getElem_toArray, List.getElem_cons_succ, List.getElem_cons_zero]); first | (go_simp; done) | (go_simp; with_reducible rfl))
          (try simp only [Act.put, List.setIfInBounds_toArray, List.set_cons_zero, List.set_cons_succ, List.getElem_toArray, List.getElem_cons_succ, List.getElem_cons_zero])
          refine wpAnyH_take (i := 1) (oi := _) (v := ?_) rfl (by kernel_rfl) (by kernel_rfl) (by kernel_rfl) (fun _ _ _ h => h) (Or.inl ⟨by rfl, ?_⟩) (by assumption) ?_
          rotate_left 1
          · (intro w hSw; (try dsimp only at hSw); (try simp only [List.getElem_toArray, List.getElem_cons_succ, List.getElem_cons_zero]); first | (go_simp; done) | (go_simp; with_reducible rfl))
          (try simp only [Act.put, List.setIfInBounds_toArray, List.set_cons_zero, List.set_cons_succ, List.getElem_toArray, List.getElem_cons_succ, List.getElem_cons_zero])
          refine wpAnyH_take (i := 2) (oi := _) (v := ?_) rfl (by kernel_rfl) (by kernel_rfl) (by kernel_rfl) (fun _ _ _ h => h) (Or.inl ⟨by rfl, ?_⟩) (by assumption) ?_
          rotate_left 1
          · (intro w hSw; (try dsimp only at hSw); (try simp only [List.getElem_toArray, List.getElem_cons_succ, List.getElem_cons_zero]); first | (go_simp; done) | (go_simp; with_reducible rfl))
          (try simp only [Act.put, List.setIfInBounds_toArray, List.set_cons_zero, List.set_cons_succ, List.getElem_toArray, List.getElem_cons_succ, List.getElem_cons_zero])
          refine wpAnyH_take (i := 3) (oi := _) (v := ?_) rfl (by kernel_rfl) (by kernel_rfl) (by kernel_rfl) (fun _ _ _ h => h) (Or.inl ⟨by rfl, ?_⟩) (by assumption) ?_
          rotate_left 1
          · (intro w hSw; (try dsimp only at hSw); (try simp only [List.getElem_toArray, List.getElem_cons_succ, List.getElem_cons_zero]); first | (go_simp; done) | (go_simp; with_reducible rfl))
          (try simp only [Act.put, List.setIfInBounds_toArray, List.set_cons_zero, List.set_cons_succ, List.getElem_toArray, List.getElem_cons_succ, List.getElem_cons_zero])
          refine wpAnyH_take (i := 11) (oi := _) (v := ?_) rfl (by kernel_rfl) (by kernel_rfl) (by kernel_rfl) (fun _ _ _ h => h) (Or.inl ⟨by rfl, ?_⟩) (by assumption) ?_
          rotate_left 1
          · (intro w hSw; (try dsimp only at hSw); (try simp only [List.getElem_toArray, List.getElem_cons_succ, List.getElem_cons_zero]); first | (go_simp; done) | (go_simp; with_reducible rfl))
          (try simp only [Act.put, List.setIfInBounds_toArray, List.set_cons_zero, List.set_cons_succ, List.getElem_toArray, List.getElem_cons_succ, List.getElem_cons_zero])
          refine wpAnyH_ready (rs := [4]) (by kernel_rfl) (by simp) (AllReadyH.cons rfl (fun K hK => ?_) AllReadyH.nil)
          go_simp
          go_wp2_with (first
            | (go_at_call 126; (with_reducible refine (HU.out _).mono ?_); rintro e w6 ⟨rfl, hb1⟩; have hk1 := blk?_below hb1; (try simp only [size_drew', size_drewN'] at hk1); have hB1 := below_via (w := w) (by repeat' (first | (with_reducible exact Below.refl _ _) | (with_reducible assumption) | (with_reducible refine Below.alloc ?_ ?_ _) | (with_reducible refine Below.drew ?_) | (with_reducible refine below_drewN ?_ _) | (with_reducible refine Below.setCell ?_ ?_ _) | (with_reducible refine below_setRow' ?_ ?_ _) | go_size)) hb1; have hL0 : w.heap.size < w6.heap.size := (by have hS0 := hb1.size; (try simp at hS0); omega); have hLe : w.heap.size ≤ w6.heap.size := hB1.size; clear hb1))
          refine hK.out _ _ ?_ (fun hHeld1 => ?_)
          · ((try dsimp only); go_simp)
          clear hK K hHeld0
          (try simp only [Act.put, List.setIfInBounds_toArray, List.set_cons_zero, List.set_cons_succ, List.getElem_toArray, List.getElem_cons_succ, List.getElem_cons_zero])
          refine wpAnyH_take (i := 5) (oi := _) (v := ?_) rfl (by kernel_rfl) (by kernel_rfl) (by kernel_rfl) (fun _ _ _ h => h) (Or.inl ⟨by rfl, ?_⟩) (by assumption) ?_
          rotate_left 1
          · (intro w hSw; (try dsimp only at hSw); (try simp only [List.getElem_toArray, List.getElem_cons_succ, List.getElem_cons_zero]); first | (go_simp; done) | (go_simp; with_reducible rfl))
          (try simp only [Act.put, List.setIfInBounds_toArray, List.set_cons_zero, List.set_cons_succ, List.getElem_toArray, List.getElem_cons_succ, List.getElem_cons_zero])
          refine wpAnyH_take (i := 6) (oi := _) (v := ?_) rfl (by kernel_rfl) (by kernel_rfl) (by kernel_rfl) (fun _ _ _ h => h) (Or.inl ⟨by rfl, ?_⟩) (by assumption) ?_
          rotate_left 1
          · (intro w hSw; (try dsimp only at hSw); (try simp only [List.getElem_toArray, List.getElem_cons_succ, List.getElem_cons_zero]); first | (go_simp; done) | (go_simp; with_reducible rfl))
          (try simp only [Act.put, List.setIfInBounds_toArray, List.set_cons_zero, List.set_cons_succ, List.getElem_toArray, List.getElem_cons_succ, List.getElem_cons_zero])
          refine wpAnyH_take (i := 7) (oi := _) (v := undef) rfl (by kernel_rfl) (by kernel_rfl) (by kernel_rfl) (fun _ _ _ h => h) (Or.inr ⟨by rfl, rfl⟩) (by assumption) ?_
          (try simp only [Act.put, List.setIfInBounds_toArray, List.set_cons_zero, List.set_cons_succ, List.getElem_toArray, List.getElem_cons_succ, List.getElem_cons_zero])
          refine wpAnyH_take (i := 8) (oi := _) (v := undef) rfl (by kernel_rfl) (by kernel_rfl) (by kernel_rfl) (fun _ _ _ h => h) (Or.inr ⟨by rfl, rfl⟩) (by assumption) ?_
          (try simp only [Act.put, List.setIfInBounds_toArray, List.set_cons_zero, List.set_cons_succ, List.getElem_toArray, List.getElem_cons_succ, List.getElem_cons_zero])
          refine wpAnyH_take (i := 9) (oi := _) (v := undef) rfl (by kernel_rfl) (by kernel_rfl) (by kernel_rfl) (fun _ _ _ h => h) (Or.inr ⟨by rfl, rfl⟩) (by assumption) ?_
          (try simp only [Act.put, List.setIfInBounds_toArray, List.set_cons_zero, List.set_cons_succ, List.getElem_toArray, List.getElem_cons_succ, List.getElem_cons_zero])
          refine wpAnyH_take (i := 10) (oi := _) (v := ?_) rfl (by kernel_rfl) (by kernel_rfl) (by kernel_rfl) (fun _ _ _ h => h) (Or.inl ⟨by rfl, ?_⟩) (by assumption) ?_
          rotate_left 1
          · (intro w hSw; (try dsimp only at hSw); (try simp only [List.getElem_toArray, List.getElem_cons_succ, List.getElem_cons_zero]); first | (go_simp; done) | (go_simp; with_reducible rfl))
          (try simp only [Act.put, List.setIfInBounds_toArray, List.set_cons_zero, List.set_cons_succ, List.getElem_toArray, List.getElem_cons_succ, List.getElem_cons_zero])
          refine wpAnyH_ready (rs := [12]) (by kernel_rfl) (by simp) (AllReadyH.cons rfl (fun K hK => ?_) AllReadyH.nil)
          go_simp
          refine hK.out _ _ ?_ (fun hHeld2 => ?_)
          · ((try dsimp only); go_simp)
          clear hK K hHeld1
          (try simp only [Act.put, List.setIfInBounds_toArray, List.set_cons_zero, List.set_cons_succ, List.getElem_toArray, List.getElem_cons_succ, List.getElem_cons_zero])
          refine wpAnyH_take (i := 13) (oi := _) (v := ?_) rfl (by kernel_rfl) (by kernel_rfl) (by kernel_rfl) (fun _ _ _ h => h) (Or.inl ⟨by rfl, ?_⟩) (by assumption) ?_
          rotate_left 1
          · (intro w hSw; (try dsimp only at hSw); (try simp only [List.getElem_toArray, List.getElem_cons_succ, List.getElem_cons_zero]); first | (go_simp; done) | (go_simp; with_reducible rfl))
          (try simp only [Act.put, List.setIfInBounds_toArray, List.set_cons_zero, List.set_cons_succ, List.getElem_toArray, List.getElem_cons_succ, List.getElem_cons_zero])
          refine wpAnyH_take (i := 14) (oi := _) (v := ?_) rfl (by kernel_rfl) (by kernel_rfl) (by kernel_rfl) (fun _ _ _ h => h) (Or.inl ⟨by rfl, ?_⟩) (by assumption) ?_
          rotate_left 1
          · (intro w hSw; (try dsimp only at hSw); (try simp only [List.getElem_toArray, List.getElem_cons_succ, List.getElem_cons_zero]); first | (go_simp; done) | (go_simp; with_reducible rfl))
          (try simp only [Act.put, List.setIfInBounds_toArray, List.set_cons_zero, List.set_cons_succ, List.getElem_toArray, List.getElem_cons_succ, List.getElem_cons_zero])
          refine wpAnyH_done (by kernel_rfl) ?_ _
          go_wp2
          refine bodyPost_ret (res25tt Tryd.results67 _ _ w.heap.size _ rfl ?_ rfl) rfl (PsdR_zone (n := 16) (b := F) HR.out rfl (by repeat' (first | (with_reducible exact Below.refl _ _) | (with_reducible assumption) | (with_reducible refine Below.alloc ?_ ?_ _) | (with_reducible refine Below.drew ?_) | (with_reducible refine below_drewN ?_ _) | (with_reducible refine Below.setCell ?_ ?_ _) | (with_reducible refine below_setRow' ?_ ?_ _) | go_size)))
          go_simp
        · have HU := Lib.hid (show ∀ w : World, Calls Tryd.prog 126 #[.string (ba r)] w fun e w' => e = .returned (.bool true) ∧ Below w.heap.size w w' from fun w => by have h9 := susual r HBr.out hlr w; rw [hu] at h9; exact h9)
          clear hu
          refine wp_region_held_drew (S := fun w' => blk? w' (w.heap.size) = some (adr 16 F (ba r))) (by kernel_rfl) ?_ (fun hHeld0 => ?_)
          · ((try dsimp only); go_simp)
          refine wpAnyH_take (i := 0) (oi := _) (v := ?_) rfl (by kernel_rfl) (by kernel_rfl) (by kernel_rfl) (fun _ _ _ h => h) (Or.inl ⟨by rfl, ?_⟩) (by assumption) ?_
          rotate_left 1
          · (intro w hSw; (try dsimp only at hSw); (try simp only [List.getElem_toArray, List.getElem_cons_succ, List.getElem_cons_zero]); first | (go_simp; done) | (go_simp; with_reducible rfl))
          (try simp only [Act.put, List.setIfInBounds_toArray, List.set_cons_zero, List.set_cons_succ, List.getElem_toArray, List.getElem_cons_succ, List.getElem_cons_zero])
          refine wpAnyH_take (i := 1) (oi := _) (v := ?_) rfl (by kernel_rfl) (by kernel_rfl) (by kernel_rfl) (fun _ _ _ h => h) (Or.inl ⟨by rfl, ?_⟩) (by assumption) ?_
          rotate_left 1
          · (intro w hSw; (try dsimp only at hSw); (try simp only [List.getElem_toArray, List.getElem_cons_succ, List.getElem_cons_zero]); first | (go_simp; done) | (go_simp; with_reducible rfl))
          (try simp only [Act.put, List.setIfInBounds_toArray, List.set_cons_zero, List.set_cons_succ, List.getElem_toArray, List.getElem_cons_succ, List.getElem_cons_zero])
          refine wpAnyH_take (i := 2) (oi := _) (v := ?_) rfl (by kernel_rfl) (by kernel_rfl) (by kernel_rfl) (fun _ _ _ h => h) (Or.inl ⟨by rfl, ?_⟩) (by assumption) ?_
          rotate_left 1
          · (intro w hSw; (try dsimp only at hSw); (try simp only [List.getElem_toArray, List.getElem_cons_succ, List.getElem_cons_zero]); first | (go_simp; done) | (go_simp; with_reducible rfl))
          (try simp only [Act.put, List.setIfInBounds_toArray, List.set_cons_zero, List.set_cons_succ, List.getElem_toArray, List.getElem_cons_succ, List.getElem_cons_zero])
          refine wpAnyH_take (i := 3) (oi := _) (v := ?_) rfl (by kernel_rfl) (by kernel_rfl) (by kernel_rfl) (fun _ _ _ h => h) (Or.inl ⟨by rfl, ?_⟩) (by assumption) ?_
          rotate_left 1
          · (intro w hSw; (try dsimp only at hSw); (try simp only [List.getElem_toArray, List.getElem_cons_succ, List.getElem_cons_zero]); first | (go_simp; done) | (go_simp; with_reducible rfl))
          (try simp only [Act.put, List.setIfInBounds_toArray, List.set_cons_zero, List.set_cons_succ, List.getElem_toArray, List.getElem_cons_succ, List.getElem_cons_zero])
          refine wpAnyH_take (i := 11) (oi := _) (v := ?_) rfl (by kernel_rfl) (by kernel_rfl) (by kernel_rfl) (fun _ _ _ h => h) (Or.inl ⟨by rfl, ?_⟩) (by assumption) ?_
          rotate_left 1
          · (intro w hSw; (try dsimp only at hSw); (try simp only [List.getElem_toArray, List.getElem_cons_succ, List.getElem_cons_zero]); first | (go_simp; done) | (go_simp; with_reducible rfl))
          (try simp only [Act.put, List.setIfInBounds_toArray, List.set_cons_zero, List.set_cons_succ, List.getElem_toArray, List.getElem_cons_succ, List.getElem_cons_zero])
          refine wpAnyH_ready (rs := [4]) (by kernel_rfl) (by simp) (AllReadyH.cons rfl (fun K hK => ?_) AllReadyH.nil)
          go_simp
          go_wp2_with (first
            | (go_at_call 126; (with_reducible refine (HU.out _).mono ?_); rintro e w6 ⟨rfl, hb1⟩; have hk1 := blk?_below hb1; (try simp only [size_drew', size_drewN'] at hk1); have hB1 := below_via (w := w) (by repeat' (first | (with_reducible exact Below.refl _ _) | (with_reducible assumption) | (with_reducible refine Below.alloc ?_ ?_ _) | (with_reducible refine Below.drew ?_) | (with_reducible refine below_drewN ?_ _) | (with_reducible refine Below.setCell ?_ ?_ _) | (with_reducible refine below_setRow' ?_ ?_ _) | go_size)) hb1; have hL0 : w.heap.size < w6.heap.size := (by have hS0 := hb1.size; (try simp at hS0); omega); have hLe : w.heap.size ≤ w6.heap.size := hB1.size; clear hb1))
          refine hK.out _ _ ?_ (fun hHeld1 => ?_)
          · ((try dsimp only); go_simp)
          clear hK K hHeld0
          (try simp only [Act.put, List.setIfInBounds_toArray, List.set_cons_zero, List.set_cons_succ, List.getElem_toArray, List.getElem_cons_succ, List.getElem_cons_zero])
          refine wpAnyH_take (i := 5) (oi := _) (v := ?_) rfl (by kernel_rfl) (by kernel_rfl) (by kernel_rfl) (fun _ _ _ h => h) (Or.inl ⟨by rfl, ?_⟩) (by assumption) ?_
          rotate_left 1
          · (intro w hSw; (try dsimp only at hSw); (try simp only [List.getElem_toArray, List.getElem_cons_succ, List.getElem_cons_zero]); first | (go_simp; done) | (go_simp; with_reducible rfl))
          (try simp only [Act.put, List.setIfInBounds_toArray, List.set_cons_zero, List.set_cons_succ, List.getElem_toArray, List.getElem_cons_succ, List.getElem_cons_zero])
          refine wpAnyH_take (i := 6) (oi := _) (v := ?_) rfl (by kernel_rfl) (by kernel_rfl) (by kernel_rfl) (fun _ _ _ h => h) (Or.inl ⟨by rfl, ?_⟩) (by assumption) ?_
          rotate_left 1
          · (intro w hSw; (try dsimp only at hSw); (try simp only [List.getElem_toArray, List.getElem_cons_succ, List.getElem_cons_zero]); first | (go_simp; done) | (go_simp; with_reducible rfl))
          (try simp only [Act.put, List.setIfInBounds_toArray, List.set_cons_zero, List.set_cons_succ, List.getElem_toArray, List.getElem_cons_succ, List.getElem_cons_zero])
          refine wpAnyH_take (i := 7) (oi := _) (v := ?_) rfl (by kernel_rfl) (by kernel_rfl) (by kernel_rfl) (fun _ _ _ h => h) (Or.inl ⟨by rfl, ?_⟩) (by assumption) ?_
          rotate_left 1
          · (intro w hSw; (try dsimp only at hSw); (try simp only [List.getElem_toArray, List.getElem_cons_succ, List.getElem_cons_zero]); first | (go_simp; done) | (go_simp; with_reducible rfl))
          (try simp only [Act.put, List.setIfInBounds_toArray, List.set_cons_zero, List.set_cons_succ, List.getElem_toArray, List.getElem_cons_succ, List.getElem_cons_zero])
          refine wpAnyH_ready (rs := [8]) (by kernel_rfl) (by simp) (AllReadyH.cons rfl (fun K hK => ?_) AllReadyH.nil)
          go_simp
          go_wp2_with (first
            | (go_at_call 94; (with_reducible refine (sIs46_16 F (ba r) _).mono ?_); rintro e w7 ⟨rfl, hb1⟩; have hk1 := blk?_below hb1; (try simp only [size_drew', size_drewN'] at hk1); have hB1 := below_via (w := w) (by repeat' (first | (with_reducible exact Below.refl _ _) | (with_reducible assumption) | (with_reducible refine Below.alloc ?_ ?_ _) | (with_reducible refine Below.drew ?_) | (with_reducible refine below_drewN ?_ _) | (with_reducible refine Below.setCell ?_ ?_ _) | (with_reducible refine below_setRow' ?_ ?_ _) | go_size)) hb1; have hL0 : w.heap.size < w7.heap.size := (by have hS0 := hb1.size; (try simp at hS0); omega); have hLe : w.heap.size ≤ w7.heap.size := hB1.size; clear hb1))
          refine hK.out _ _ ?_ (fun hHeld2 => ?_)
          · ((try dsimp only); go_simp)
          clear hK K hHeld1
          (try simp only [Act.put, List.setIfInBounds_toArray, List.set_cons_zero, List.set_cons_succ, List.getElem_toArray, List.getElem_cons_succ, List.getElem_cons_zero])
          refine wpAnyH_take (i := 9) (oi := _) (v := ?_) rfl (by kernel_rfl) (by kernel_rfl) (by kernel_rfl) (fun _ _ _ h => h) (Or.inl ⟨by rfl, ?_⟩) (by assumption) ?_
          rotate_left 1
          · (intro w hSw; (try dsimp only at hSw); (try simp only [List.getElem_toArray, List.getElem_cons_succ, List.getElem_cons_zero]); first | (go_simp; done) | (go_simp; with_reducible rfl))
          (try simp only [Act.put, List.setIfInBounds_toArray, List.set_cons_zero, List.set_cons_succ, List.getElem_toArray, List.getElem_cons_succ, List.getElem_cons_zero])
          refine wpAnyH_take (i := 10) (oi := _) (v := ?_) rfl (by kernel_rfl) (by kernel_rfl) (by kernel_rfl) (fun _ _ _ h => h) (Or.inl ⟨by rfl, ?_⟩) (by assumption) ?_
          rotate_left 1
          · (intro w hSw; (try dsimp only at hSw); (try simp only [List.getElem_toArray, List.getElem_cons_succ, List.getElem_cons_zero]); first | (go_simp; done) | (go_simp; with_reducible rfl))
          (try simp only [Act.put, List.setIfInBounds_toArray, List.set_cons_zero, List.set_cons_succ, List.getElem_toArray, List.getElem_cons_succ, List.getElem_cons_zero])
          refine wpAnyH_ready (rs := [12]) (by kernel_rfl) (by simp) (AllReadyH.cons rfl (fun K hK => ?_) AllReadyH.nil)
          go_simp
          refine hK.out _ _ ?_ (fun hHeld3 => ?_)
          · ((try dsimp only); go_simp)
          clear hK K hHeld2
          (try simp only [Act.put, List.setIfInBounds_toArray, List.set_cons_zero, List.set_cons_succ, List.getElem_toArray, List.getElem_cons_succ, List.getElem_cons_zero])
          refine wpAnyH_take (i := 13) (oi := _) (v := ?_) rfl (by kernel_rfl) (by kernel_rfl) (by kernel_rfl) (fun _ _ _ h => h) (Or.inl ⟨by rfl, ?_⟩) (by assumption) ?_
          rotate_left 1
          · (intro w hSw; (try dsimp only at hSw); (try simp only [List.getElem_toArray, List.getElem_cons_succ, List.getElem_cons_zero]); first | (go_simp; done) | (go_simp; with_reducible rfl))
          (try simp only [Act.put, List.setIfInBounds_toArray, List.set_cons_zero, List.set_cons_succ, List.getElem_toArray, List.getElem_cons_succ, List.getElem_cons_zero])
          refine wpAnyH_take (i := 14) (oi := _) (v := ?_) rfl (by kernel_rfl) (by kernel_rfl) (by kernel_rfl) (fun _ _ _ h => h) (Or.inl ⟨by rfl, ?_⟩) (by assumption) ?_
          rotate_left 1
          · (intro w hSw; (try dsimp only at hSw); (try simp only [List.getElem_toArray, List.getElem_cons_succ, List.getElem_cons_zero]); first | (go_simp; done) | (go_simp; with_reducible rfl))
          (try simp only [Act.put, List.setIfInBounds_toArray, List.set_cons_zero, List.set_cons_succ, List.getElem_toArray, List.getElem_cons_succ, List.getElem_cons_zero])
          refine wpAnyH_done (by kernel_rfl) ?_ _
          go_wp2
          refine bodyPost_ret (res25tt Tryd.results67 _ _ w.heap.size _ rfl ?_ rfl) rfl (PsdR_zone (n := 16) (b := F) HR.out rfl (by repeat' (first | (with_reducible exact Below.refl _ _) | (with_reducible assumption) | (with_reducible refine Below.alloc ?_ ?_ _) | (with_reducible refine Below.drew ?_) | (with_reducible refine below_drewN ?_ _) | (with_reducible refine Below.setCell ?_ ?_ _) | (with_reducible refine below_setRow' ?_ ?_ _) | go_size)))
          go_simp
end Go.Proofs.YtmlkcgacneealaaDoor
