/- FnColonsForZeros: the walk. Conditions: the listed variables as laid; what ParseAddr says of the text. -/
import Derived.Test.YtmlkcgacneealaaDoorLawV
set_option linter.unusedVariables false
set_option linter.unusedSimpArgs false
namespace Go.Proofs.YtmlkcgacneealaaDoor
open Go.RowKit
/-- The bytes with groups i .. k - 1 made 0. -/
def zf (b : Nat → Int) (i k : Nat) : Nat → Int := fun p => if 2 * i ≤ p ∧ p < 2 * k then 0 else b p
theorem zf_start (b : Nat → Int) (i : Nat) : zf b i i = b := by funext p; unfold zf; rw [if_neg (by omega)]
theorem zf_step (b : Nat → Int) (i k : Nat) (h : i ≤ k) : upd (upd (zf b i k) (2 * k) 0) (2 * k + 1) 0 = zf b i (k + 1) := by
  funext p; unfold upd zf
  by_cases h1 : p = 2 * k + 1
  · rw [if_pos h1, if_pos (by omega)]
  · rw [if_neg h1]
    by_cases h2 : p = 2 * k
    · rw [if_pos h2, if_pos (by omega)]
    · rw [if_neg h2]
      by_cases h3 : 2 * i ≤ p ∧ p < 2 * k
      · rw [if_pos h3, if_pos (by omega)]
      · rw [if_neg h3, if_neg (by omega)]
theorem ba_cc0 : (⟨#[]⟩ : ByteArray) ++ (⟨#[58, 58]⟩ : ByteArray) = ba [58, 58] := ba_app [] [58, 58]
/-- The text: groups i .. j - 1 left out. -/
def Tx (S : List Int) (i j : Nat) : List Int := (if 0 < i then S.take (5 * i - 1) else []) ++ [58, 58] ++ (if j < 8 then S.drop (5 * j) else [])
set_option maxHeartbeats 4000000 in
set_option maxRecDepth 100000 in
theorem law19w (b : Nat → Int) (y z : Int) (hy : 0 ≤ y ∧ y < 256) (hz : 0 ≤ z ∧ z < 256) (S : List Int) (hS : S.length = 39) (i j : Nat) (hi : i = (y % 8).toNat) (hj : j = i + 1 + (z % (8 - i)).toNat) {b4 o4 b6 o6 : Nat} (w : World) (hg : Gl b4 o4 b6 o6 w)
    (hE : ∀ w, Calls Tryd.prog 65 #[.agg (adr 16 (zf b i j) ⟨#[]⟩)] w fun e w' => e = .returned (.string (ba S)) ∧ Below w.heap.size w w')
    (hP : ∀ w, Gl b4 o4 b6 o6 w → Calls Tryd.prog 66 #[.string (ba (Tx S i j))] w fun e w' => e = .returned (.tuple #[.agg (adr 16 (zf b i j) ⟨#[]⟩), .bool true]) ∧ Below w.heap.size w w') :
    Calls Tryd.prog 19 #[.agg (arr16 b), .int .u8 y, .int .u8 z] w fun e w' => e = .returned (.bool true) ∧ Below w.heap.size w w' := by
  have HG := Lib.hid hg
  have HE := Lib.hid hE
  have HP := Lib.hid hP
  have hEq : adrEq 16 (zf b i j) ⟨#[]⟩ 16 (zf b i j) ⟨#[]⟩ = true := (adrEq_iff _ _ _ _ _ _).2 ⟨rfl, fun _ _ => rfl, rfl⟩
  have hmd : y.tmod 8 = (i : Int) := by rw [Int.tmod_eq_emod_of_nonneg hy.1]; omega
  have hi8 : i < 8 := by omega
  obtain ⟨N, hN⟩ : ∃ N : Nat, N = 8 - i := ⟨_, rfl⟩
  have hN1 : (8 : Int) - (i : Int) = (N : Int) := by omega
  obtain ⟨M, hM⟩ : ∃ M : Nat, M = (z % (N : Int)).toNat := ⟨_, rfl⟩
  have hMz : z.tmod (N : Int) = (M : Int) := by
    rw [Int.tmod_eq_emod_of_nonneg hz.1]
    have := Int.emod_nonneg z (b := (N : Int)) (by omega)
    omega
  have hMl : M < N := by
    have := Int.emod_lt_of_pos z (b := (N : Int)) (by omega)
    have := Int.emod_nonneg z (b := (N : Int)) (by omega)
    omega
  rw [hN1, ← hM] at hj
  have hjj : (i : Int) + 1 + (M : Int) = (j : Int) := by omega
  have hij : i < j := by omega
  have hj8 : j ≤ 8 := by omega
  have hN0 : (((N : Nat) : Int) == 0) = false := beq_eq_false_iff_ne.2 (by omega)
  have hN0' : ¬ (N = 0) := by omega
  have u0 := wr64 (i : Int) (by omega) (by omega)
  have u1 := wr64 ((i : Int) + 1) (by omega) (by omega)
  have u2 := wr64 z (by omega) (by omega)
  have u3 := wr64 (N : Int) (by omega) (by omega)
  have u4 := wr64 (j : Int) (by omega) (by omega)
  have u5 := wr64 (M : Int) (by omega) (by omega)
  clear hg hE hP hy hz hi hj hN hM hMl
  go_enter Tryd.func19, Tryd.ntmps19
  go_wp2
  go_loopw [9] (fun v9 wr => ∃ k : Nat, i ≤ k ∧ k ≤ j ∧ v9 = .int .i64 (k : Int) ∧ blk? wr w.heap.size = some (arr16 (zf b i k)) ∧ Below w.heap.size w wr) (fun v _ => j - (intOf v).toNat)
  case atStart => exact ⟨i, Nat.le_refl _, by omega, rfl, by rw [zf_start]; go_simp, (by repeat' (first | (with_reducible exact Below.refl _ _) | (with_reducible assumption) | (with_reducible refine Below.alloc ?_ ?_ _) | (with_reducible refine Below.drew ?_) | (with_reducible refine below_drewN ?_ _) | (with_reducible refine Below.setCell ?_ ?_ _) | (with_reducible refine below_setRow' ?_ ?_ _) | go_size))⟩
  case round =>
    obtain ⟨k, hik, hkj, rfl, k0, hBw⟩ := hrel
    have hl0 := blk?_lt k0
    by_cases hlt : k < j
    · have c1 : (k : Int) < (j : Int) := by omega
      obtain ⟨J, hJ⟩ : ∃ J : Nat, J = 2 * k := ⟨_, rfl⟩
      have q1 : (2 : Int) * (k : Int) = (J : Int) := by omega
      have v0 := wr64 (J : Int) (by omega) (by omega)
      have v1 := wr64 ((J : Int) + 1) (by omega) (by omega)
      have v2 := wr64 ((k : Int) + 1) (by omega) (by omega)
      have z0 : (0 : Int) ≤ (J : Int) := by omega
      have z1 : (J : Int) < 16 := by omega
      have z2 : (0 : Int) ≤ (J : Int) + 1 := by omega
      have z3 : (J : Int) + 1 < 16 := by omega
      have hu1 : wr.cell? ⟨w.heap.size, J, none⟩ = some (.int .u8 (zf b i k J)) := by rw [blk?_cell k0]; exact arr16_byte _ J (by omega)
      have hu2 : wr.frozen? ⟨w.heap.size, J, none⟩ = false := blk?_frozen k0 _
      have hk2 : ∀ v : Int, blk? (wr.setCell ⟨w.heap.size, J, none⟩ (.int .u8 v)) w.heap.size = some (arr16 (upd (zf b i k) J v)) := fun v => by rw [blk?_setSame, k0, Option.map_some, arr16_set _ _ _ (by omega)]
      have hu3 : ∀ v : Int, (wr.setCell ⟨w.heap.size, J, none⟩ (.int .u8 v)).cell? ⟨w.heap.size, J + 1, none⟩ = some (.int .u8 (upd (zf b i k) J v (J + 1))) := fun v => by rw [blk?_cell (hk2 v)]; exact arr16_byte _ (J + 1) (by omega)
      have hu4 : ∀ v : Int, (wr.setCell ⟨w.heap.size, J, none⟩ (.int .u8 v)).frozen? ⟨w.heap.size, J + 1, none⟩ = false := fun v => blk?_frozen (hk2 v) _
      have HJ := Lib.hid (And.intro hJ (And.intro hik hlt))
      have hJl : J + 1 < 16 := by omega
      clear hJ hik hkj hlt
      go_wp2
      go_roundw
      case rel =>
        obtain ⟨hJ, hik, hlt⟩ := HJ.out
        exact ⟨k + 1, by omega, by omega, by go_num, by rw [blk?_setSame, hk2, Option.map_some, arr16_set _ _ _ hJl, hJ, zf_step _ _ _ hik], (by repeat' (first | (with_reducible exact Below.refl _ _) | (with_reducible assumption) | (with_reducible refine Below.alloc ?_ ?_ _) | (with_reducible refine Below.drew ?_) | (with_reducible refine below_drewN ?_ _) | (with_reducible refine Below.setCell ?_ ?_ _) | (with_reducible refine below_setRow' ?_ ?_ _) | go_size))⟩
      case measure => have := HJ.out; simp [intOf]; omega
    · obtain rfl : k = j := by omega
      have c1 : ¬ ((k : Int) < (k : Int)) := by omega
      obtain ⟨j, hjk⟩ : ∃ j : Nat, j = k := ⟨_, rfl⟩
      subst hjk
      go_upto_region 8 with fail
      have hQ0 : wr.heap.size < wr.heap.size + 1 := Nat.lt_succ_self _
      by_cases ci0 : 0 < i
      · by_cases cj0 : j < 8
        · obtain ⟨QL, hQL⟩ : ∃ Q : Nat, Q = 5 * i := ⟨_, rfl⟩
          obtain ⟨KL, hKL⟩ : ∃ Q : Nat, Q = 5 * i - 1 := ⟨_, rfl⟩
          have q1 : (5 : Int) * (i : Int) = (QL : Int) := by omega
          have q2 : (QL : Int) - 1 = (KL : Int) := by omega
          have v1 := wr64 (QL : Int) (by omega) (by omega)
          have v2 := wr64 (KL : Int) (by omega) (by omega)
          have z2 : (0 : Int) ≤ (KL : Int) := by omega
          have s2 : (KL : Int) ≤ (((ba S).size : Nat) : Int) := by rw [ba_size, hS]; omega
          have s2' : KL ≤ (ba S).size := by rw [ba_size, hS]; omega
          have x2 := ba_take S KL
          have n1 := ba_cc (S.take KL)
          have l1 := lim_cc (S.take KL) (by rw [List.length_take]; omega)
          have ci : (0 : Int) < (i : Int) := by omega
          obtain ⟨KR, hKR⟩ : ∃ Q : Nat, Q = 5 * j := ⟨_, rfl⟩
          have q3 : (5 : Int) * (j : Int) = (KR : Int) := by omega
          have v3 := wr64 (KR : Int) (by omega) (by omega)
          have z3 : (0 : Int) ≤ (KR : Int) := by omega
          have s3 : (KR : Int) ≤ (((ba S).size : Nat) : Int) := by rw [ba_size, hS]; omega
          have s3' : KR ≤ (ba S).size := by rw [ba_size, hS]; omega
          have x3 := ba_dropx S KR
          have n2 := ba_app (S.take KL ++ [58, 58]) (S.drop KR)
          have l2 := lim_of (S.take KL ++ [58, 58]) (S.drop KR) (by simp [hS]; omega)
          have cj : (j : Int) < 8 := by omega
          have hT : Tx S i j = S.take KL ++ [58, 58] ++ S.drop KR := by unfold Tx; rw [if_pos (by omega), ← hKL]; rw [if_pos (by omega), ← hKR]
          have hp := HP.out
          rw [hT] at hp
          have HP' := Lib.hid hp
          clear hp HP hT
          generalize S.take KL ++ [58, 58] ++ S.drop KR = Y0 at *
          generalize S.take KL ++ [58, 58] = Y1 at *
          generalize S.take KL = Y2 at *
          generalize S.drop KR = Y3 at *
          clear hS hij hj8 hi8 hQL hKL hKR
          go_wp2_with (first
            | (go_at_call 38; (with_reducible refine (sa_any _ _ _ _).mono ?_); rintro e w1 ⟨rfl, hb1⟩; have hk1 := blk?_below hb1; (try simp only [size_drew', size_drewN'] at hk1); have hB1 := below_via (w := w) (by repeat' (first | (with_reducible exact Below.refl _ _) | (with_reducible assumption) | (with_reducible refine Below.alloc ?_ ?_ _) | (with_reducible refine Below.drew ?_) | (with_reducible refine below_drewN ?_ _) | (with_reducible refine Below.setCell ?_ ?_ _) | (with_reducible refine below_setRow' ?_ ?_ _) | go_size)) hb1; have hL0 : wr.heap.size < w1.heap.size := (by have hS0 := hb1.size; (try simp at hS0); omega); have hS9 := hb1.size; (try simp [Nat.add_one_le_iff] at hS9); (try (have hS8 := Nat.lt_of_succ_lt hS9)); have hLe : w.heap.size ≤ w1.heap.size := hB1.size; clear hb1)
            | (go_at_call 65; (with_reducible refine (HE.out _).mono ?_); rintro e w2 ⟨rfl, hb1⟩; have hk1 := blk?_below hb1; (try simp only [size_drew', size_drewN'] at hk1); have hB1 := below_via (w := w) (by repeat' (first | (with_reducible exact Below.refl _ _) | (with_reducible assumption) | (with_reducible refine Below.alloc ?_ ?_ _) | (with_reducible refine Below.drew ?_) | (with_reducible refine below_drewN ?_ _) | (with_reducible refine Below.setCell ?_ ?_ _) | (with_reducible refine below_setRow' ?_ ?_ _) | go_size)) hb1; have hL0 : wr.heap.size < w2.heap.size := (by have hS0 := hb1.size; (try simp at hS0); omega); have hS9 := hb1.size; (try simp [Nat.add_one_le_iff] at hS9); (try (have hS8 := Nat.lt_of_succ_lt hS9)); have hLe : w.heap.size ≤ w2.heap.size := hB1.size; clear hb1)
            | (go_at_call 66; (with_reducible refine (HP'.out _ ?_).mono ?_); (exact HG.out.below (by repeat' (first | (with_reducible exact Below.refl _ _) | (with_reducible assumption) | (with_reducible refine Below.alloc ?_ ?_ _) | (with_reducible refine Below.drew ?_) | (with_reducible refine below_drewN ?_ _) | (with_reducible refine Below.setCell ?_ ?_ _) | (with_reducible refine below_setRow' ?_ ?_ _) | go_size)) (Nat.le_refl _)); rintro e w3 ⟨rfl, hb1⟩; have hk1 := blk?_below hb1; (try simp only [size_drew', size_drewN'] at hk1); have hB1 := below_via (w := w) (by repeat' (first | (with_reducible exact Below.refl _ _) | (with_reducible assumption) | (with_reducible refine Below.alloc ?_ ?_ _) | (with_reducible refine Below.drew ?_) | (with_reducible refine below_drewN ?_ _) | (with_reducible refine Below.setCell ?_ ?_ _) | (with_reducible refine below_setRow' ?_ ?_ _) | go_size)) hb1; have hL0 : wr.heap.size < w3.heap.size := (by have hS0 := hb1.size; (try simp at hS0); omega); have hS9 := hb1.size; (try simp [Nat.add_one_le_iff] at hS9); (try (have hS8 := Nat.lt_of_succ_lt hS9)); have hLe : w.heap.size ≤ w3.heap.size := hB1.size; clear hb1))
          go_ret
          exact ⟨rfl, (by repeat' (first | (with_reducible exact Below.refl _ _) | (with_reducible assumption) | (with_reducible refine Below.alloc ?_ ?_ _) | (with_reducible refine Below.drew ?_) | (with_reducible refine below_drewN ?_ _) | (with_reducible refine Below.setCell ?_ ?_ _) | (with_reducible refine below_setRow' ?_ ?_ _) | go_size))⟩
        · obtain ⟨QL, hQL⟩ : ∃ Q : Nat, Q = 5 * i := ⟨_, rfl⟩
          obtain ⟨KL, hKL⟩ : ∃ Q : Nat, Q = 5 * i - 1 := ⟨_, rfl⟩
          have q1 : (5 : Int) * (i : Int) = (QL : Int) := by omega
          have q2 : (QL : Int) - 1 = (KL : Int) := by omega
          have v1 := wr64 (QL : Int) (by omega) (by omega)
          have v2 := wr64 (KL : Int) (by omega) (by omega)
          have z2 : (0 : Int) ≤ (KL : Int) := by omega
          have s2 : (KL : Int) ≤ (((ba S).size : Nat) : Int) := by rw [ba_size, hS]; omega
          have s2' : KL ≤ (ba S).size := by rw [ba_size, hS]; omega
          have x2 := ba_take S KL
          have n1 := ba_cc (S.take KL)
          have l1 := lim_cc (S.take KL) (by rw [List.length_take]; omega)
          have ci : (0 : Int) < (i : Int) := by omega
          have n2 : ba (S.take KL ++ [58, 58]) ++ (⟨#[]⟩ : ByteArray) = ba (S.take KL ++ [58, 58]) := by rw [← ba_nil, ba_app, List.append_nil]
          have l2 : ¬ (9223372036854775807 < (ba (S.take KL ++ [58, 58])).size) := by rw [ba_size]; simp [hS]; omega
          have cj : ¬ ((j : Int) < 8) := by omega
          have hT : Tx S i j = S.take KL ++ [58, 58] := by unfold Tx; rw [if_pos (by omega), ← hKL]; rw [if_neg (by omega)]; simp
          have hp := HP.out
          rw [hT] at hp
          have HP' := Lib.hid hp
          clear hp HP hT
          generalize S.take KL ++ [58, 58] = Y0 at *
          generalize S.take KL = Y1 at *
          clear hS hij hj8 hi8 hQL hKL
          go_wp2_with (first
            | (go_at_call 38; (with_reducible refine (sa_any _ _ _ _).mono ?_); rintro e w1 ⟨rfl, hb1⟩; have hk1 := blk?_below hb1; (try simp only [size_drew', size_drewN'] at hk1); have hB1 := below_via (w := w) (by repeat' (first | (with_reducible exact Below.refl _ _) | (with_reducible assumption) | (with_reducible refine Below.alloc ?_ ?_ _) | (with_reducible refine Below.drew ?_) | (with_reducible refine below_drewN ?_ _) | (with_reducible refine Below.setCell ?_ ?_ _) | (with_reducible refine below_setRow' ?_ ?_ _) | go_size)) hb1; have hL0 : wr.heap.size < w1.heap.size := (by have hS0 := hb1.size; (try simp at hS0); omega); have hS9 := hb1.size; (try simp [Nat.add_one_le_iff] at hS9); (try (have hS8 := Nat.lt_of_succ_lt hS9)); have hLe : w.heap.size ≤ w1.heap.size := hB1.size; clear hb1)
            | (go_at_call 65; (with_reducible refine (HE.out _).mono ?_); rintro e w2 ⟨rfl, hb1⟩; have hk1 := blk?_below hb1; (try simp only [size_drew', size_drewN'] at hk1); have hB1 := below_via (w := w) (by repeat' (first | (with_reducible exact Below.refl _ _) | (with_reducible assumption) | (with_reducible refine Below.alloc ?_ ?_ _) | (with_reducible refine Below.drew ?_) | (with_reducible refine below_drewN ?_ _) | (with_reducible refine Below.setCell ?_ ?_ _) | (with_reducible refine below_setRow' ?_ ?_ _) | go_size)) hb1; have hL0 : wr.heap.size < w2.heap.size := (by have hS0 := hb1.size; (try simp at hS0); omega); have hS9 := hb1.size; (try simp [Nat.add_one_le_iff] at hS9); (try (have hS8 := Nat.lt_of_succ_lt hS9)); have hLe : w.heap.size ≤ w2.heap.size := hB1.size; clear hb1)
            | (go_at_call 66; (with_reducible refine (HP'.out _ ?_).mono ?_); (exact HG.out.below (by repeat' (first | (with_reducible exact Below.refl _ _) | (with_reducible assumption) | (with_reducible refine Below.alloc ?_ ?_ _) | (with_reducible refine Below.drew ?_) | (with_reducible refine below_drewN ?_ _) | (with_reducible refine Below.setCell ?_ ?_ _) | (with_reducible refine below_setRow' ?_ ?_ _) | go_size)) (Nat.le_refl _)); rintro e w3 ⟨rfl, hb1⟩; have hk1 := blk?_below hb1; (try simp only [size_drew', size_drewN'] at hk1); have hB1 := below_via (w := w) (by repeat' (first | (with_reducible exact Below.refl _ _) | (with_reducible assumption) | (with_reducible refine Below.alloc ?_ ?_ _) | (with_reducible refine Below.drew ?_) | (with_reducible refine below_drewN ?_ _) | (with_reducible refine Below.setCell ?_ ?_ _) | (with_reducible refine below_setRow' ?_ ?_ _) | go_size)) hb1; have hL0 : wr.heap.size < w3.heap.size := (by have hS0 := hb1.size; (try simp at hS0); omega); have hS9 := hb1.size; (try simp [Nat.add_one_le_iff] at hS9); (try (have hS8 := Nat.lt_of_succ_lt hS9)); have hLe : w.heap.size ≤ w3.heap.size := hB1.size; clear hb1))
          go_ret
          exact ⟨rfl, (by repeat' (first | (with_reducible exact Below.refl _ _) | (with_reducible assumption) | (with_reducible refine Below.alloc ?_ ?_ _) | (with_reducible refine Below.drew ?_) | (with_reducible refine below_drewN ?_ _) | (with_reducible refine Below.setCell ?_ ?_ _) | (with_reducible refine below_setRow' ?_ ?_ _) | go_size))⟩
      · by_cases cj0 : j < 8
        · have n1 := ba_cc0
          have ci : ¬ ((0 : Int) < (i : Int)) := by omega
          obtain ⟨KR, hKR⟩ : ∃ Q : Nat, Q = 5 * j := ⟨_, rfl⟩
          have q3 : (5 : Int) * (j : Int) = (KR : Int) := by omega
          have v3 := wr64 (KR : Int) (by omega) (by omega)
          have z3 : (0 : Int) ≤ (KR : Int) := by omega
          have s3 : (KR : Int) ≤ (((ba S).size : Nat) : Int) := by rw [ba_size, hS]; omega
          have s3' : KR ≤ (ba S).size := by rw [ba_size, hS]; omega
          have x3 := ba_dropx S KR
          have n2 := ba_app ([58, 58]) (S.drop KR)
          have l2 := lim_of ([58, 58]) (S.drop KR) (by simp [hS]; omega)
          have cj : (j : Int) < 8 := by omega
          have hT : Tx S i j = [58, 58] ++ S.drop KR := by unfold Tx; rw [if_neg (by omega)]; rw [if_pos (by omega), ← hKR]; rfl
          have hp := HP.out
          rw [hT] at hp
          have HP' := Lib.hid hp
          clear hp HP hT
          generalize [58, 58] ++ S.drop KR = Y0 at *
          generalize S.drop KR = Y1 at *
          clear hS hij hj8 hi8 hKR
          go_wp2_with (first
            | (go_at_call 38; (with_reducible refine (sa_any _ _ _ _).mono ?_); rintro e w1 ⟨rfl, hb1⟩; have hk1 := blk?_below hb1; (try simp only [size_drew', size_drewN'] at hk1); have hB1 := below_via (w := w) (by repeat' (first | (with_reducible exact Below.refl _ _) | (with_reducible assumption) | (with_reducible refine Below.alloc ?_ ?_ _) | (with_reducible refine Below.drew ?_) | (with_reducible refine below_drewN ?_ _) | (with_reducible refine Below.setCell ?_ ?_ _) | (with_reducible refine below_setRow' ?_ ?_ _) | go_size)) hb1; have hL0 : wr.heap.size < w1.heap.size := (by have hS0 := hb1.size; (try simp at hS0); omega); have hS9 := hb1.size; (try simp [Nat.add_one_le_iff] at hS9); (try (have hS8 := Nat.lt_of_succ_lt hS9)); have hLe : w.heap.size ≤ w1.heap.size := hB1.size; clear hb1)
            | (go_at_call 65; (with_reducible refine (HE.out _).mono ?_); rintro e w2 ⟨rfl, hb1⟩; have hk1 := blk?_below hb1; (try simp only [size_drew', size_drewN'] at hk1); have hB1 := below_via (w := w) (by repeat' (first | (with_reducible exact Below.refl _ _) | (with_reducible assumption) | (with_reducible refine Below.alloc ?_ ?_ _) | (with_reducible refine Below.drew ?_) | (with_reducible refine below_drewN ?_ _) | (with_reducible refine Below.setCell ?_ ?_ _) | (with_reducible refine below_setRow' ?_ ?_ _) | go_size)) hb1; have hL0 : wr.heap.size < w2.heap.size := (by have hS0 := hb1.size; (try simp at hS0); omega); have hS9 := hb1.size; (try simp [Nat.add_one_le_iff] at hS9); (try (have hS8 := Nat.lt_of_succ_lt hS9)); have hLe : w.heap.size ≤ w2.heap.size := hB1.size; clear hb1)
            | (go_at_call 66; (with_reducible refine (HP'.out _ ?_).mono ?_); (exact HG.out.below (by repeat' (first | (with_reducible exact Below.refl _ _) | (with_reducible assumption) | (with_reducible refine Below.alloc ?_ ?_ _) | (with_reducible refine Below.drew ?_) | (with_reducible refine below_drewN ?_ _) | (with_reducible refine Below.setCell ?_ ?_ _) | (with_reducible refine below_setRow' ?_ ?_ _) | go_size)) (Nat.le_refl _)); rintro e w3 ⟨rfl, hb1⟩; have hk1 := blk?_below hb1; (try simp only [size_drew', size_drewN'] at hk1); have hB1 := below_via (w := w) (by repeat' (first | (with_reducible exact Below.refl _ _) | (with_reducible assumption) | (with_reducible refine Below.alloc ?_ ?_ _) | (with_reducible refine Below.drew ?_) | (with_reducible refine below_drewN ?_ _) | (with_reducible refine Below.setCell ?_ ?_ _) | (with_reducible refine below_setRow' ?_ ?_ _) | go_size)) hb1; have hL0 : wr.heap.size < w3.heap.size := (by have hS0 := hb1.size; (try simp at hS0); omega); have hS9 := hb1.size; (try simp [Nat.add_one_le_iff] at hS9); (try (have hS8 := Nat.lt_of_succ_lt hS9)); have hLe : w.heap.size ≤ w3.heap.size := hB1.size; clear hb1))
          go_ret
          exact ⟨rfl, (by repeat' (first | (with_reducible exact Below.refl _ _) | (with_reducible assumption) | (with_reducible refine Below.alloc ?_ ?_ _) | (with_reducible refine Below.drew ?_) | (with_reducible refine below_drewN ?_ _) | (with_reducible refine Below.setCell ?_ ?_ _) | (with_reducible refine below_setRow' ?_ ?_ _) | go_size))⟩
        · have n1 := ba_cc0
          have ci : ¬ ((0 : Int) < (i : Int)) := by omega
          have n2 : ba ([58, 58]) ++ (⟨#[]⟩ : ByteArray) = ba ([58, 58]) := by rw [← ba_nil, ba_app, List.append_nil]
          have l2 : ¬ (9223372036854775807 < (ba ([58, 58])).size) := by rw [ba_size]; simp [hS]
          have cj : ¬ ((j : Int) < 8) := by omega
          have hT : Tx S i j = [58, 58] := by unfold Tx; rw [if_neg (by omega)]; rw [if_neg (by omega)]; simp
          have hp := HP.out
          rw [hT] at hp
          have HP' := Lib.hid hp
          clear hp HP hT
          clear hS hij hj8 hi8
          go_wp2_with (first
            | (go_at_call 38; (with_reducible refine (sa_any _ _ _ _).mono ?_); rintro e w1 ⟨rfl, hb1⟩; have hk1 := blk?_below hb1; (try simp only [size_drew', size_drewN'] at hk1); have hB1 := below_via (w := w) (by repeat' (first | (with_reducible exact Below.refl _ _) | (with_reducible assumption) | (with_reducible refine Below.alloc ?_ ?_ _) | (with_reducible refine Below.drew ?_) | (with_reducible refine below_drewN ?_ _) | (with_reducible refine Below.setCell ?_ ?_ _) | (with_reducible refine below_setRow' ?_ ?_ _) | go_size)) hb1; have hL0 : wr.heap.size < w1.heap.size := (by have hS0 := hb1.size; (try simp at hS0); omega); have hS9 := hb1.size; (try simp [Nat.add_one_le_iff] at hS9); (try (have hS8 := Nat.lt_of_succ_lt hS9)); have hLe : w.heap.size ≤ w1.heap.size := hB1.size; clear hb1)
            | (go_at_call 65; (with_reducible refine (HE.out _).mono ?_); rintro e w2 ⟨rfl, hb1⟩; have hk1 := blk?_below hb1; (try simp only [size_drew', size_drewN'] at hk1); have hB1 := below_via (w := w) (by repeat' (first | (with_reducible exact Below.refl _ _) | (with_reducible assumption) | (with_reducible refine Below.alloc ?_ ?_ _) | (with_reducible refine Below.drew ?_) | (with_reducible refine below_drewN ?_ _) | (with_reducible refine Below.setCell ?_ ?_ _) | (with_reducible refine below_setRow' ?_ ?_ _) | go_size)) hb1; have hL0 : wr.heap.size < w2.heap.size := (by have hS0 := hb1.size; (try simp at hS0); omega); have hS9 := hb1.size; (try simp [Nat.add_one_le_iff] at hS9); (try (have hS8 := Nat.lt_of_succ_lt hS9)); have hLe : w.heap.size ≤ w2.heap.size := hB1.size; clear hb1)
            | (go_at_call 66; (with_reducible refine (HP'.out _ ?_).mono ?_); (exact HG.out.below (by repeat' (first | (with_reducible exact Below.refl _ _) | (with_reducible assumption) | (with_reducible refine Below.alloc ?_ ?_ _) | (with_reducible refine Below.drew ?_) | (with_reducible refine below_drewN ?_ _) | (with_reducible refine Below.setCell ?_ ?_ _) | (with_reducible refine below_setRow' ?_ ?_ _) | go_size)) (Nat.le_refl _)); rintro e w3 ⟨rfl, hb1⟩; have hk1 := blk?_below hb1; (try simp only [size_drew', size_drewN'] at hk1); have hB1 := below_via (w := w) (by repeat' (first | (with_reducible exact Below.refl _ _) | (with_reducible assumption) | (with_reducible refine Below.alloc ?_ ?_ _) | (with_reducible refine Below.drew ?_) | (with_reducible refine below_drewN ?_ _) | (with_reducible refine Below.setCell ?_ ?_ _) | (with_reducible refine below_setRow' ?_ ?_ _) | go_size)) hb1; have hL0 : wr.heap.size < w3.heap.size := (by have hS0 := hb1.size; (try simp at hS0); omega); have hS9 := hb1.size; (try simp [Nat.add_one_le_iff] at hS9); (try (have hS8 := Nat.lt_of_succ_lt hS9)); have hLe : w.heap.size ≤ w3.heap.size := hB1.size; clear hb1))
          go_ret
          exact ⟨rfl, (by repeat' (first | (with_reducible exact Below.refl _ _) | (with_reducible assumption) | (with_reducible refine Below.alloc ?_ ?_ _) | (with_reducible refine Below.drew ?_) | (with_reducible refine below_drewN ?_ _) | (with_reducible refine Below.setCell ?_ ?_ _) | (with_reducible refine below_setRow' ?_ ?_ _) | go_size))⟩
end Go.Proofs.YtmlkcgacneealaaDoor
