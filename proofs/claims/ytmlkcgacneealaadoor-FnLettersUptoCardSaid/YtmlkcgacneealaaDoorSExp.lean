/- The reference's StringExpanded of an IPv6 address without a zone. No conditions but on the bytes. -/
import Derived.Test.YtmlkcgacneealaaDoorOwn
import Derived.Test.YtmlkcgacneealaaDoorTxt6
import Derived.Deep.AppendLies
import Derived.Laws.Concat
import Derived.Deep.DeepCutAuto
set_option linter.unusedVariables false
set_option linter.unusedSimpArgs false
namespace Go.Proofs.YtmlkcgacneealaaDoor
open Go.RowKit

theorem dig_ext_fin : ∀ x : Fin 16, ((⟨#[48, 49, 50, 51, 52, 53, 54, 55, 56, 57, 97, 98, 99, 100, 101, 102]⟩ : ByteArray).extract x.val (x.val + 1)).data.toList = [UInt8.ofNat (dig ((x.val : Nat) : Int)).toNat] := by decide +kernel
theorem dig_ext (x : Nat) (h : x < 16) : (⟨#[48, 49, 50, 51, 52, 53, 54, 55, 56, 57, 97, 98, 99, 100, 101, 102]⟩ : ByteArray).extract x (x + 1) = ba [dig (x : Int)] := by
  have e := dig_ext_fin ⟨x, h⟩
  apply ByteArray.ext
  apply Array.toList_inj.1
  exact e
theorem ba_app (s t : List Int) : ba s ++ ba t = ba (s ++ t) := by
  apply ByteArray.ext
  simp [ba]
theorem ba_nil : ba [] = ⟨#[]⟩ := rfl
/-- k digits of n. -/
def padk : Nat → Int → List Int
  | 0, _ => []
  | k + 1, n => padk k (n / 16) ++ [dig (n % 16)]
theorem padk_len : ∀ (k : Nat) (n : Int), (padk k n).length = k
  | 0, _ => rfl
  | k + 1, n => by rw [padk, List.length_append, padk_len k]; rfl
theorem padk4 (n : Int) (h : 0 ≤ n ∧ n < 65536) : padk 4 n = padh n := by
  unfold padh
  simp only [padk, List.nil_append, List.cons_append]
  rw [show n / 16 / 16 / 16 % 16 = n / 4096 by omega, show n / 16 / 16 % 16 = n / 256 % 16 by omega]
theorem wr64 (x : Int) (h0 : 0 ≤ x) (h1 : x < 4294967296) : IntKind.i64.wrap x = x := by rw [IntKind.wrap_i64]; omega
theorem md16 (n : Int) (h : 0 ≤ n) : n.tmod 16 = ((n % 16).toNat : Int) ∧ (n % 16).toNat < 16 ∧ (((n % 16).toNat : Nat) : Int) = n % 16 := by
  rw [Int.tmod_eq_emod_of_nonneg h]; omega
set_option maxHeartbeats 4000000 in
set_option maxRecDepth 100000 in
theorem hexs1 (n : Int) (hn : 0 ≤ n ∧ n < 16) (w : World) : Calls Tryd.prog 158 #[.int .i64 n, .int .i64 1] w fun e w' => e = .returned (.string (ba (padk 1 n))) ∧ Below w.heap.size w w' := by
  obtain ⟨h1, h2, h3⟩ := md16 n hn.1
  obtain ⟨m, hm⟩ : ∃ m : Nat, m = (n % 16).toNat := ⟨_, rfl⟩
  rw [← hm] at h1 h2 h3
  have HM := Lib.hid h3
  have hex := dig_ext m h2
  have hq : n.tdiv 16 = n / 16 := Int.tdiv_eq_ediv_of_nonneg hn.1
  have q0 : (0 : Int) ≤ (m : Int) := by omega
  have q1 : (m : Int) + 1 ≤ 16 := by omega
  have q2 : m + 1 ≤ 16 := by omega
  clear h3 hm
  go_enter Tryd.func158, Tryd.ntmps158
  have c1 : ¬ (16 ≤ n) := by omega
  go_wp2
  go_ret
  refine ⟨?_, (by repeat' (first | (with_reducible exact Below.refl _ _) | (with_reducible assumption) | (with_reducible refine Below.alloc ?_ ?_ _) | (with_reducible refine Below.drew ?_) | (with_reducible refine below_drewN ?_ _) | (with_reducible refine Below.setCell ?_ ?_ _) | (with_reducible refine below_setRow' ?_ ?_ _) | go_size))⟩
  simp [ba_app, padk, HM.out]
set_option maxHeartbeats 4000000 in
set_option maxRecDepth 100000 in
theorem hexs2 (n : Int) (hn : 0 ≤ n ∧ n < 256) (w : World) : Calls Tryd.prog 158 #[.int .i64 n, .int .i64 2] w fun e w' => e = .returned (.string (ba (padk 2 n))) ∧ Below w.heap.size w w' := by
  obtain ⟨h1, h2, h3⟩ := md16 n hn.1
  obtain ⟨m, hm⟩ : ∃ m : Nat, m = (n % 16).toNat := ⟨_, rfl⟩
  rw [← hm] at h1 h2 h3
  have HM := Lib.hid h3
  have hex := dig_ext m h2
  have hq : n.tdiv 16 = n / 16 := Int.tdiv_eq_ediv_of_nonneg hn.1
  have q0 : (0 : Int) ≤ (m : Int) := by omega
  have q1 : (m : Int) + 1 ≤ 16 := by omega
  have q2 : m + 1 ≤ 16 := by omega
  clear h3 hm
  go_enter Tryd.func158, Tryd.ntmps158
  by_cases c1 : 16 ≤ n
  · go_wp2_with (first
      | (go_at_call 158; (with_reducible refine (hexs1 (n / 16) (by omega) _).mono ?_); rintro e w1 ⟨rfl, hb1⟩; have hk1 := blk?_below hb1; (try simp only [size_drew', size_drewN'] at hk1); have hB1 := below_via (w := w) (by repeat' (first | (with_reducible exact Below.refl _ _) | (with_reducible assumption) | (with_reducible refine Below.alloc ?_ ?_ _) | (with_reducible refine Below.drew ?_) | (with_reducible refine below_drewN ?_ _) | (with_reducible refine Below.setCell ?_ ?_ _) | (with_reducible refine below_setRow' ?_ ?_ _) | go_size)) hb1; have hLe : w.heap.size ≤ w1.heap.size := hB1.size; have hsz9 : ¬ (9223372036854775807 < (ba (padk 1 (n / 16))).size + (ba [dig (m : Int)]).size) := (by rw [ba_size, ba_size, padk_len]; simp); clear hb1))
    go_ret
    refine ⟨?_, (by repeat' (first | (with_reducible exact Below.refl _ _) | (with_reducible assumption) | (with_reducible refine Below.alloc ?_ ?_ _) | (with_reducible refine Below.drew ?_) | (with_reducible refine below_drewN ?_ _) | (with_reducible refine Below.setCell ?_ ?_ _) | (with_reducible refine below_setRow' ?_ ?_ _) | go_size))⟩
    simp [ba_app, padk, HM.out]
  · go_wp2_with (first
      | (go_at_call 158; (with_reducible refine (hexs1 (n / 16) (by omega) _).mono ?_); rintro e w1 ⟨rfl, hb1⟩; have hk1 := blk?_below hb1; (try simp only [size_drew', size_drewN'] at hk1); have hB1 := below_via (w := w) (by repeat' (first | (with_reducible exact Below.refl _ _) | (with_reducible assumption) | (with_reducible refine Below.alloc ?_ ?_ _) | (with_reducible refine Below.drew ?_) | (with_reducible refine below_drewN ?_ _) | (with_reducible refine Below.setCell ?_ ?_ _) | (with_reducible refine below_setRow' ?_ ?_ _) | go_size)) hb1; have hLe : w.heap.size ≤ w1.heap.size := hB1.size; have hsz9 : ¬ (9223372036854775807 < (ba (padk 1 (n / 16))).size + (ba [dig (m : Int)]).size) := (by rw [ba_size, ba_size, padk_len]; simp); clear hb1))
    go_ret
    refine ⟨?_, (by repeat' (first | (with_reducible exact Below.refl _ _) | (with_reducible assumption) | (with_reducible refine Below.alloc ?_ ?_ _) | (with_reducible refine Below.drew ?_) | (with_reducible refine below_drewN ?_ _) | (with_reducible refine Below.setCell ?_ ?_ _) | (with_reducible refine below_setRow' ?_ ?_ _) | go_size))⟩
    simp [ba_app, padk, HM.out]
set_option maxHeartbeats 4000000 in
set_option maxRecDepth 100000 in
theorem hexs3 (n : Int) (hn : 0 ≤ n ∧ n < 4096) (w : World) : Calls Tryd.prog 158 #[.int .i64 n, .int .i64 3] w fun e w' => e = .returned (.string (ba (padk 3 n))) ∧ Below w.heap.size w w' := by
  obtain ⟨h1, h2, h3⟩ := md16 n hn.1
  obtain ⟨m, hm⟩ : ∃ m : Nat, m = (n % 16).toNat := ⟨_, rfl⟩
  rw [← hm] at h1 h2 h3
  have HM := Lib.hid h3
  have hex := dig_ext m h2
  have hq : n.tdiv 16 = n / 16 := Int.tdiv_eq_ediv_of_nonneg hn.1
  have q0 : (0 : Int) ≤ (m : Int) := by omega
  have q1 : (m : Int) + 1 ≤ 16 := by omega
  have q2 : m + 1 ≤ 16 := by omega
  clear h3 hm
  go_enter Tryd.func158, Tryd.ntmps158
  by_cases c1 : 16 ≤ n
  · go_wp2_with (first
      | (go_at_call 158; (with_reducible refine (hexs2 (n / 16) (by omega) _).mono ?_); rintro e w1 ⟨rfl, hb1⟩; have hk1 := blk?_below hb1; (try simp only [size_drew', size_drewN'] at hk1); have hB1 := below_via (w := w) (by repeat' (first | (with_reducible exact Below.refl _ _) | (with_reducible assumption) | (with_reducible refine Below.alloc ?_ ?_ _) | (with_reducible refine Below.drew ?_) | (with_reducible refine below_drewN ?_ _) | (with_reducible refine Below.setCell ?_ ?_ _) | (with_reducible refine below_setRow' ?_ ?_ _) | go_size)) hb1; have hLe : w.heap.size ≤ w1.heap.size := hB1.size; have hsz9 : ¬ (9223372036854775807 < (ba (padk 2 (n / 16))).size + (ba [dig (m : Int)]).size) := (by rw [ba_size, ba_size, padk_len]; simp); clear hb1))
    go_ret
    refine ⟨?_, (by repeat' (first | (with_reducible exact Below.refl _ _) | (with_reducible assumption) | (with_reducible refine Below.alloc ?_ ?_ _) | (with_reducible refine Below.drew ?_) | (with_reducible refine below_drewN ?_ _) | (with_reducible refine Below.setCell ?_ ?_ _) | (with_reducible refine below_setRow' ?_ ?_ _) | go_size))⟩
    simp [ba_app, padk, HM.out]
  · go_wp2_with (first
      | (go_at_call 158; (with_reducible refine (hexs2 (n / 16) (by omega) _).mono ?_); rintro e w1 ⟨rfl, hb1⟩; have hk1 := blk?_below hb1; (try simp only [size_drew', size_drewN'] at hk1); have hB1 := below_via (w := w) (by repeat' (first | (with_reducible exact Below.refl _ _) | (with_reducible assumption) | (with_reducible refine Below.alloc ?_ ?_ _) | (with_reducible refine Below.drew ?_) | (with_reducible refine below_drewN ?_ _) | (with_reducible refine Below.setCell ?_ ?_ _) | (with_reducible refine below_setRow' ?_ ?_ _) | go_size)) hb1; have hLe : w.heap.size ≤ w1.heap.size := hB1.size; have hsz9 : ¬ (9223372036854775807 < (ba (padk 2 (n / 16))).size + (ba [dig (m : Int)]).size) := (by rw [ba_size, ba_size, padk_len]; simp); clear hb1))
    go_ret
    refine ⟨?_, (by repeat' (first | (with_reducible exact Below.refl _ _) | (with_reducible assumption) | (with_reducible refine Below.alloc ?_ ?_ _) | (with_reducible refine Below.drew ?_) | (with_reducible refine below_drewN ?_ _) | (with_reducible refine Below.setCell ?_ ?_ _) | (with_reducible refine below_setRow' ?_ ?_ _) | go_size))⟩
    simp [ba_app, padk, HM.out]
set_option maxHeartbeats 4000000 in
set_option maxRecDepth 100000 in
theorem hexs4 (n : Int) (hn : 0 ≤ n ∧ n < 65536) (w : World) : Calls Tryd.prog 158 #[.int .i64 n, .int .i64 4] w fun e w' => e = .returned (.string (ba (padk 4 n))) ∧ Below w.heap.size w w' := by
  obtain ⟨h1, h2, h3⟩ := md16 n hn.1
  obtain ⟨m, hm⟩ : ∃ m : Nat, m = (n % 16).toNat := ⟨_, rfl⟩
  rw [← hm] at h1 h2 h3
  have HM := Lib.hid h3
  have hex := dig_ext m h2
  have hq : n.tdiv 16 = n / 16 := Int.tdiv_eq_ediv_of_nonneg hn.1
  have q0 : (0 : Int) ≤ (m : Int) := by omega
  have q1 : (m : Int) + 1 ≤ 16 := by omega
  have q2 : m + 1 ≤ 16 := by omega
  clear h3 hm
  go_enter Tryd.func158, Tryd.ntmps158
  by_cases c1 : 16 ≤ n
  · go_wp2_with (first
      | (go_at_call 158; (with_reducible refine (hexs3 (n / 16) (by omega) _).mono ?_); rintro e w1 ⟨rfl, hb1⟩; have hk1 := blk?_below hb1; (try simp only [size_drew', size_drewN'] at hk1); have hB1 := below_via (w := w) (by repeat' (first | (with_reducible exact Below.refl _ _) | (with_reducible assumption) | (with_reducible refine Below.alloc ?_ ?_ _) | (with_reducible refine Below.drew ?_) | (with_reducible refine below_drewN ?_ _) | (with_reducible refine Below.setCell ?_ ?_ _) | (with_reducible refine below_setRow' ?_ ?_ _) | go_size)) hb1; have hLe : w.heap.size ≤ w1.heap.size := hB1.size; have hsz9 : ¬ (9223372036854775807 < (ba (padk 3 (n / 16))).size + (ba [dig (m : Int)]).size) := (by rw [ba_size, ba_size, padk_len]; simp); clear hb1))
    go_ret
    refine ⟨?_, (by repeat' (first | (with_reducible exact Below.refl _ _) | (with_reducible assumption) | (with_reducible refine Below.alloc ?_ ?_ _) | (with_reducible refine Below.drew ?_) | (with_reducible refine below_drewN ?_ _) | (with_reducible refine Below.setCell ?_ ?_ _) | (with_reducible refine below_setRow' ?_ ?_ _) | go_size))⟩
    simp [ba_app, padk, HM.out]
  · go_wp2_with (first
      | (go_at_call 158; (with_reducible refine (hexs3 (n / 16) (by omega) _).mono ?_); rintro e w1 ⟨rfl, hb1⟩; have hk1 := blk?_below hb1; (try simp only [size_drew', size_drewN'] at hk1); have hB1 := below_via (w := w) (by repeat' (first | (with_reducible exact Below.refl _ _) | (with_reducible assumption) | (with_reducible refine Below.alloc ?_ ?_ _) | (with_reducible refine Below.drew ?_) | (with_reducible refine below_drewN ?_ _) | (with_reducible refine Below.setCell ?_ ?_ _) | (with_reducible refine below_setRow' ?_ ?_ _) | go_size)) hb1; have hLe : w.heap.size ≤ w1.heap.size := hB1.size; have hsz9 : ¬ (9223372036854775807 < (ba (padk 3 (n / 16))).size + (ba [dig (m : Int)]).size) := (by rw [ba_size, ba_size, padk_len]; simp); clear hb1))
    go_ret
    refine ⟨?_, (by repeat' (first | (with_reducible exact Below.refl _ _) | (with_reducible assumption) | (with_reducible refine Below.alloc ?_ ?_ _) | (with_reducible refine Below.drew ?_) | (with_reducible refine below_drewN ?_ _) | (with_reducible refine Below.setCell ?_ ?_ _) | (with_reducible refine below_setRow' ?_ ?_ _) | go_size))⟩
    simp [ba_app, padk, HM.out]

/-- The groups of the bytes; as cells. -/
def gb (b : Nat → Int) (i : Nat) : Int := b (2 * i) * 256 + b (2 * i + 1)
def gl (b : Nat → Int) (k : Nat) : List Value := (List.range k).map fun i => .int .i64 (gb b i)
theorem gl_succ (b : Nat → Int) (k : Nat) : gl b k ++ [.int .i64 (gb b k)] = gl b (k + 1) := by unfold gl; rw [List.range_succ]; simp
theorem gl_get (b : Nat → Int) (k i : Nat) (h : i < k) : (gl b k)[i]? = some (.int .i64 (gb b i)) := by simp [gl, h]
theorem cell_of_blk {w : World} {g : Nat} {n : Int} {b : Nat → Int} {z : ByteArray} {j : Nat} (h : blk? w g = some (adr n b z)) (hj : j < 16) : w.cell? ⟨g, 1 + j, none⟩ = some (.int .u8 (b j)) := by rw [blk?_cell h, adr_byte' _ _ _ _ hj]
theorem gb_lt {b : Nat → Int} (hb : Bt b) (i : Nat) : 0 ≤ gb b i ∧ gb b i < 65536 := by
  have h1 := hb (2 * i); have h2 := hb (2 * i + 1)
  unfold gb; omega
set_option maxHeartbeats 4000000 in
set_option maxRecDepth 100000 in
theorem sgroups (b : Nat → Int) (hb : Bt b) (z : ByteArray) (w : World) : Calls Tryd.prog 119 #[.agg (adr 16 b z)] w (RowR w 3 8 (gl b 8)) := by
  obtain ⟨i0, hi, hz0, hz1, hz2⟩ := info_parts inf3
  have HB := Lib.hid hb
  clear hb
  go_enter Tryd.func119, Tryd.ntmps119
  go_wp2
  go_loopw [3, 4, 5] (fun v v4 i wr => ∃ k : Nat, k ≤ 8 ∧ i = .int .i64 k ∧ wr.ownsRow (w.heap.size + 1) 3 1 v k (gl b k) ∧ blk? wr w.heap.size = some (adr 16 b z) ∧ Below w.heap.size w wr ∧ w.heap.size + 1 ≤ wr.heap.size) (fun _ _ i _ => 8 - (intOf i).toNat)
  case atStart => exact ⟨0, by omega, rfl, World.ownsRow_nil _ _ _ _, by go_simp, (by repeat' (first | (with_reducible exact Below.refl _ _) | (with_reducible assumption) | (with_reducible refine Below.alloc ?_ ?_ _) | (with_reducible refine Below.drew ?_) | (with_reducible refine below_drewN ?_ _) | (with_reducible refine Below.setCell ?_ ?_ _) | (with_reducible refine below_setRow' ?_ ?_ _) | go_size)), by simp⟩
  case round =>
    obtain ⟨k, hkn, rfl, hown, hblk, hbel, hsz⟩ := hrel
    by_cases hlt : k < 8
    · obtain ⟨J, hJ⟩ : ∃ J : Nat, J = 2 * k := ⟨_, rfl⟩
      have hc0 : wr.cell? ⟨w.heap.size, 1 + J, none⟩ = some (.int .u8 (b J)) := by rw [blk?_cell hblk, adr_byte' _ _ _ _ (by omega)]
      have hc1 : wr.cell? ⟨w.heap.size, 1 + (J + 1), none⟩ = some (.int .u8 (b (J + 1))) := by rw [blk?_cell hblk, adr_byte' _ _ _ _ (by omega)]
      have hi1 : (k : Int) < 8 := by omega
      have hm : (2 : Int) * (k : Int) = (J : Int) := by omega
      have hJ0 : (0 : Int) ≤ (J : Int) := by omega
      have hJ1 : (J : Int) < 16 := by omega
      have hJ2 : (J : Int) + 1 < 16 := by omega
      obtain ⟨hx0, hx1⟩ := HB.out J
      obtain ⟨hy0, hy1⟩ := HB.out (J + 1)
      have hJ3 : (0 : Int) ≤ (J : Int) + 1 := by omega
      have hw0 := wr64 (J : Int) hJ0 (by omega)
      have hw1 := wr64 ((J : Int) + 1) (by omega) (by omega)
      have hw2 := wr64 (b J * 256) (by omega) (by omega)
      have hw3 := wr64 (b J * 256 + b (J + 1)) (by omega) (by omega)
      have hw4 := wr64 (b J) (by omega) (by omega)
      have hw5 := wr64 (b (J + 1)) (by omega) (by omega)
      have hgb : b J * 256 + b (J + 1) = gb b k := by unfold gb; rw [hJ]
      have HGB := Lib.hid hgb
      have HBK := Lib.hid hblk
      have HJJ := Lib.hid hJ
      have hJl : J + 1 < 16 := by omega
      have hL : w.heap.size < wr.heap.size := by omega
      have hL' : w.heap.size < wr.heap.size + 1 := by omega
      clear hgb hJ
      go_upto_region 5 with fail
      refine wp_region_held_drew (S := fun w' => w'.cell? ⟨w.heap.size, 1 + J, none⟩ = some (.int .u8 (b J)) ∧ w'.cell? ⟨w.heap.size, 1 + (J + 1), none⟩ = some (.int .u8 (b (J + 1)))) (by kernel_rfl) ?_ (fun hHeld0 => ?_)
      · ((try dsimp only); (refine ⟨?_, ?_⟩ <;> (first | (exact cell_of_blk (n := 16) (z := z) (by first | (go_simp; done) | (rw [blk_grown hgrow (by simp; omega) (fun e => by have := ownBlock_ge hown e; omega)]; go_simp)) (by omega)) | (exact cell_of_blk (n := 16) (z := z) (by first | (go_simp; done) | (rw [blk_grown hgrow (by simp; omega) (fun e => by have := ownBlock_ge hown e; omega)]; go_simp)) (by omega)) | go_simp)))
      refine wpAnyH_take (i := 0) (oi := _) (v := ?_) rfl (by kernel_rfl) (by kernel_rfl) (by kernel_rfl) (fun _ _ _ h => h) (Or.inl ⟨by rfl, ?_⟩) (by assumption) ?_
      rotate_left 1
      · (intro w hSw; (try dsimp only at hSw); (try simp only [List.getElem_toArray, List.getElem_cons_succ, List.getElem_cons_zero]); first | (go_simp; done) | (go_simp; with_reducible rfl))
      (try simp only [Act.put, List.setIfInBounds_toArray, List.set_cons_zero, List.set_cons_succ, List.getElem_toArray, List.getElem_cons_succ, List.getElem_cons_zero])
      refine wpAnyH_take (i := 1) (oi := _) (v := ?_) rfl (by kernel_rfl) (by kernel_rfl) (by kernel_rfl) (fun _ _ _ h => h) (Or.inl ⟨by rfl, ?_⟩) (by assumption) ?_
      rotate_left 1
      · (intro w hSw; (try dsimp only at hSw); (try simp only [List.getElem_toArray, List.getElem_cons_succ, List.getElem_cons_zero]); first | (go_simp; done) | (go_simp; with_reducible rfl))
      (try simp only [Act.put, List.setIfInBounds_toArray, List.set_cons_zero, List.set_cons_succ, List.getElem_toArray, List.getElem_cons_succ, List.getElem_cons_zero])
      refine wpAnyH_take (i := 2) (oi := _) (v := ?_) rfl (by kernel_rfl) (by kernel_rfl) (by kernel_rfl) (fun _ _ _ h => h) (Or.inl ⟨by rfl, ?_⟩) (by assumption) ?_
      rotate_left 1
      · (intro w hSw; (try dsimp only at hSw); (try simp only [List.getElem_toArray, List.getElem_cons_succ, List.getElem_cons_zero]); first | (go_simp; done) | (go_simp; with_reducible rfl))
      (try simp only [Act.put, List.setIfInBounds_toArray, List.set_cons_zero, List.set_cons_succ, List.getElem_toArray, List.getElem_cons_succ, List.getElem_cons_zero])
      refine wpAnyH_take (i := 3) (oi := _) (v := ?_) rfl (by kernel_rfl) (by kernel_rfl) (by kernel_rfl) (fun _ _ _ h => h) (Or.inl ⟨by rfl, ?_⟩) (by assumption) ?_
      rotate_left 1
      · (intro w hSw; (try dsimp only at hSw); (try simp only [List.getElem_toArray, List.getElem_cons_succ, List.getElem_cons_zero]); first | (go_simp; done) | (go_simp; with_reducible rfl))
      (try simp only [Act.put, List.setIfInBounds_toArray, List.set_cons_zero, List.set_cons_succ, List.getElem_toArray, List.getElem_cons_succ, List.getElem_cons_zero])
      refine wpAnyH_take (i := 4) (oi := _) (v := ?_) rfl (by kernel_rfl) (by kernel_rfl) (by kernel_rfl) (fun _ _ _ h => h) (Or.inl ⟨by rfl, ?_⟩) (by assumption) ?_
      rotate_left 1
      · (intro w hSw; (try dsimp only at hSw); (try simp only [List.getElem_toArray, List.getElem_cons_succ, List.getElem_cons_zero]); first | (go_simp; done) | (go_simp; with_reducible rfl))
      (try simp only [Act.put, List.setIfInBounds_toArray, List.set_cons_zero, List.set_cons_succ, List.getElem_toArray, List.getElem_cons_succ, List.getElem_cons_zero])
      refine wpAnyH_take (i := 5) (oi := _) (v := ?_) rfl (by kernel_rfl) (by kernel_rfl) (by kernel_rfl) (fun _ _ _ h => h) (Or.inl ⟨by rfl, ?_⟩) (by assumption) ?_
      rotate_left 1
      · (intro w hSw; (try dsimp only at hSw); (try simp only [List.getElem_toArray, List.getElem_cons_succ, List.getElem_cons_zero]); first | (go_simp; done) | (go_simp; with_reducible rfl))
      (try simp only [Act.put, List.setIfInBounds_toArray, List.set_cons_zero, List.set_cons_succ, List.getElem_toArray, List.getElem_cons_succ, List.getElem_cons_zero])
      refine wpAnyH_take (i := 6) (oi := _) (v := ?_) rfl (by kernel_rfl) (by kernel_rfl) (by kernel_rfl) (fun _ _ _ h => h) (Or.inl ⟨by rfl, ?_⟩) (by assumption) ?_
      rotate_left 1
      · (intro w hSw; (try dsimp only at hSw); (try simp only [List.getElem_toArray, List.getElem_cons_succ, List.getElem_cons_zero]); first | (go_simp; done) | (go_simp; with_reducible rfl))
      (try simp only [Act.put, List.setIfInBounds_toArray, List.set_cons_zero, List.set_cons_succ, List.getElem_toArray, List.getElem_cons_succ, List.getElem_cons_zero])
      refine wpAnyH_take (i := 7) (oi := _) (v := ?_) rfl (by kernel_rfl) (by kernel_rfl) (by kernel_rfl) (fun _ _ _ h => h) (Or.inl ⟨by rfl, ?_⟩) (by assumption) ?_
      rotate_left 1
      · (intro w hSw; (try dsimp only at hSw); (try simp only [List.getElem_toArray, List.getElem_cons_succ, List.getElem_cons_zero]); first | (go_simp; done) | (go_simp; with_reducible rfl))
      (try simp only [Act.put, List.setIfInBounds_toArray, List.set_cons_zero, List.set_cons_succ, List.getElem_toArray, List.getElem_cons_succ, List.getElem_cons_zero])
      refine wpAnyH_take (i := 8) (oi := _) (v := ?_) rfl (by kernel_rfl) (by kernel_rfl) (by kernel_rfl) (fun _ _ _ h => h) (Or.inl ⟨by rfl, ?_⟩) (by assumption) ?_
      rotate_left 1
      · (intro w hSw; (try dsimp only at hSw); (try simp only [List.getElem_toArray, List.getElem_cons_succ, List.getElem_cons_zero]); first | (go_simp; done) | (go_simp; with_reducible rfl))
      (try simp only [Act.put, List.setIfInBounds_toArray, List.set_cons_zero, List.set_cons_succ, List.getElem_toArray, List.getElem_cons_succ, List.getElem_cons_zero])
      refine wpAnyH_take (i := 9) (oi := _) (v := ?_) rfl (by kernel_rfl) (by kernel_rfl) (by kernel_rfl) (fun _ _ _ h => h) (Or.inl ⟨by rfl, ?_⟩) (by assumption) ?_
      rotate_left 1
      · (intro w hSw; (try dsimp only at hSw); (try simp only [List.getElem_toArray, List.getElem_cons_succ, List.getElem_cons_zero]); first | (go_simp; done) | (go_simp; with_reducible rfl))
      (try simp only [Act.put, List.setIfInBounds_toArray, List.set_cons_zero, List.set_cons_succ, List.getElem_toArray, List.getElem_cons_succ, List.getElem_cons_zero])
      refine wpAnyH_take (i := 10) (oi := _) (v := ?_) rfl (by kernel_rfl) (by kernel_rfl) (by kernel_rfl) (fun _ _ _ h => h) (Or.inl ⟨by rfl, ?_⟩) (by assumption) ?_
      rotate_left 1
      · (intro w hSw; (try dsimp only at hSw); (try simp only [List.getElem_toArray, List.getElem_cons_succ, List.getElem_cons_zero]); first | (go_simp; done) | (go_simp; with_reducible rfl))
      (try simp only [Act.put, List.setIfInBounds_toArray, List.set_cons_zero, List.set_cons_succ, List.getElem_toArray, List.getElem_cons_succ, List.getElem_cons_zero])
      refine wpAnyH_take (i := 11) (oi := _) (v := ?_) rfl (by kernel_rfl) (by kernel_rfl) (by kernel_rfl) (fun _ _ _ h => h) (Or.inl ⟨by rfl, ?_⟩) (by assumption) ?_
      rotate_left 1
      · (intro w hSw; (try dsimp only at hSw); (try simp only [List.getElem_toArray, List.getElem_cons_succ, List.getElem_cons_zero]); first | (go_simp; done) | (go_simp; with_reducible rfl))
      (try simp only [Act.put, List.setIfInBounds_toArray, List.set_cons_zero, List.set_cons_succ, List.getElem_toArray, List.getElem_cons_succ, List.getElem_cons_zero])
      refine wpAnyH_take (i := 12) (oi := _) (v := ?_) rfl (by kernel_rfl) (by kernel_rfl) (by kernel_rfl) (fun _ _ _ h => h) (Or.inl ⟨by rfl, ?_⟩) (by assumption) ?_
      rotate_left 1
      · (intro w hSw; (try dsimp only at hSw); (try simp only [List.getElem_toArray, List.getElem_cons_succ, List.getElem_cons_zero]); first | (go_simp; done) | (go_simp; with_reducible rfl))
      (try simp only [Act.put, List.setIfInBounds_toArray, List.set_cons_zero, List.set_cons_succ, List.getElem_toArray, List.getElem_cons_succ, List.getElem_cons_zero])
      refine wpAnyH_take (i := 13) (oi := _) (v := ?_) rfl (by kernel_rfl) (by kernel_rfl) (by kernel_rfl) (fun _ _ _ h => h) (Or.inl ⟨by rfl, ?_⟩) (by assumption) ?_
      rotate_left 1
      · (intro w hSw; (try dsimp only at hSw); (try simp only [List.getElem_toArray, List.getElem_cons_succ, List.getElem_cons_zero]); first | (go_simp; done) | (go_simp; with_reducible rfl))
      (try simp only [Act.put, List.setIfInBounds_toArray, List.set_cons_zero, List.set_cons_succ, List.getElem_toArray, List.getElem_cons_succ, List.getElem_cons_zero])
      refine wpAnyH_take (i := 14) (oi := _) (v := ?_) rfl (by kernel_rfl) (by kernel_rfl) (by kernel_rfl) (fun _ _ _ h => h) (Or.inl ⟨by rfl, ?_⟩) (by assumption) ?_
      rotate_left 1
      · (intro w hSw; (try dsimp only at hSw); (try simp only [List.getElem_toArray, List.getElem_cons_succ, List.getElem_cons_zero]); first | (go_simp; done) | (go_simp; with_reducible rfl))
      (try simp only [Act.put, List.setIfInBounds_toArray, List.set_cons_zero, List.set_cons_succ, List.getElem_toArray, List.getElem_cons_succ, List.getElem_cons_zero])
      refine wpAnyH_take (i := 15) (oi := _) (v := ?_) rfl (by kernel_rfl) (by kernel_rfl) (by kernel_rfl) (fun _ _ _ h => h) (Or.inl ⟨by rfl, ?_⟩) (by assumption) ?_
      rotate_left 1
      · (intro w hSw; (try dsimp only at hSw); (try simp only [List.getElem_toArray, List.getElem_cons_succ, List.getElem_cons_zero]); first | (go_simp; done) | (go_simp; with_reducible rfl))
      (try simp only [Act.put, List.setIfInBounds_toArray, List.set_cons_zero, List.set_cons_succ, List.getElem_toArray, List.getElem_cons_succ, List.getElem_cons_zero])
      refine wpAnyH_ready (rs := [16]) (by kernel_rfl) (by simp) (AllReadyH.cons rfl (fun K hK => ?_) AllReadyH.nil)
      go_simp
      refine hK.out _ _ ?_ (fun hHeld1 => ?_)
      · ((try dsimp only); (refine ⟨?_, ?_⟩ <;> (first | (exact cell_of_blk (n := 16) (z := z) (by first | (go_simp; done) | (rw [blk_grown hgrow (by simp; omega) (fun e => by have := ownBlock_ge hown e; omega)]; go_simp)) (by omega)) | (exact cell_of_blk (n := 16) (z := z) (by first | (go_simp; done) | (rw [blk_grown hgrow (by simp; omega) (fun e => by have := ownBlock_ge hown e; omega)]; go_simp)) (by omega)) | go_simp)))
      clear hK K hHeld0
      (try simp only [Act.put, List.setIfInBounds_toArray, List.set_cons_zero, List.set_cons_succ, List.getElem_toArray, List.getElem_cons_succ, List.getElem_cons_zero])
      refine wpAnyH_ready (rs := [17]) (by kernel_rfl) (by simp) (AllReadyH.cons rfl (fun K hK => ?_) AllReadyH.nil)
      (refine wp_append_lies _ (.tmp 8) (.tmp 24) 62 (by rfl) (w.heap.size + 1) 3 i0 (.int .i64 0) 1 8 Tryd.underlying62 hi hz0 hz1 hz2 rfl (by decide) _ k (gl b k) (by rfl) (hown.drew.alloc _) ⟨wr.heap.size, 0, none⟩ 1 1 [.int .i64 (b J * 256 + b (J + 1))] (by rfl) (by rfl) (fun j u hj => by match j, hj with | 0, hj => simp at hj; subst hj; simp [Addr.add]) (fun u hu => by simp at hu; subst hu; rfl) (by omega) (by unfold maxLen; omega) (by omega) (by simp; omega) (wr.heap.size + 1) (by simp) ?_; intro g cap w1' hown' hgrow hat hlt)
      refine hK.out _ _ ?_ (fun hHeld2 => ?_)
      · ((try dsimp only); (refine ⟨?_, ?_⟩ <;> (first | (exact cell_of_blk (n := 16) (z := z) (by first | (go_simp; done) | (rw [blk_grown hgrow (by simp; omega) (fun e => by have := ownBlock_ge hown e; omega)]; go_simp)) (by omega)) | (exact cell_of_blk (n := 16) (z := z) (by first | (go_simp; done) | (rw [blk_grown hgrow (by simp; omega) (fun e => by have := ownBlock_ge hown e; omega)]; go_simp)) (by omega)) | go_simp)))
      clear hK K hHeld1
      (try simp only [Act.put, List.setIfInBounds_toArray, List.set_cons_zero, List.set_cons_succ, List.getElem_toArray, List.getElem_cons_succ, List.getElem_cons_zero])
      refine wpAnyH_take (i := 18) (oi := _) (v := ?_) rfl (by kernel_rfl) (by kernel_rfl) (by kernel_rfl) (fun _ _ _ h => h) (Or.inl ⟨by rfl, ?_⟩) (by assumption) ?_
      rotate_left 1
      · (intro w hSw; (try dsimp only at hSw); (try simp only [List.getElem_toArray, List.getElem_cons_succ, List.getElem_cons_zero]); first | (go_simp; done) | (go_simp; with_reducible rfl))
      (try simp only [Act.put, List.setIfInBounds_toArray, List.set_cons_zero, List.set_cons_succ, List.getElem_toArray, List.getElem_cons_succ, List.getElem_cons_zero])
      refine wpAnyH_done (by kernel_rfl) ?_ _
      have hblk' : blk? w1' w.heap.size = some (adr 16 b z) := by
        rw [blk_grown hgrow (by simp; omega) (fun e => by have := ownBlock_ge hown e; omega)]; go_simp
      have hbel' : Below w.heap.size w w1' := ((Below.drew hbel).alloc (by simp; omega) _).grown hgrow (by simp; omega) (fun j e => by have := ownBlock_ge hown e; omega)
      have hsz' : w.heap.size + 1 ≤ w1'.heap.size := by have := hgrow.size; simp at this; omega
      rw [HGB.out, gl_succ] at hown'
      clear hgrow hown hbel hsz hc0 hc1 HBK hblk hat hlt hL hL'
      go_wp2
      go_roundw
      case rel => exact ⟨k + 1, by omega, by go_num, hown', hblk', hbel', hsz'⟩
      case measure => simp [intOf]; omega
    · obtain rfl : k = 8 := by omega
      go_wp2
      go_ret
      exact ⟨_, rfl, owns_mono hown (by omega), hbel⟩
set_option maxHeartbeats 4000000 in
set_option maxRecDepth 100000 in
theorem sjoined (g : Nat → Int) (hg : ∀ i, i < 8 → 0 ≤ g i ∧ g i < 65536) (q cap : Nat) (w : World) (hq : q < w.heap.size) (hcap : 8 ≤ cap) (hc : ∀ i, i < 8 → w.cell? ⟨q, i, none⟩ = some (.int .i64 (g i))) :
    Calls Tryd.prog 118 #[.slice (some ⟨q, 0, none⟩) 8 cap, .int .i64 4] w fun e w' => e = .returned (.string (ba (jp g 8))) ∧ Below w.heap.size w w' := by
  have HC := Lib.hid hc
  have HGq := Lib.hid hg
  clear hc hg
  go_enter Tryd.func118, Tryd.ntmps118
  go_wp2
  go_loopw [5, 6, 7, 10] (fun v5 v6 v7 v10 wr => ∃ k : Nat, k ≤ 8 ∧ v10 = .int .i64 k ∧ v5 = .string (ba (jp g k)) ∧ Below w.heap.size w wr) (fun _ _ _ i _ => 8 - (intOf i).toNat)
  case atStart => exact ⟨0, by omega, rfl, rfl, Below.refl _ _⟩
  case round =>
    obtain ⟨k, hkn, rfl, rfl, hbel⟩ := hrel
    have hk0 : (0 : Int) ≤ (k : Int) := by omega
    by_cases hlt : k < 8
    · have hi1 : (k : Int) < 8 := by omega
      have hcell : wr.cell? ⟨q, k, none⟩ = some (.int .i64 (g k)) := by rw [hbel.cell (by exact hq)]; exact HC.out k hlt
      have hgk := HGq.out k hlt
      have hln := jp_len g k
      have hz1 : ¬ (9223372036854775807 < (ba (jp g k)).size + (ba ([58])).size) := by rw [ba_size, ba_size]; simp only [List.length_cons, List.length_nil]; omega
      have hz2 : ¬ (9223372036854775807 < (ba (jp g k)).size + (ba (padh (g k))).size) := by rw [ba_size, ba_size]; simp only [padh, List.length_cons, List.length_nil]; omega
      have hz3 : ¬ (9223372036854775807 < (ba (jp g k ++ [58])).size + (ba (padh (g k))).size) := by rw [ba_size, ba_size]; simp only [padh, List.length_append, List.length_cons, List.length_nil]; omega
      have hap := ba_app (jp g k) [58]
      change ba (jp g k) ++ ⟨#[58]⟩ = _ at hap
      have hap2 := ba_app (jp g k) (padh (g k))
      have hap3 := ba_app (jp g k ++ [58]) (padh (g k))
      have hz1' : ¬ (9223372036854775807 < (ba (jp g k)).size + (⟨#[58]⟩ : ByteArray).size) := hz1
      clear hln hz1
      by_cases hk : k = 0
      · have hc1 : ¬ ((0 : Int) < (k : Int)) := by omega
        have HKZ := Lib.hid hk
        clear hk
        go_wp2_with (first
          | (go_at_call 158; (with_reducible refine (hexs4 (g k) hgk _).mono ?_); rintro e w1 ⟨rfl, hb1⟩; (try rw [padk4 _ hgk]); have hB1 := below_via (w := w) (by repeat' (first | (with_reducible exact Below.refl _ _) | (with_reducible assumption) | (with_reducible refine Below.alloc ?_ ?_ _) | (with_reducible refine Below.drew ?_) | (with_reducible refine below_drewN ?_ _) | (with_reducible refine Below.setCell ?_ ?_ _) | (with_reducible refine below_setRow' ?_ ?_ _) | go_size)) hb1; clear hb1))
        go_roundw
        case rel => exact ⟨k + 1, by omega, by go_num, by rw [jp_first _ _ HKZ.out], hB1⟩
        case measure => simp [intOf]; omega
      · have hc1 : (0 : Int) < (k : Int) := by omega
        have HKZ : 0 < k := by omega
        clear hk
        go_wp2_with (first
          | (go_at_call 158; (with_reducible refine (hexs4 (g k) hgk _).mono ?_); rintro e w1 ⟨rfl, hb1⟩; (try rw [padk4 _ hgk]); have hB1 := below_via (w := w) (by repeat' (first | (with_reducible exact Below.refl _ _) | (with_reducible assumption) | (with_reducible refine Below.alloc ?_ ?_ _) | (with_reducible refine Below.drew ?_) | (with_reducible refine below_drewN ?_ _) | (with_reducible refine Below.setCell ?_ ?_ _) | (with_reducible refine below_setRow' ?_ ?_ _) | go_size)) hb1; clear hb1))
        go_roundw
        case rel => exact ⟨k + 1, by omega, by go_num, by rw [jp_more _ _ HKZ]; simp, hB1⟩
        case measure => simp [intOf]; omega
    · obtain rfl : k = 8 := by omega
      go_wp2
      go_ret
      exact ⟨rfl, hbel⟩
set_option maxHeartbeats 4000000 in
set_option maxRecDepth 100000 in
theorem stail (b : Nat → Int) (w : World) : Calls Tryd.prog 120 #[.agg (adr 16 b ⟨#[]⟩)] w fun e w' => e = .returned (.string ⟨#[]⟩) ∧ Below w.heap.size w w' := by
  go_enter Tryd.func120, Tryd.ntmps120
  go_wp2_with (first
    | (go_at_call 37; (with_reducible refine (sZone_16 _ _ _).mono ?_); rintro e w1 ⟨rfl, hb1⟩; have hk1 := blk?_below hb1; (try simp only [size_drew', size_drewN'] at hk1); have hB1 := below_via (w := w) (by repeat' (first | (with_reducible exact Below.refl _ _) | (with_reducible assumption) | (with_reducible refine Below.alloc ?_ ?_ _) | (with_reducible refine Below.drew ?_) | (with_reducible refine below_drewN ?_ _) | (with_reducible refine Below.setCell ?_ ?_ _) | (with_reducible refine below_setRow' ?_ ?_ _) | go_size)) hb1; have hL0 : w.heap.size < w1.heap.size := (by have hS0 := hb1.size; (try simp at hS0); omega); have hLe : w.heap.size ≤ w1.heap.size := hB1.size; clear hb1))
  go_ret
  exact ⟨rfl, (by repeat' (first | (with_reducible exact Below.refl _ _) | (with_reducible assumption) | (with_reducible refine Below.alloc ?_ ?_ _) | (with_reducible refine Below.drew ?_) | (with_reducible refine below_drewN ?_ _) | (with_reducible refine Below.setCell ?_ ?_ _) | (with_reducible refine below_setRow' ?_ ?_ _) | go_size))⟩
set_option maxHeartbeats 4000000 in
set_option maxRecDepth 100000 in
theorem sexp_16 (b : Nat → Int) (hb : Bt b) (w : World) : Calls Tryd.prog 65 #[.agg (adr 16 b ⟨#[]⟩)] w fun e w' => e = .returned (.string (ba (jp (gb b) 8))) ∧ Below w.heap.size w w' := by
  have HB := Lib.hid hb
  clear hb
  go_enter Tryd.func65, Tryd.ntmps65
  go_upto_region 3 with (first
    | (go_at_call 116; (with_reducible refine (sIs6_16 _ _ _).mono ?_); rintro e w0 ⟨rfl, hb1⟩; have hk1 := blk?_below hb1; (try simp only [size_drew', size_drewN'] at hk1); have hB1 := below_via (w := w) (by repeat' (first | (with_reducible exact Below.refl _ _) | (with_reducible assumption) | (with_reducible refine Below.alloc ?_ ?_ _) | (with_reducible refine Below.drew ?_) | (with_reducible refine below_drewN ?_ _) | (with_reducible refine Below.setCell ?_ ?_ _) | (with_reducible refine below_setRow' ?_ ?_ _) | go_size)) hb1; have hL0 : w.heap.size < w0.heap.size := (by have hS0 := hb1.size; (try simp at hS0); omega); have hLe : w.heap.size ≤ w0.heap.size := hB1.size; clear hb1))
  have k0 : blk? w0 w.heap.size = some (adr 16 b ⟨#[]⟩) := by go_simp
  have hz9 : ¬ (9223372036854775807 < (ba (jp (gb b) 8)).size + (⟨#[]⟩ : ByteArray).size) := by rw [ba_size, jp_len]; decide
  have hz8 : ¬ (9223372036854775807 < (ba (jp (gb b) 8)).size) := by rw [ba_size, jp_len]; decide
  have hap : ba (jp (gb b) 8) ++ (⟨#[]⟩ : ByteArray) = ba (jp (gb b) 8) := by rw [← ba_nil, ba_app, List.append_nil]
  refine wp_region_held_drew (S := fun w' => blk? w' (w.heap.size) = some (adr 16 b ⟨#[]⟩)) (by kernel_rfl) ?_ (fun hHeld0 => ?_)
  · ((try dsimp only); go_simp)
  refine wpAnyH_take (i := 0) (oi := _) (v := ?_) rfl (by kernel_rfl) (by kernel_rfl) (by kernel_rfl) (fun _ _ _ h => h) (Or.inl ⟨by rfl, ?_⟩) (by assumption) ?_
  rotate_left 1
  · (intro w hSw; (try dsimp only at hSw); (try simp only [List.getElem_toArray, List.getElem_cons_succ, List.getElem_cons_zero]); first | (go_simp; done) | (go_simp; with_reducible rfl))
  (try simp only [Act.put, List.setIfInBounds_toArray, List.set_cons_zero, List.set_cons_succ, List.getElem_toArray, List.getElem_cons_succ, List.getElem_cons_zero])
  refine wpAnyH_take (i := 3) (oi := _) (v := ?_) rfl (by kernel_rfl) (by kernel_rfl) (by kernel_rfl) (fun _ _ _ h => h) (Or.inl ⟨by rfl, ?_⟩) (by assumption) ?_
  rotate_left 1
  · (intro w hSw; (try dsimp only at hSw); (try simp only [List.getElem_toArray, List.getElem_cons_succ, List.getElem_cons_zero]); first | (go_simp; done) | (go_simp; with_reducible rfl))
  (try simp only [Act.put, List.setIfInBounds_toArray, List.set_cons_zero, List.set_cons_succ, List.getElem_toArray, List.getElem_cons_succ, List.getElem_cons_zero])
  refine wpAnyH_ready (rs := [1]) (by kernel_rfl) (by simp) (AllReadyH.cons rfl (fun K hK => ?_) AllReadyH.nil)
  go_simp
  go_wp2_with (first
    | (go_at_call 119; (with_reducible refine (sgroups b HB.out _ _).mono ?_); rintro e w1 ⟨v9, rfl, hown9, hb1⟩; obtain ⟨g9, cap9, rfl, hg0, hg1, hcap, hmax, hcell9, _⟩ := owns_cells hown9 (by omega); have HC9 := Lib.hid hcell9; clear hown9 hcell9; have hk1 := blk?_below hb1; (try simp only [size_drew', size_drewN'] at hk1); have hB1 := below_via (w := w) (by repeat' (first | (with_reducible exact Below.refl _ _) | (with_reducible assumption) | (with_reducible refine Below.alloc ?_ ?_ _) | (with_reducible refine Below.drew ?_) | (with_reducible refine below_drewN ?_ _) | (with_reducible refine Below.setCell ?_ ?_ _) | (with_reducible refine below_setRow' ?_ ?_ _) | go_size)) hb1; have hL0 : w.heap.size < w1.heap.size := (by have hS0 := hb1.size; (try simp at hS0); omega); have hLe : w.heap.size ≤ w1.heap.size := hB1.size; clear hb1))
  refine hK.out _ _ ?_ (fun hHeld1 => ?_)
  · ((try dsimp only); go_simp)
  clear hK K hHeld0
  (try simp only [Act.put, List.setIfInBounds_toArray, List.set_cons_zero, List.set_cons_succ, List.getElem_toArray, List.getElem_cons_succ, List.getElem_cons_zero])
  refine wpAnyH_ready (rs := [2]) (by kernel_rfl) (by simp) (AllReadyH.cons rfl (fun K hK => ?_) AllReadyH.nil)
  go_simp
  go_wp2_with (first
    | (go_at_call 118; (with_reducible refine (sjoined (gb b) (fun i _ => gb_lt HB.out i) g9 cap9 _ ?_ ?_ ?_).mono ?_); (first | exact hg1 | omega); (first | exact hcap | omega); (intro i hi; rw [HC9.out i hi]; exact gl_get b 8 i hi); rintro e w2 ⟨rfl, hb1⟩; have hk1 := blk?_below hb1; (try simp only [size_drew', size_drewN'] at hk1); have hB1 := below_via (w := w) (by repeat' (first | (with_reducible exact Below.refl _ _) | (with_reducible assumption) | (with_reducible refine Below.alloc ?_ ?_ _) | (with_reducible refine Below.drew ?_) | (with_reducible refine below_drewN ?_ _) | (with_reducible refine Below.setCell ?_ ?_ _) | (with_reducible refine below_setRow' ?_ ?_ _) | go_size)) hb1; have hL0 : w.heap.size < w2.heap.size := (by have hS0 := hb1.size; (try simp at hS0); omega); have hLe : w.heap.size ≤ w2.heap.size := hB1.size; clear hb1))
  refine hK.out _ _ ?_ (fun hHeld2 => ?_)
  · ((try dsimp only); go_simp)
  clear hK K hHeld1
  (try simp only [Act.put, List.setIfInBounds_toArray, List.set_cons_zero, List.set_cons_succ, List.getElem_toArray, List.getElem_cons_succ, List.getElem_cons_zero])
  refine wpAnyH_ready (rs := [4]) (by kernel_rfl) (by simp) (AllReadyH.cons rfl (fun K hK => ?_) AllReadyH.nil)
  go_simp
  go_wp2_with (first
    | (go_at_call 120; (with_reducible refine (stail _ _).mono ?_); rintro e w3 ⟨rfl, hb1⟩; have hk1 := blk?_below hb1; (try simp only [size_drew', size_drewN'] at hk1); have hB1 := below_via (w := w) (by repeat' (first | (with_reducible exact Below.refl _ _) | (with_reducible assumption) | (with_reducible refine Below.alloc ?_ ?_ _) | (with_reducible refine Below.drew ?_) | (with_reducible refine below_drewN ?_ _) | (with_reducible refine Below.setCell ?_ ?_ _) | (with_reducible refine below_setRow' ?_ ?_ _) | go_size)) hb1; have hL0 : w.heap.size < w3.heap.size := (by have hS0 := hb1.size; (try simp at hS0); omega); have hLe : w.heap.size ≤ w3.heap.size := hB1.size; clear hb1))
  refine hK.out _ _ ?_ (fun hHeld3 => ?_)
  · ((try dsimp only); go_simp)
  clear hK K hHeld2
  (try simp only [Act.put, List.setIfInBounds_toArray, List.set_cons_zero, List.set_cons_succ, List.getElem_toArray, List.getElem_cons_succ, List.getElem_cons_zero])
  refine wpAnyH_take (i := 5) (oi := _) (v := ?_) rfl (by kernel_rfl) (by kernel_rfl) (by kernel_rfl) (fun _ _ _ h => h) (Or.inl ⟨by rfl, ?_⟩) (by assumption) ?_
  rotate_left 1
  · (intro w hSw; (try dsimp only at hSw); (try simp only [List.getElem_toArray, List.getElem_cons_succ, List.getElem_cons_zero]); first | (go_simp; done) | (go_simp; with_reducible rfl))
  (try simp only [Act.put, List.setIfInBounds_toArray, List.set_cons_zero, List.set_cons_succ, List.getElem_toArray, List.getElem_cons_succ, List.getElem_cons_zero])
  refine wpAnyH_take (i := 6) (oi := _) (v := ?_) rfl (by kernel_rfl) (by kernel_rfl) (by kernel_rfl) (fun _ _ _ h => h) (Or.inl ⟨by rfl, ?_⟩) (by assumption) ?_
  rotate_left 1
  · (intro w hSw; (try dsimp only at hSw); (try simp only [List.getElem_toArray, List.getElem_cons_succ, List.getElem_cons_zero]); first | (go_simp; done) | (go_simp; with_reducible rfl))
  (try simp only [Act.put, List.setIfInBounds_toArray, List.set_cons_zero, List.set_cons_succ, List.getElem_toArray, List.getElem_cons_succ, List.getElem_cons_zero])
  refine wpAnyH_done (by kernel_rfl) ?_ _
  go_wp2
  go_ret
  exact ⟨rfl, (by repeat' (first | (with_reducible exact Below.refl _ _) | (with_reducible assumption) | (with_reducible refine Below.alloc ?_ ?_ _) | (with_reducible refine Below.drew ?_) | (with_reducible refine below_drewN ?_ _) | (with_reducible refine Below.setCell ?_ ?_ _) | (with_reducible refine below_setRow' ?_ ?_ _) | go_size))⟩
end Go.Proofs.YtmlkcgacneealaaDoor
