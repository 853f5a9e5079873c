/- bytes.Compare of two rows of bytes of one length: the order of the numbers that they make. Conditions: the cells are there. -/
import Derived.Test.YtmlkcgacneealaaDoorPNx
import Derived.Test.YtmlkcgacneealaaDoorCmp
import Derived.Lib.Bytealg
set_option linter.unusedVariables false
set_option linter.unusedSimpArgs false
namespace Go.Proofs.YtmlkcgacneealaaDoor
open Go.RowKit

/-- The bytes o .. o + n as Go's bytes; the number that they make. -/
def bls (b : Nat → Int) : Nat → Nat → List UInt8
  | _, 0 => []
  | o, n + 1 => (b o).toNat.toUInt8 :: bls b (o + 1) n
def valF (b : Nat → Int) : Nat → Nat → Int
  | _, 0 => 0
  | o, n + 1 => b o * 256 ^ n + valF b (o + 1) n
theorem p256 (n : Nat) : (0 : Int) < 256 ^ n := Int.pow_pos (by decide)
theorem valF_lt {b : Nat → Int} (hb : Bt b) : ∀ n o, 0 ≤ valF b o n ∧ valF b o n < 256 ^ n
  | 0, o => by simp [valF]
  | n + 1, o => by
    have h := valF_lt hb n (o + 1)
    have h0 := hb o
    have hp := p256 n
    have m1 : 0 ≤ b o * 256 ^ n := Int.mul_nonneg h0.1 (Int.le_of_lt hp)
    have m2 : b o * 256 ^ n ≤ 255 * 256 ^ n := Int.mul_le_mul_of_nonneg_right (by omega) (Int.le_of_lt hp)
    simp only [valF]
    rw [Int.pow_succ]
    omega
theorem u8lt {x y : Int} (hx : 0 ≤ x ∧ x < 256) (hy : 0 ≤ y ∧ y < 256) : (x.toNat.toUInt8 < y.toNat.toUInt8) ↔ x < y := by
  rw [UInt8.lt_iff_toNat_lt]
  simp only [Nat.toUInt8, UInt8.toNat_ofNat']
  rw [Nat.mod_eq_of_lt (by omega), Nat.mod_eq_of_lt (by omega)]
  omega
theorem cmpI_add (k x y : Int) : cmpI (k + x) (k + y) = cmpI x y := by
  rcases Int.lt_trichotomy x y with c | c | c
  · rw [cmpI_lt c, cmpI_lt (by omega)]
  · rw [cmpI_eq c, cmpI_eq (by omega)]
  · rw [cmpI_gt c, cmpI_gt (by omega)]
theorem cmp_val {b b' : Nat → Int} (hb : Bt b) (hb' : Bt b') : ∀ n o, Lib.compareBytes (bls b o n) (bls b' o n) = cmpI (valF b o n) (valF b' o n)
  | 0, o => by simp [bls, valF, Lib.compareBytes, cmpI]
  | n + 1, o => by
    have h := cmp_val hb hb' n (o + 1)
    have l1 := valF_lt hb n (o + 1)
    have l2 := valF_lt hb' n (o + 1)
    have hp := p256 n
    simp only [bls, valF, Lib.compareBytes]
    rcases Int.lt_trichotomy (b o) (b' o) with c | c | c
    · rw [if_pos ((u8lt (hb o) (hb' o)).2 c)]
      have m : (b o + 1) * 256 ^ n ≤ b' o * 256 ^ n := Int.mul_le_mul_of_nonneg_right (by omega) (Int.le_of_lt hp)
      rw [Int.add_mul, Int.one_mul] at m
      exact (cmpI_lt (by omega)).symm
    · rw [if_neg (fun e => by have := (u8lt (hb o) (hb' o)).1 e; omega), if_neg (fun e => by have := (u8lt (hb' o) (hb o)).1 e; omega), h, c]
      exact (cmpI_add _ _ _).symm
    · rw [if_neg (fun e => by have := (u8lt (hb o) (hb' o)).1 e; omega), if_pos ((u8lt (hb' o) (hb o)).2 c)]
      have m : (b' o + 1) * 256 ^ n ≤ b o * 256 ^ n := Int.mul_le_mul_of_nonneg_right (by omega) (Int.le_of_lt hp)
      rw [Int.add_mul, Int.one_mul] at m
      exact (cmpI_gt (by omega)).symm
theorem val4 (b : Nat → Int) : valF b 0 4 = be4f b 0 := by
  simp only [valF, be4f, be4, Nat.zero_add, Nat.reduceAdd]; omega
theorem val16 (b : Nat → Int) : valF b 0 16 = v16 b := by
  simp only [valF, v16, be8f, be8, Nat.zero_add, Nat.reduceAdd]; omega
theorem run_loadBytes (b : Nat → Int) (g : Nat) (w : World) : ∀ (n o : Nat) (acc : ByteArray), (∀ i, i < n → w.cell? ⟨g, o + i, none⟩ = some (.int .u8 (b (o + i)))) → ∃ r : ByteArray, (Extern.Bytes.loadBytes ⟨g, o, none⟩ n acc).run Tryd.prog w = .ok r w ∧ r.data.toList = acc.data.toList ++ bls b o n
  | 0, o, acc, _ => ⟨acc, rfl, by simp [bls]⟩
  | n + 1, o, acc, h => by
    have h0 := h 0 (by omega)
    obtain ⟨r, hr, hl⟩ := run_loadBytes b g w n (o + 1) (acc.push (b o).toNat.toUInt8) (fun i hi => by have := h (i + 1) (by omega); rwa [show o + (i + 1) = o + 1 + i by omega] at this)
    refine ⟨r, ?_, ?_⟩
    · unfold Extern.Bytes.loadBytes
      rw [Nat.add_zero] at h0
      simp [go_sem, h0, Addr.add, hr]
    · rw [hl]; simp [bls]
theorem call87 (b b' : Nat → Int) (hb : Bt b) (hb' : Bt b') (g g' n c c' : Nat) (w : World) (hc : ∀ i, i < n → w.cell? ⟨g, i, none⟩ = some (.int .u8 (b i))) (hc' : ∀ i, i < n → w.cell? ⟨g', i, none⟩ = some (.int .u8 (b' i))) :
    (callFunc 87 #[.slice (some ⟨g, 0, none⟩) n c, .slice (some ⟨g', 0, none⟩) n c']).run Tryd.prog w = .ok (.value (.int .i64 (cmpI (valF b 0 n) (valF b' 0 n)))) w := by
  obtain ⟨r, hr, hl⟩ := run_loadBytes b g w n 0 .empty (fun i hi => by simpa using hc i hi)
  obtain ⟨r', hr', hl'⟩ := run_loadBytes b' g' w n 0 .empty (fun i hi => by simpa using hc' i hi)
  rw [run_callFunc_extern Tryd.func87 (by kernel_rfl) (by kernel_rfl) (by kernel_rfl) (e := Extern.BytealgCompare.compare) (by kernel_rfl)]
  have e : (Extern.BytealgCompare.compare #[.slice (some ⟨g, 0, none⟩) n c, .slice (some ⟨g', 0, none⟩) n c']).run Tryd.prog w = .ok (goInt (Extern.BytealgCompare.cmp r r')) w := by
    change Sem.run Tryd.prog (do pure (goInt (Extern.BytealgCompare.cmp (← Extern.Bytes.loadBytes ⟨g, 0, none⟩ n .empty) (← Extern.Bytes.loadBytes ⟨g', 0, none⟩ n .empty)))) w = _
    simp [Sem.run_bind, hr, hr', Result.andThen_ok]
  rw [e, Lib.cmp_eq, hl, hl']
  simp only [ByteArray.data_empty, List.nil_append, Result.andThen_ok]
  have := cmp_val hb hb' n 0
  rw [this]
  rfl
set_option maxHeartbeats 4000000 in
set_option maxRecDepth 100000 in
theorem bcmp (b b' : Nat → Int) (hb : Bt b) (hb' : Bt b') (g g' n c c' : Nat) (v : Int) (hv : cmpI (valF b 0 n) (valF b' 0 n) = v) (w : World) (hc : ∀ i, i < n → w.cell? ⟨g, i, none⟩ = some (.int .u8 (b i))) (hc' : ∀ i, i < n → w.cell? ⟨g', i, none⟩ = some (.int .u8 (b' i))) :
    Calls Tryd.prog 46 #[.slice (some ⟨g, 0, none⟩) n c, .slice (some ⟨g', 0, none⟩) n c'] w fun e w' => e = .returned (.int .i64 v) ∧ Below w.heap.size w w' := by
  have h := call87 b b' hb hb' g g' n c c' w hc hc'
  rw [hv] at h
  clear hc hc' hv hb hb'
  go_enter Tryd.func46, Tryd.ntmps46
  go_wp2
  go_ret
  exact ⟨rfl, (by repeat' (first | (with_reducible exact Below.refl _ _) | (with_reducible assumption) | (with_reducible refine Below.alloc ?_ ?_ _) | (with_reducible refine Below.drew ?_) | (with_reducible refine below_drewN ?_ _) | (with_reducible refine Below.setCell ?_ ?_ _) | (with_reducible refine below_setRow' ?_ ?_ _) | go_size))⟩
end Go.Proofs.YtmlkcgacneealaaDoor
