/- parseIPv6 on a text without a percent sign: what the plain reader says. Conditions: the listed variables as laid. -/
import Derived.Test.YtmlkcgacneealaaDoorPrs6
import Derived.Test.YtmlkcgacneealaaDoorLawC
import Derived.Lib.Bytealg
import Derived.Lib.SliceRun
import Derived.Deep.DeepCutAuto
import Derived.Deep.CutBlock
set_option linter.unusedVariables false
set_option linter.unusedSimpArgs false
namespace Go.Proofs.YtmlkcgacneealaaDoor
open Go.RowKit

set_option maxHeartbeats 8000000 in
set_option maxRecDepth 100000 in
theorem parse6ab (T : List Int) (hB : By T) (h37 : ∀ c ∈ T, c ≠ 37) (hl' : T.length ≤ 1000) (x : Nat → Int) (hx : ∀ p, p ≤ 3 → 0 ≤ x p ∧ x p < 256) (t0 : List Int) (e0 : Option Nat) (hst : (2 ≤ T.length ∧ T.getD 0 0 = 58 ∧ T.getD 1 0 = 58 ∧ (T.drop 2).length ≠ 0 ∧ t0 = T.drop 2 ∧ e0 = some 0) ∨ (T.getD 0 0 ≠ 58 ∧ 1 ≤ T.length ∧ t0 = T ∧ e0 = none)) (R : Option (List Int × Nat × Option Nat × (Nat → Int))) (hR : p6 x 8 t0 0 e0 zb = R) (hOk : Ok6 R) {b4 o4 b6 o6 : Nat} (w : World) (hg : Gl b4 o4 b6 o6 w) :
    Calls Tryd.prog 160 #[.string (ba T)] w fun e w' => Pst6 (fin6 R) b6 o6 e ∧ Below w.heap.size w w' := by
  have HG := Lib.hid hg
  have HI := Lib.hid (idx_none T hB h37)
  have hix : ∀ w, (callFunc 174 #[.string (ba T), .int .u8 37]).run Tryd.prog w = .ok (.value (.int .i64 (-1))) w := HI.out
  have HSz := Lib.hid (ba_size T)
  have HRR := Lib.hid hR
  have HOk := Lib.hid hOk
  have HX := Lib.hid hx
  have HB := Lib.hid hB
  have hs := HSz.out
  have HSt0 := Lib.hid hst
  have hT1 : 1 ≤ T.length := by omega
  have q0 : 0 < (ba T).size := by omega
  have q3 : (0 : Int) < (((ba T).size : Nat) : Int) := by omega
  have c0 := ba_get T hB 0 q0
  obtain ⟨ch, hch⟩ : ∃ ch : Int, ch = T.getD 0 0 := ⟨_, rfl⟩
  rw [← hch] at c0
  have HCh := Lib.hid hch
  clear hg hR h37 hOk hx hch
  go_enter Tryd.func160, Tryd.ntmps160

  go_upto_region 10 with fail
  go_cut [46] (fun v46 wx => ((2 ≤ T.length ∧ T.getD 0 0 = 58 ∧ T.getD 1 0 = 58 ∧ (T.drop 2).length ≠ 0 ∧ t0 = T.drop 2 ∧ e0 = some 0 ∧ v46 = .bool true) ∨ (t0 = T ∧ e0 = none ∧ v46 = .bool false)) ∧ blk? wx w.heap.size = some #[.int .u64 0, .int .u64 0, .pointer none] ∧ blk? wx (w.heap.size + 1) = some (arr16 zb) ∧ Below w.heap.size w wx)
  case first => as_aux_lemma =>
    rcases hst with ⟨a1, a2, a3, a4, a5, a6⟩ | ⟨a1, a2, a3, a4⟩
    · have hcc : ch = 58 := by rw [HCh.out]; exact a2
      subst hcc
      have q1 : 1 < (ba T).size := by omega
      have q2 : (2 : Int) ≤ (((ba T).size : Nat) : Int) := by omega
      have q4 : (1 : Int) < (((ba T).size : Nat) : Int) := by omega
      have c1 := ba_get T hB 1 q1
      rw [a3] at c1
      have HA := Lib.hid (And.intro a1 (And.intro a2 (And.intro a3 (And.intro a4 (And.intro a5 a6)))))
      clear hs a1 a2 a3 a4 a5 a6 hB
      go_wp2
      go_meet
      obtain ⟨a1, a2, a3, a4, a5, a6⟩ := HA.out
      exact ⟨Or.inl ⟨a1, a2, a3, a4, a5, a6, rfl⟩, by go_simp, by go_simp, (by repeat' (first | (with_reducible exact Below.refl _ _) | (with_reducible assumption) | (with_reducible refine Below.alloc ?_ ?_ _) | (with_reducible refine Below.drew ?_) | (with_reducible refine below_drewN ?_ _) | (with_reducible refine Below.setCell ?_ ?_ _) | (with_reducible refine below_setRow' ?_ ?_ _) | go_size))⟩
    · have hcb : (ch == 58) = false := beq_eq_false_iff_ne.2 (by rw [HCh.out]; exact a1)
      have HA := Lib.hid (And.intro a3 a4)
      by_cases h2 : 2 ≤ T.length
      · have q2 : (2 : Int) ≤ (((ba T).size : Nat) : Int) := by omega
        clear hs a1 a2 a3 a4 hB
        go_wp2
        go_meet
        exact ⟨Or.inr ⟨HA.out.1, HA.out.2, rfl⟩, by go_simp, by go_simp, (by repeat' (first | (with_reducible exact Below.refl _ _) | (with_reducible assumption) | (with_reducible refine Below.alloc ?_ ?_ _) | (with_reducible refine Below.drew ?_) | (with_reducible refine below_drewN ?_ _) | (with_reducible refine Below.setCell ?_ ?_ _) | (with_reducible refine below_setRow' ?_ ?_ _) | go_size))⟩
      · have q2 : ¬ ((2 : Int) ≤ (((ba T).size : Nat) : Int)) := by omega
        clear hs a1 a2 a3 a4 hB
        go_wp2
        go_meet
        exact ⟨Or.inr ⟨HA.out.1, HA.out.2, rfl⟩, by go_simp, by go_simp, (by repeat' (first | (with_reducible exact Below.refl _ _) | (with_reducible assumption) | (with_reducible refine Below.alloc ?_ ?_ _) | (with_reducible refine Below.drew ?_) | (with_reducible refine below_drewN ?_ _) | (with_reducible refine Below.setCell ?_ ?_ _) | (with_reducible refine below_setRow' ?_ ?_ _) | go_size))⟩
  case rest =>
    obtain ⟨hor, j0, j1, hBj⟩ := hcut
    clear hs c0 hst
    apply_assumption
    go_cut [3, 4, 8] (fun v3 v4 v8 wx => v3 = .nilIface ∧ v4 = .string (ba t0) ∧ v8 = .int .i64 (ev e0) ∧ blk? wx w.heap.size = some #[.int .u64 0, .int .u64 0, .pointer none] ∧ blk? wx (w.heap.size + 1) = some (arr16 zb) ∧ Below w.heap.size w wx)
    case first => as_aux_lemma =>
      rcases hor with ⟨a1, a2, a3, a4, rfl, rfl, rfl⟩ | ⟨rfl, rfl, rfl⟩
      · have hex : (ba T).extract 2 (ba T).size = ba (T.drop 2) := ba_drop T 2 a1
        have hsd := ba_size (T.drop 2)
        have hs := HSz.out
        have q2 : (2 : Int) ≤ (((ba T).size : Nat) : Int) := by omega
        have q5 : ((((ba (T.drop 2)).size : Nat) : Int) == 0) = false := beq_eq_false_iff_ne.2 (by omega)
        clear hsd hs a1 a2 a3 a4 hB
        go_wp2
        go_meet
        exact ⟨rfl, rfl, rfl, j0, j1, hBj⟩
      · go_wp2
        go_meet
        exact ⟨rfl, rfl, rfl, j0, j1, hBj⟩
    case rest =>
      have hbt : By t0 ∧ t0.length ≤ 1000 ∧ Suf T t0 ∧ (∀ q, e0 = some q → q ≤ 0) := by
        rcases HSt0.out with ⟨a1, a2, a3, a4, rfl, rfl⟩ | ⟨a1, a2, rfl, rfl⟩
        · exact ⟨By_drop HB.out 2, by rw [List.length_drop]; omega, (Suf.refl T).drop 2 a1, fun q h => by cases h; omega⟩
        · exact ⟨HB.out, hl', Suf.refl _, fun q h => by cases h⟩
      have HBT := Lib.hid hbt
      obtain ⟨rfl, rfl, rfl, k0', k1', hBk'⟩ := hcut
      clear hor j0 j1 hBj hbt hB
      go_upto_block 0 with fail
      go_cut [3, 4, 6, 8, 9, 10, 11, 12, 13] (fun v3 v4 v6 v8 v9 v10 v11 v12 v13 wx => ∃ (i : Nat) (e : Option Nat) (f : Nat → Int), R = some ([], i, e, f) ∧ (∀ q, e = some q → q ≤ i) ∧ Bt f ∧ v3 = .nilIface ∧ v4 = .string ⟨#[]⟩ ∧ v6 = .int .i64 (i : Int) ∧ v8 = .int .i64 (ev e) ∧ blk? wx w.heap.size = some #[.int .u64 0, .int .u64 0, .pointer none] ∧ blk? wx (w.heap.size + 1) = some (arr16 f) ∧ Below w.heap.size w wx)
      case first => as_aux_lemma =>
        go_wp2_with fail
        go_loopw [3, 4, 6, 8, 9, 10, 11, 12, 13] (fun v3 v4 v6 v8 v9 v10 v11 v12 v13 wr => ∃ (t : List Int) (k i : Nat) (e : Option Nat) (f : Nat → Int), i = 2 * k ∧ k ≤ 8 ∧ By t ∧ t.length ≤ 1000 ∧ Suf T t ∧ (∀ q, e = some q → q ≤ i) ∧ Bt f ∧ p6 x (8 - k) t i e f = R ∧ v3 = .nilIface ∧ v4 = .string (ba t) ∧ v6 = .int .i64 (i : Int) ∧ v8 = .int .i64 (ev e) ∧ blk? wr w.heap.size = some #[.int .u64 0, .int .u64 0, .pointer none] ∧ blk? wr (w.heap.size + 1) = some (arr16 f) ∧ Below w.heap.size w wr) (fun _ _ i _ _ _ _ _ _ _ => 16 - (intOf i).toNat)
        case atStart => exact ⟨t0, 0, 0, e0, zb, rfl, by omega, HBT.out.1, HBT.out.2.1, HBT.out.2.2.1, HBT.out.2.2.2, Bt_zb, HRR.out, rfl, rfl, rfl, rfl, k0', k1', hBk'⟩
        case round =>
          obtain ⟨t, k, i, e, f, hik, hk8, hBt, hlt, hSuf, hek, hBf, hR, rfl, rfl, rfl, rfl, k0, k1, hBw⟩ := hrel
          have hl0 := blk?_lt k0
          have hl1 := blk?_lt k1
          have HR := Lib.hid hR
          have HBt := Lib.hid hBt
          have HBf := Lib.hid hBf
          have HSuf := Lib.hid hSuf
          have HEk := Lib.hid hek
          clear hR hBt hBf hSuf hek
          have hi0 : (0 : Int) ≤ (i : Int) := by omega
          have HIK := Lib.hid hik
          by_cases hk : k < 8
          · have hi1 : (i : Int) < 16 := by omega
            have hstep := p6_step x (7 - k) t i e f R (by rw [show 7 - k + 1 = 8 - k by omega]; exact HR.out) HOk.out
            obtain ⟨hL1, hL4, hway⟩ := hstep
            have HL := Lib.hid (And.intro hL1 hL4)
            have HW := Lib.hid hway
            clear hik hway hL1 hL4
            have HSt := Lib.hid (ba_size t)
            go_upto_block 2 with fail
            go_cut [3, 9, 10, 11] (fun v3 v9 v10 v11 wx => v3 = .nilIface ∧ v9 = .int .i64 ((hl t : Nat) : Int) ∧ v10 = .int .u32 (ha t (hl t)) ∧ wr = wx)
            case first => as_aux_lemma =>
              go_wp2_with fail
              go_loopw [3, 9, 10, 11] (fun v3 v9 v10 v11 wq => ∃ j : Nat, j ≤ hl t ∧ j ≤ 4 ∧ v3 = .nilIface ∧ v9 = .int .i64 (j : Int) ∧ v10 = .int .u32 (ha t j) ∧ wr = wq) (fun _ j _ _ _ => t.length - (intOf j).toNat)
              case atStart => exact ⟨0, by omega, by omega, rfl, rfl, rfl, rfl⟩
              case round =>
                obtain ⟨j, hjl, hj4, rfl, rfl, rfl, rfl⟩ := hrel
                have hll := hl_le t
                have hal := ha_lt t j hjl
                have hpw := pow16_le j hj4
                have hst := HSt.out
                have hL4 := HL.out.2
                have hj0 : (0 : Int) ≤ (j : Int) := by omega
                by_cases hjt : j < t.length
                · have hj1 : (j : Int) < (((ba t).size : Nat) : Int) := by omega
                  have hjs : j < (ba t).size := by omega
                  have hcv := ba_get t HBt.out j hjs
                  have hsu := ha_succ t j hjt
                  by_cases hh : hxd (t.getD j 0) = true
                  · have hj5 : j < hl t := by
                      by_cases c : j < hl t
                      · exact c
                      · have e : j = hl t := by omega
                        have := hl_not t (by omega)
                        rw [← e, hh] at this; cases this
                    have hvl := hval_lt _ hh
                    obtain ⟨a, hae⟩ : ∃ a : Int, a = ha t j := ⟨_, rfl⟩
                    have ha0 : 0 ≤ a := by omega
                    have ha1 : a < 65536 := by omega
                    have ha2 : a * 16 < 4294967296 := by omega
                    have ha3 : 0 ≤ a * 16 := by omega
                    have hj2 : (j : Int) + 1 ≤ 9223372036854775807 := by omega
                    have hcase := hxd_cases _ hh
                    obtain ⟨ch, hch⟩ : ∃ ch : Int, ch = t.getD j 0 := ⟨_, rfl⟩
                    rw [← hch] at hcv hcase hvl hsu
                    rw [← hae] at hsu
                    rw [← hae]
                    have HSu := Lib.hid hsu
                    have HAe := Lib.hid hae
                    have HJ5 := Lib.hid hj5
                    have h3 : j ≤ 3 := by omega
                    have hnew : a * 16 + hval ch < 65536 := by
                      have h1 := (ha_lt t (j + 1) (by omega)).2
                      have h2 := pow16_le (j + 1) (by omega)
                      rw [hsu] at h1; omega
                    clear hst hsu hae hch hal hpw hj5 hh hL4
                    rcases hcase with ⟨c1, c2, hv⟩ | ⟨c1, c2, hv⟩ | ⟨c1, c2, hv⟩
                    · rw [hv] at hvl hnew HSu
                      clear hv
                      have d1 : 0 ≤ ch - 48 := by omega
                      have d2 : ch - 48 < 256 := by omega
                      have s1 : a * 16 + (ch - 48) < 4294967296 := by omega
                      have s0 : 0 ≤ a * 16 + (ch - 48) := by omega
                      have g3 : ¬ (3 < (j : Int)) := by omega
                      have n1 : ¬ (65535 < a * 16 + (ch - 48)) := by omega
                      clear hnew
                      go_wp2
                      go_roundw
                      case rel => exact ⟨j + 1, by have := HJ5.out; omega, by omega, rfl, by go_num, by rw [HSu.out], trivial⟩
                      case measure => simp [intOf]; omega
                    · rw [hv] at hvl hnew HSu
                      clear hv
                      have d0 : ¬ (ch ≤ 57) := by omega
                      have d3 : 48 ≤ ch := by omega
                      have d4 : ch - 97 + 10 < 256 := by omega
                      have d5 : 0 ≤ ch - 97 + 10 := by omega
                      have d1 : 0 ≤ ch - 97 := by omega
                      have d2 : ch - 97 < 256 := by omega
                      have s1 : a * 16 + (ch - 97 + 10) < 4294967296 := by omega
                      have s0 : 0 ≤ a * 16 + (ch - 97 + 10) := by omega
                      have g3 : ¬ (3 < (j : Int)) := by omega
                      have n1 : ¬ (65535 < a * 16 + (ch - 97 + 10)) := by omega
                      clear hnew
                      go_wp2
                      go_roundw
                      case rel => exact ⟨j + 1, by have := HJ5.out; omega, by omega, rfl, by go_num, by rw [HSu.out], trivial⟩
                      case measure => simp [intOf]; omega
                    · rw [hv] at hvl hnew HSu
                      clear hv
                      have d0 : ¬ (ch ≤ 57) := by omega
                      have d3 : 48 ≤ ch := by omega
                      have d4 : ch - 65 + 10 < 256 := by omega
                      have d5 : 0 ≤ ch - 65 + 10 := by omega
                      have d6 : ¬ (97 ≤ ch) := by omega
                      have d1 : 0 ≤ ch - 65 := by omega
                      have d2 : ch - 65 < 256 := by omega
                      have s1 : a * 16 + (ch - 65 + 10) < 4294967296 := by omega
                      have s0 : 0 ≤ a * 16 + (ch - 65 + 10) := by omega
                      have g3 : ¬ (3 < (j : Int)) := by omega
                      have n1 : ¬ (65535 < a * 16 + (ch - 65 + 10)) := by omega
                      clear hnew
                      go_wp2
                      go_roundw
                      case rel => exact ⟨j + 1, by have := HJ5.out; omega, by omega, rfl, by go_num, by rw [HSu.out], trivial⟩
                      case measure => simp [intOf]; omega
                  · have hh' : hxd (t.getD j 0) = false := by simpa using hh
                    have hje : j = hl t := by
                      by_cases c : j < hl t
                      · have := hl_hex t j c
                        rw [hh'] at this; cases this
                      · omega
                    have hnc := hxd_not _ hh'
                    obtain ⟨ch, hch⟩ : ∃ ch : Int, ch = t.getD j 0 := ⟨_, rfl⟩
                    rw [← hch] at hcv hnc
                    have HCh := Lib.hid hch
                    have HJE := Lib.hid hje
                    clear hst hsu hh hh' hch hje hL4 hal hpw hll hjl hj4
                    go_upto_region 22 with fail
                    go_cut [71] (fun v71 wx => v71 = .bool false ∧ wr = wx)
                    case first =>
                      rcases hnc.1 with c | c
                      · have c' : ¬ (48 ≤ ch) := by omega
                        go_wp2
                        go_meet
                        exact ⟨rfl, rfl⟩
                      · have c' : ¬ (ch ≤ 57) := by omega
                        have c'' : 48 ≤ ch := by omega
                        go_wp2
                        go_meet
                        exact ⟨rfl, rfl⟩
                    case rest =>
                      obtain ⟨rfl, rfl⟩ := hcut
                      go_upto_region 24 with fail
                      go_cut [83] (fun v83 wx => v83 = .bool false ∧ wr = wx)
                      case first =>
                        rcases hnc.2.1 with c | c
                        · have c' : ¬ (97 ≤ ch) := by omega
                          go_wp2
                          go_meet
                          exact ⟨rfl, rfl⟩
                        · have c' : ¬ (ch ≤ 102) := by omega
                          have c'' : 97 ≤ ch := by omega
                          go_wp2
                          go_meet
                          exact ⟨rfl, rfl⟩
                      case rest =>
                        obtain ⟨rfl, rfl⟩ := hcut
                        go_upto_region 26 with fail
                        go_cut [96] (fun v96 wx => v96 = .bool false ∧ wr = wx)
                        case first =>
                          rcases hnc.2.2 with c | c
                          · have c' : ¬ (65 ≤ ch) := by omega
                            go_wp2
                            go_meet
                            exact ⟨rfl, rfl⟩
                          · have c' : ¬ (ch ≤ 70) := by omega
                            have c'' : 65 ≤ ch := by omega
                            go_wp2
                            go_meet
                            exact ⟨rfl, rfl⟩
                        case rest =>
                          obtain ⟨rfl, rfl⟩ := hcut
                          go_wp2
                          go_meet
                          exact ⟨rfl, by rw [HJE.out], by rw [HJE.out], rfl⟩
                · have hje : j = hl t := by
                    by_cases c : j < hl t
                    · omega
                    · omega
                  have hj1 : ¬ ((j : Int) < (((ba t).size : Nat) : Int)) := by omega
                  have HJE := Lib.hid hje
                  clear hst hje hL4 hal hpw hll hjl hj4
                  go_wp2
                  go_meet
                  exact ⟨rfl, by rw [HJE.out], by rw [HJE.out], rfl⟩
    
            case rest =>
              obtain ⟨rfl, rfl, rfl, rfl⟩ := hcut
              have hal := ha_lt t (hl t) (Nat.le_refl _)
              have hpw := pow16_le (hl t) HL.out.2
              have hll := hl_le t
              have hLe := HL.out
              have hway := HW.out
              have hst := HSt.out
              obtain ⟨L, hL⟩ : ∃ L : Nat, L = hl t := ⟨_, rfl⟩
              obtain ⟨a, hae⟩ : ∃ a : Int, a = ha t (hl t) := ⟨_, rfl⟩
              have ha0 : 0 ≤ a := by omega
              have ha1 : a < 65536 := by omega
              clear hal hpw
              rw [← hae] at hway
              rw [← hL] at hway hll hLe
              rw [← hae, ← hL]
              have hL0 : (0 : Int) ≤ (L : Int) := by omega
              have hLz : ((L : Int) == 0) = false := beq_eq_false_iff_ne.2 (by omega)
              have HLL := Lib.hid hll
              have HLe := Lib.hid hLe
              clear hL hae hll hLe
              obtain ⟨E, hE⟩ : ∃ E : Int, E = ev e := ⟨_, rfl⟩
              rw [← hE]
              have HE := Lib.hid hE
              clear hE
              rcases hway with ⟨y1, y2, y3, y4, y5, y6⟩ | ⟨y0, y1, y2⟩ | ⟨y0, y1, y2, y3, y4, y5⟩ | ⟨y0, y1, y2, y3, y4, y5, y6⟩ | ⟨y0, y1, y2, y3, y4, y5, y6⟩ | ⟨y0, y1, y2, y3, y4⟩
              · as_aux_lemma =>
                have hLn : (L : Int) < (((ba t).size : Nat) : Int) := by omega
                have hLm : L < (ba t).size := by omega
                have hcv := ba_get t HBt.out L hLm
                rw [y2] at hcv
                have hi2 : ¬ (16 < (i : Int) + 4) := by omega
                have hi3 : (i : Int) + 4 ≤ 16 := by omega
                have hsf := HSuf.out
                have hsT := HSz.out
                obtain ⟨K, hK⟩ : ∃ K : Nat, K = T.length - t.length := ⟨_, rfl⟩
                have hKi : (((ba T).size : Nat) : Int) - (((ba t).size : Nat) : Int) = ((K : Nat) : Int) := by have := hsf.1; omega
                have hz : (ba T).extract K (ba T).size = ba (tf x 0 3) := by rw [ba_drop T K (by omega), hK, hsf.2, y3]
                have hKle : K ≤ (ba T).size := by omega
                have hTs : (((ba T).size : Nat) : Int) ≤ 9223372036854775807 := by omega
                have hcall := fun (wq : World) (c : Nat) (hc : 4 ≤ c) (hb : blk? wq (w.heap.size + 1) = some (arr16 f)) => prs4f x HX.out (ba T) K (ba T).size hKle (Nat.le_refl _) hz hTs (w.heap.size + 1) i c hc (arr16 f) (by rw [arr16_size]; omega) wq hb
                have HCall := Lib.hid hcall
                have HY2 := Lib.hid (And.intro y5 y6)
                have hE1 : E < 0 → (i : Int) = 12 := fun h => by
                  have : e = none := by
                    cases e with
                    | none => rfl
                    | some q => rw [HE.out] at h; exact absurd h (by show ¬ ((q : Int) < 0); omega)
                  have := y4 this; omega
                have hQ1 : w.heap.size < wr.heap.size := hl0
                have hQ2 : w.heap.size + 1 < wr.heap.size := hl1
                have hsl := sl23 (w.heap.size + 1) i (i + 4) (i : Int) ((i : Int) + 4) rfl (by omega) (by omega) y5
                rw [show i + 4 - i = 4 by omega] at hsl
                have hc4 : 4 ≤ 16 - i := by omega
                have hKw : wrap64 ((K : Nat) : Int) = ((K : Nat) : Int) := w64 _ (by omega) (by omega)
                clear hst y1 y2 y3 y4 y5 y6 hcall hK hsf hsT hz hKle hTs
                by_cases hE : E < 0
                · have hi12 : ((i : Int) != 12) = false := by rw [hE1 hE]; rfl
                  clear hE1
                  go_wp2_with (first
                    | (go_at_call 173; (try simp only [hKw]); (with_reducible refine (HCall.out _ _ ?_ ?_).mono ?_); omega; go_simp; rintro e1 w1 ⟨rfl, hbuf, hgr⟩; have hk1 := blk?_gx hgr; have hB1 := GX.below (B := w.heap.size) (a := w) (by repeat' (first | (with_reducible exact Below.refl _ _) | (with_reducible assumption) | (with_reducible refine Below.alloc ?_ ?_ _) | (with_reducible refine Below.drew ?_) | (with_reducible refine below_drewN ?_ _) | (with_reducible refine Below.setCell ?_ ?_ _) | (with_reducible refine below_setRow' ?_ ?_ _) | go_size)) hgr (by omega) (by omega); have hL0 : w.heap.size + 1 < w1.heap.size := (by have hS1 := hgr.size; omega); have hL1 : w.heap.size < w1.heap.size := (by omega); clear hgr))
                  go_meet
                  obtain ⟨y5, y6⟩ := HY2.out
                  rw [fs_put4 _ _ _ y5] at hbuf
                  exact ⟨i + 4, e, put4 f i x, y6, fun q h => by have := HEk.out q h; omega, Bt_put4 HBf.out i x HX.out, rfl, rfl, by go_num, by rw [HE.out], by rw [hk1 _ hl0 (by omega)]; exact k0, hbuf, hB1⟩
                · clear hE1
                  go_wp2_with (first
                    | (go_at_call 173; (try simp only [hKw]); (with_reducible refine (HCall.out _ _ ?_ ?_).mono ?_); omega; go_simp; rintro e1 w1 ⟨rfl, hbuf, hgr⟩; have hk1 := blk?_gx hgr; have hB1 := GX.below (B := w.heap.size) (a := w) (by repeat' (first | (with_reducible exact Below.refl _ _) | (with_reducible assumption) | (with_reducible refine Below.alloc ?_ ?_ _) | (with_reducible refine Below.drew ?_) | (with_reducible refine below_drewN ?_ _) | (with_reducible refine Below.setCell ?_ ?_ _) | (with_reducible refine below_setRow' ?_ ?_ _) | go_size)) hgr (by omega) (by omega); have hL0 : w.heap.size + 1 < w1.heap.size := (by have hS1 := hgr.size; omega); have hL1 : w.heap.size < w1.heap.size := (by omega); clear hgr))
                  go_meet
                  obtain ⟨y5, y6⟩ := HY2.out
                  rw [fs_put4 _ _ _ y5] at hbuf
                  exact ⟨i + 4, e, put4 f i x, y6, fun q h => by have := HEk.out q h; omega, Bt_put4 HBf.out i x HX.out, rfl, rfl, by go_num, by rw [HE.out], by rw [hk1 _ hl0 (by omega)]; exact k0, hbuf, hB1⟩
              · as_aux_lemma =>
                have HY := Lib.hid y0
                have hLs : L ≤ t.length := HLL.out
                obtain ⟨t1, ht1⟩ : ∃ t1 : List Int, t1 = t.drop L := ⟨_, rfl⟩
                rw [← ht1] at y1
                have hx1 : (ba t).extract L (ba t).size = ba t1 := by rw [ht1]; exact ba_drop t L hLs
                have hB1 : By t1 := by rw [ht1]; exact By_drop HBt.out L
                have hT1 : t1.length = t.length - L := by rw [ht1, List.length_drop]
                have hS1 := ba_size t1
                have hi2 : (i : Int) + 1 < 16 := by have := HIK.out; omega
                have hn1 : i + 1 < 16 := by omega
                have hu1 : wr.cell? ⟨w.heap.size + 1, i, none⟩ = some (.int .u8 (f i)) := by rw [blk?_cell k1]; exact arr16_byte f i (by omega)
                have hu2 : wr.frozen? ⟨w.heap.size + 1, i, none⟩ = false := blk?_frozen k1 _
                have hk2 : ∀ v : Int, blk? (wr.setCell ⟨w.heap.size + 1, i, none⟩ (.int .u8 v)) (w.heap.size + 1) = some (arr16 (upd f i v)) := fun v => by rw [blk?_setSame, k1, Option.map_some, arr16_set _ _ _ (by omega)]
                have hu3 : ∀ v : Int, (wr.setCell ⟨w.heap.size + 1, i, none⟩ (.int .u8 v)).cell? ⟨w.heap.size + 1, i + 1, none⟩ = some (.int .u8 (upd f i v (i + 1))) := fun v => by rw [blk?_cell (hk2 v)]; exact arr16_byte _ (i + 1) (by omega)
                have hu4 : ∀ v : Int, (wr.setCell ⟨w.heap.size + 1, i, none⟩ (.int .u8 v)).frozen? ⟨w.heap.size + 1, i + 1, none⟩ = false := fun v => blk?_frozen (hk2 v) _
                have HI2 := Lib.hid hi2
                clear hi2
                have hLs' : (L : Int) ≤ (((ba t).size : Nat) : Int) := by omega
                have hsz0 : (0 : Int) ≤ (((ba t).size : Nat) : Int) := by omega
                have HT1 := Lib.hid ht1
                have hLn : ¬ ((L : Int) < (((ba t).size : Nat) : Int)) := by omega
                obtain rfl : t1 = [] := List.length_eq_zero_iff.1 y1
                have HY2 := Lib.hid y2
                change (ba t).extract L (ba t).size = ⟨#[]⟩ at hx1
                clear hst hS1 hT1 y0 ht1 hLs y1 y2 hB1
                go_upto_region 48 with fail
                have hi2 := HI2.out
                go_upto_region 51 with fail
                obtain ⟨wn, hwn⟩ : ∃ y : World, y = (wr.setCell ⟨w.heap.size + 1, i, none⟩ (.int .u8 (a / 256))).setCell ⟨w.heap.size + 1, i + 1, none⟩ (.int .u8 (a % 256)) := ⟨_, rfl⟩
                have n1 : blk? wn (w.heap.size + 1) = some (arr16 (put2 f i a)) := by rw [hwn, blk?_setSame, hk2, Option.map_some, arr16_set _ _ _ (by omega)]; rfl
                have n0 : blk? wn w.heap.size = some #[.int .u64 0, .int .u64 0, .pointer none] := by rw [hwn, blk?_setLt _ _ _ _ _ (by omega), blk?_setLt _ _ _ _ _ (by omega)]; exact k0
                have hBn : Below w.heap.size w wn := by rw [hwn]; exact (by repeat' (first | (with_reducible exact Below.refl _ _) | (with_reducible assumption) | (with_reducible refine Below.alloc ?_ ?_ _) | (with_reducible refine Below.drew ?_) | (with_reducible refine below_drewN ?_ _) | (with_reducible refine Below.setCell ?_ ?_ _) | (with_reducible refine below_setRow' ?_ ?_ _) | go_size))
                have m0 := blk?_lt n0
                have m1 := blk?_lt n1
                obtain ⟨i', hi'⟩ : ∃ n : Nat, n = i + 2 := ⟨_, rfl⟩
                rw [← hwn, show ((i : Int) + 2) = ((i' : Nat) : Int) by omega]
                have HI' := Lib.hid hi'
                have hBp : Bt (put2 f i a) := Bt_put2 HBf.out i a ⟨ha0, ha1⟩
                have HBp := Lib.hid hBp
                clear hwn hu1 hu2 hu3 hu4 hk2 hi' hi2 hn1 k0 k1 hBw hBp hl0 hl1
                go_wp2
                go_meet
                exact ⟨i', e, put2 f i a, by rw [HY2.out, HI'.out], fun q h => by have := HEk.out q h; have := HI'.out; omega, HBp.out, rfl, rfl, rfl, by rw [HE.out], n0, n1, hBn⟩
              · as_aux_lemma =>
                have HY := Lib.hid y0
                have hLs : L ≤ t.length := HLL.out
                obtain ⟨t1, ht1⟩ : ∃ t1 : List Int, t1 = t.drop L := ⟨_, rfl⟩
                rw [← ht1] at y1 y2 y3
                have hx1 : (ba t).extract L (ba t).size = ba t1 := by rw [ht1]; exact ba_drop t L hLs
                have hB1 : By t1 := by rw [ht1]; exact By_drop HBt.out L
                have hT1 : t1.length = t.length - L := by rw [ht1, List.length_drop]
                have hS1 := ba_size t1
                have hi2 : (i : Int) + 1 < 16 := by have := HIK.out; omega
                have hn1 : i + 1 < 16 := by omega
                have hu1 : wr.cell? ⟨w.heap.size + 1, i, none⟩ = some (.int .u8 (f i)) := by rw [blk?_cell k1]; exact arr16_byte f i (by omega)
                have hu2 : wr.frozen? ⟨w.heap.size + 1, i, none⟩ = false := blk?_frozen k1 _
                have hk2 : ∀ v : Int, blk? (wr.setCell ⟨w.heap.size + 1, i, none⟩ (.int .u8 v)) (w.heap.size + 1) = some (arr16 (upd f i v)) := fun v => by rw [blk?_setSame, k1, Option.map_some, arr16_set _ _ _ (by omega)]
                have hu3 : ∀ v : Int, (wr.setCell ⟨w.heap.size + 1, i, none⟩ (.int .u8 v)).cell? ⟨w.heap.size + 1, i + 1, none⟩ = some (.int .u8 (upd f i v (i + 1))) := fun v => by rw [blk?_cell (hk2 v)]; exact arr16_byte _ (i + 1) (by omega)
                have hu4 : ∀ v : Int, (wr.setCell ⟨w.heap.size + 1, i, none⟩ (.int .u8 v)).frozen? ⟨w.heap.size + 1, i + 1, none⟩ = false := fun v => blk?_frozen (hk2 v) _
                have HI2 := Lib.hid hi2
                clear hi2
                have hLs' : (L : Int) ≤ (((ba t).size : Nat) : Int) := by omega
                have hsz0 : (0 : Int) ≤ (((ba t).size : Nat) : Int) := by omega
                have HT1 := Lib.hid ht1
                have hLn : (L : Int) < (((ba t).size : Nat) : Int) := by omega
                have hLm : L < (ba t).size := by omega
                have hcv := ba_get t HBt.out L hLm
                rw [show t.getD L 0 = t1.getD 0 0 by rw [ht1, ← getD_drop, Nat.add_zero], y2] at hcv
                have p0 : 0 < (ba t1).size := by omega
                have p1 : (0 : Int) < (((ba t1).size : Nat) : Int) := by omega
                have p2 : (1 : Int) ≤ (((ba t1).size : Nat) : Int) := by omega
                have p3 : ((((ba t1).size : Nat) : Int) == 0) = false := beq_eq_false_iff_ne.2 (by omega)
                have p4 : ((((ba t1).size : Nat) : Int) == 1) = false := beq_eq_false_iff_ne.2 (by omega)
                have c1' := ba_get t1 hB1 0 p0
                rw [y2] at c1'
                obtain ⟨t2, ht2⟩ : ∃ t2 : List Int, t2 = t1.drop 1 := ⟨_, rfl⟩
                rw [← ht2] at y3
                have hx2 : (ba t1).extract 1 (ba t1).size = ba t2 := by rw [ht2]; exact ba_drop t1 1 (by omega)
                have hB2 : By t2 := by rw [ht2]; exact By_drop hB1 1
                have hT2 : t2.length = t1.length - 1 := by rw [ht2, List.length_drop]
                have hS2 := ba_size t2
                have r0 : 0 < (ba t2).size := by omega
                have r1 : (0 : Int) < (((ba t2).size : Nat) : Int) := by omega
                have r2 : (1 : Int) ≤ (((ba t2).size : Nat) : Int) := by omega
                have c2' := ba_get t2 hB2 0 r0
                have hSu2 : Suf T t2 := by rw [ht2, ht1]; exact (HSuf.out.drop L hLs).drop 1 (by rw [← ht1]; omega)
                have hln2 : t2.length ≤ 1000 := by omega
                rw [y3] at c2'
                have hE0 : 0 ≤ E := by
                  rw [HE.out]
                  cases e with
                  | none => exact (y4 rfl).elim
                  | some q => show (0 : Int) ≤ (q : Int); omega
                have hRn : fin6 R = none := by rw [y5]; rfl
                have HRn := Lib.hid hRn
                clear hst hS1 hT1 y0 ht1 hLs y1 y2 hB1 ht2 hT2 hS2 y3 y4 y5 hRn hB2 hSu2 hln2
                go_upto_region 48 with fail
                have hi2 := HI2.out
                go_upto_region 51 with fail
                obtain ⟨wn, hwn⟩ : ∃ y : World, y = (wr.setCell ⟨w.heap.size + 1, i, none⟩ (.int .u8 (a / 256))).setCell ⟨w.heap.size + 1, i + 1, none⟩ (.int .u8 (a % 256)) := ⟨_, rfl⟩
                have n1 : blk? wn (w.heap.size + 1) = some (arr16 (put2 f i a)) := by rw [hwn, blk?_setSame, hk2, Option.map_some, arr16_set _ _ _ (by omega)]; rfl
                have n0 : blk? wn w.heap.size = some #[.int .u64 0, .int .u64 0, .pointer none] := by rw [hwn, blk?_setLt _ _ _ _ _ (by omega), blk?_setLt _ _ _ _ _ (by omega)]; exact k0
                have hBn : Below w.heap.size w wn := by rw [hwn]; exact (by repeat' (first | (with_reducible exact Below.refl _ _) | (with_reducible assumption) | (with_reducible refine Below.alloc ?_ ?_ _) | (with_reducible refine Below.drew ?_) | (with_reducible refine below_drewN ?_ _) | (with_reducible refine Below.setCell ?_ ?_ _) | (with_reducible refine below_setRow' ?_ ?_ _) | go_size))
                have m0 := blk?_lt n0
                have m1 := blk?_lt n1
                obtain ⟨i', hi'⟩ : ∃ n : Nat, n = i + 2 := ⟨_, rfl⟩
                rw [← hwn, show ((i : Int) + 2) = ((i' : Nat) : Int) by omega]
                have HI' := Lib.hid hi'
                have hBp : Bt (put2 f i a) := Bt_put2 HBf.out i a ⟨ha0, ha1⟩
                have HBp := Lib.hid hBp
                clear hwn hu1 hu2 hu3 hu4 hk2 hi' hi2 hn1 k0 k1 hBw hBp hl0 hl1
                go_upto_region 59 with fail
                go_cut [3] (fun v3 wx => (∃ p, v3 = .iface 124 p) ∧ blk? wx w.heap.size = some #[.int .u64 0, .int .u64 0, .pointer none] ∧ Below w.heap.size w wx)
                case first =>
                  go_wp2
                  go_meet
                  exact ⟨⟨_, rfl⟩, by go_simp, (by repeat' (first | (with_reducible exact Below.refl _ _) | (with_reducible assumption) | (with_reducible refine Below.alloc ?_ ?_ _) | (with_reducible refine Below.drew ?_) | (with_reducible refine below_drewN ?_ _) | (with_reducible refine Below.setCell ?_ ?_ _) | (with_reducible refine below_setRow' ?_ ?_ _) | go_size))⟩
                case rest =>
                  obtain ⟨⟨p, rfl⟩, j0, hBj⟩ := hcut
                  apply_assumption
                  refine wp_ret ?_
                  dsimp +zetaDelta only [Exit.then, Exit.inBlock]
                  refine bodyPost_ret (res78t Tryd.results160 _ _ (w.heap.size) _ rfl j0 rfl) rfl ?_
                  refine ⟨?_, hBj⟩
                  rw [HRn.out]
                  exact Pst6_none ⟨_, rfl⟩
              · as_aux_lemma =>
                have HY := Lib.hid y0
                have hLs : L ≤ t.length := HLL.out
                obtain ⟨t1, ht1⟩ : ∃ t1 : List Int, t1 = t.drop L := ⟨_, rfl⟩
                rw [← ht1] at y1 y2 y3 y5
                have hx1 : (ba t).extract L (ba t).size = ba t1 := by rw [ht1]; exact ba_drop t L hLs
                have hB1 : By t1 := by rw [ht1]; exact By_drop HBt.out L
                have hT1 : t1.length = t.length - L := by rw [ht1, List.length_drop]
                have hS1 := ba_size t1
                have hi2 : (i : Int) + 1 < 16 := by have := HIK.out; omega
                have hn1 : i + 1 < 16 := by omega
                have hu1 : wr.cell? ⟨w.heap.size + 1, i, none⟩ = some (.int .u8 (f i)) := by rw [blk?_cell k1]; exact arr16_byte f i (by omega)
                have hu2 : wr.frozen? ⟨w.heap.size + 1, i, none⟩ = false := blk?_frozen k1 _
                have hk2 : ∀ v : Int, blk? (wr.setCell ⟨w.heap.size + 1, i, none⟩ (.int .u8 v)) (w.heap.size + 1) = some (arr16 (upd f i v)) := fun v => by rw [blk?_setSame, k1, Option.map_some, arr16_set _ _ _ (by omega)]
                have hu3 : ∀ v : Int, (wr.setCell ⟨w.heap.size + 1, i, none⟩ (.int .u8 v)).cell? ⟨w.heap.size + 1, i + 1, none⟩ = some (.int .u8 (upd f i v (i + 1))) := fun v => by rw [blk?_cell (hk2 v)]; exact arr16_byte _ (i + 1) (by omega)
                have hu4 : ∀ v : Int, (wr.setCell ⟨w.heap.size + 1, i, none⟩ (.int .u8 v)).frozen? ⟨w.heap.size + 1, i + 1, none⟩ = false := fun v => blk?_frozen (hk2 v) _
                have HI2 := Lib.hid hi2
                clear hi2
                have hLs' : (L : Int) ≤ (((ba t).size : Nat) : Int) := by omega
                have hsz0 : (0 : Int) ≤ (((ba t).size : Nat) : Int) := by omega
                have HT1 := Lib.hid ht1
                have hLn : (L : Int) < (((ba t).size : Nat) : Int) := by omega
                have hLm : L < (ba t).size := by omega
                have hcv := ba_get t HBt.out L hLm
                rw [show t.getD L 0 = t1.getD 0 0 by rw [ht1, ← getD_drop, Nat.add_zero], y2] at hcv
                have p0 : 0 < (ba t1).size := by omega
                have p1 : (0 : Int) < (((ba t1).size : Nat) : Int) := by omega
                have p2 : (1 : Int) ≤ (((ba t1).size : Nat) : Int) := by omega
                have p3 : ((((ba t1).size : Nat) : Int) == 0) = false := beq_eq_false_iff_ne.2 (by omega)
                have p4 : ((((ba t1).size : Nat) : Int) == 1) = false := beq_eq_false_iff_ne.2 (by omega)
                have c1' := ba_get t1 hB1 0 p0
                rw [y2] at c1'
                obtain ⟨t2, ht2⟩ : ∃ t2 : List Int, t2 = t1.drop 1 := ⟨_, rfl⟩
                rw [← ht2] at y3 y5
                have hx2 : (ba t1).extract 1 (ba t1).size = ba t2 := by rw [ht2]; exact ba_drop t1 1 (by omega)
                have hB2 : By t2 := by rw [ht2]; exact By_drop hB1 1
                have hT2 : t2.length = t1.length - 1 := by rw [ht2, List.length_drop]
                have hS2 := ba_size t2
                have r0 : 0 < (ba t2).size := by omega
                have r1 : (0 : Int) < (((ba t2).size : Nat) : Int) := by omega
                have r2 : (1 : Int) ≤ (((ba t2).size : Nat) : Int) := by omega
                have c2' := ba_get t2 hB2 0 r0
                have hSu2 : Suf T t2 := by rw [ht2, ht1]; exact (HSuf.out.drop L hLs).drop 1 (by rw [← ht1]; omega)
                have hln2 : t2.length ≤ 1000 := by omega
                rw [y3] at c2'
                have hE0 : ¬ (0 ≤ E) := by rw [HE.out, y4]; show ¬ ((0 : Int) ≤ -1); omega
                obtain ⟨t3, ht3⟩ : ∃ t3 : List Int, t3 = t2.drop 1 := ⟨_, rfl⟩
                rw [← ht3] at y5
                have hx3 : (ba t2).extract 1 (ba t2).size = ba t3 := by rw [ht3]; exact ba_drop t2 1 (by omega)
                have hS3 := ba_size t3
                have hSu3 : Suf T t3 := by rw [ht3]; exact hSu2.drop 1 (by omega)
                have hB3 : By t3 := by rw [ht3]; exact By_drop hB2 1
                have hln3 : t3.length ≤ 1000 := by rw [ht3, List.length_drop]; omega
                obtain rfl : t3 = [] := List.length_eq_zero_iff.1 y5
                change (ba t2).extract 1 (ba t2).size = ⟨#[]⟩ at hx3
                have HY2 := Lib.hid y6
                clear hst hS1 hT1 y0 ht1 hLs y1 y2 hB1 ht2 hT2 hS2 y3 y4 y5 y6 hB2 hSu2 hln2 ht3 hS3 hSu3 hB3 hln3
                go_upto_region 48 with fail
                have hi2 := HI2.out
                go_upto_region 51 with fail
                obtain ⟨wn, hwn⟩ : ∃ y : World, y = (wr.setCell ⟨w.heap.size + 1, i, none⟩ (.int .u8 (a / 256))).setCell ⟨w.heap.size + 1, i + 1, none⟩ (.int .u8 (a % 256)) := ⟨_, rfl⟩
                have n1 : blk? wn (w.heap.size + 1) = some (arr16 (put2 f i a)) := by rw [hwn, blk?_setSame, hk2, Option.map_some, arr16_set _ _ _ (by omega)]; rfl
                have n0 : blk? wn w.heap.size = some #[.int .u64 0, .int .u64 0, .pointer none] := by rw [hwn, blk?_setLt _ _ _ _ _ (by omega), blk?_setLt _ _ _ _ _ (by omega)]; exact k0
                have hBn : Below w.heap.size w wn := by rw [hwn]; exact (by repeat' (first | (with_reducible exact Below.refl _ _) | (with_reducible assumption) | (with_reducible refine Below.alloc ?_ ?_ _) | (with_reducible refine Below.drew ?_) | (with_reducible refine below_drewN ?_ _) | (with_reducible refine Below.setCell ?_ ?_ _) | (with_reducible refine below_setRow' ?_ ?_ _) | go_size))
                have m0 := blk?_lt n0
                have m1 := blk?_lt n1
                obtain ⟨i', hi'⟩ : ∃ n : Nat, n = i + 2 := ⟨_, rfl⟩
                rw [← hwn, show ((i : Int) + 2) = ((i' : Nat) : Int) by omega]
                have HI' := Lib.hid hi'
                have hBp : Bt (put2 f i a) := Bt_put2 HBf.out i a ⟨ha0, ha1⟩
                have HBp := Lib.hid hBp
                clear hwn hu1 hu2 hu3 hu4 hk2 hi' hi2 hn1 k0 k1 hBw hBp hl0 hl1
                go_wp2
                go_meet
                exact ⟨i', some i', put2 f i a, by rw [HY2.out, HI'.out], fun q h => by cases h; omega, HBp.out, rfl, rfl, rfl, rfl, n0, n1, hBn⟩
              · as_aux_lemma =>
                have HY := Lib.hid y0
                have hLs : L ≤ t.length := HLL.out
                obtain ⟨t1, ht1⟩ : ∃ t1 : List Int, t1 = t.drop L := ⟨_, rfl⟩
                rw [← ht1] at y1 y2 y3 y5 y6
                have hx1 : (ba t).extract L (ba t).size = ba t1 := by rw [ht1]; exact ba_drop t L hLs
                have hB1 : By t1 := by rw [ht1]; exact By_drop HBt.out L
                have hT1 : t1.length = t.length - L := by rw [ht1, List.length_drop]
                have hS1 := ba_size t1
                have hi2 : (i : Int) + 1 < 16 := by have := HIK.out; omega
                have hn1 : i + 1 < 16 := by omega
                have hu1 : wr.cell? ⟨w.heap.size + 1, i, none⟩ = some (.int .u8 (f i)) := by rw [blk?_cell k1]; exact arr16_byte f i (by omega)
                have hu2 : wr.frozen? ⟨w.heap.size + 1, i, none⟩ = false := blk?_frozen k1 _
                have hk2 : ∀ v : Int, blk? (wr.setCell ⟨w.heap.size + 1, i, none⟩ (.int .u8 v)) (w.heap.size + 1) = some (arr16 (upd f i v)) := fun v => by rw [blk?_setSame, k1, Option.map_some, arr16_set _ _ _ (by omega)]
                have hu3 : ∀ v : Int, (wr.setCell ⟨w.heap.size + 1, i, none⟩ (.int .u8 v)).cell? ⟨w.heap.size + 1, i + 1, none⟩ = some (.int .u8 (upd f i v (i + 1))) := fun v => by rw [blk?_cell (hk2 v)]; exact arr16_byte _ (i + 1) (by omega)
                have hu4 : ∀ v : Int, (wr.setCell ⟨w.heap.size + 1, i, none⟩ (.int .u8 v)).frozen? ⟨w.heap.size + 1, i + 1, none⟩ = false := fun v => blk?_frozen (hk2 v) _
                have HI2 := Lib.hid hi2
                clear hi2
                have hLs' : (L : Int) ≤ (((ba t).size : Nat) : Int) := by omega
                have hsz0 : (0 : Int) ≤ (((ba t).size : Nat) : Int) := by omega
                have HT1 := Lib.hid ht1
                have hLn : (L : Int) < (((ba t).size : Nat) : Int) := by omega
                have hLm : L < (ba t).size := by omega
                have hcv := ba_get t HBt.out L hLm
                rw [show t.getD L 0 = t1.getD 0 0 by rw [ht1, ← getD_drop, Nat.add_zero], y2] at hcv
                have p0 : 0 < (ba t1).size := by omega
                have p1 : (0 : Int) < (((ba t1).size : Nat) : Int) := by omega
                have p2 : (1 : Int) ≤ (((ba t1).size : Nat) : Int) := by omega
                have p3 : ((((ba t1).size : Nat) : Int) == 0) = false := beq_eq_false_iff_ne.2 (by omega)
                have p4 : ((((ba t1).size : Nat) : Int) == 1) = false := beq_eq_false_iff_ne.2 (by omega)
                have c1' := ba_get t1 hB1 0 p0
                rw [y2] at c1'
                obtain ⟨t2, ht2⟩ : ∃ t2 : List Int, t2 = t1.drop 1 := ⟨_, rfl⟩
                rw [← ht2] at y3 y5 y6
                have hx2 : (ba t1).extract 1 (ba t1).size = ba t2 := by rw [ht2]; exact ba_drop t1 1 (by omega)
                have hB2 : By t2 := by rw [ht2]; exact By_drop hB1 1
                have hT2 : t2.length = t1.length - 1 := by rw [ht2, List.length_drop]
                have hS2 := ba_size t2
                have r0 : 0 < (ba t2).size := by omega
                have r1 : (0 : Int) < (((ba t2).size : Nat) : Int) := by omega
                have r2 : (1 : Int) ≤ (((ba t2).size : Nat) : Int) := by omega
                have c2' := ba_get t2 hB2 0 r0
                have hSu2 : Suf T t2 := by rw [ht2, ht1]; exact (HSuf.out.drop L hLs).drop 1 (by rw [← ht1]; omega)
                have hln2 : t2.length ≤ 1000 := by omega
                rw [y3] at c2'
                have hE0 : ¬ (0 ≤ E) := by rw [HE.out, y4]; show ¬ ((0 : Int) ≤ -1); omega
                obtain ⟨t3, ht3⟩ : ∃ t3 : List Int, t3 = t2.drop 1 := ⟨_, rfl⟩
                rw [← ht3] at y5 y6
                have hx3 : (ba t2).extract 1 (ba t2).size = ba t3 := by rw [ht3]; exact ba_drop t2 1 (by omega)
                have hS3 := ba_size t3
                have hSu3 : Suf T t3 := by rw [ht3]; exact hSu2.drop 1 (by omega)
                have hB3 : By t3 := by rw [ht3]; exact By_drop hB2 1
                have hln3 : t3.length ≤ 1000 := by rw [ht3, List.length_drop]; omega
                have z0 : ((((ba t3).size : Nat) : Int) == 0) = false := beq_eq_false_iff_ne.2 (by omega)
                have HY2 := Lib.hid y6
                have HS := Lib.hid (And.intro hSu3 (And.intro hB3 hln3))
                clear hst hS1 hT1 y0 ht1 hLs y1 y2 hB1 ht2 hT2 hS2 y3 y4 y5 y6 hB2 hSu2 hln2 ht3 hS3 hSu3 hB3 hln3
                go_upto_region 48 with fail
                have hi2 := HI2.out
                go_upto_region 51 with fail
                obtain ⟨wn, hwn⟩ : ∃ y : World, y = (wr.setCell ⟨w.heap.size + 1, i, none⟩ (.int .u8 (a / 256))).setCell ⟨w.heap.size + 1, i + 1, none⟩ (.int .u8 (a % 256)) := ⟨_, rfl⟩
                have n1 : blk? wn (w.heap.size + 1) = some (arr16 (put2 f i a)) := by rw [hwn, blk?_setSame, hk2, Option.map_some, arr16_set _ _ _ (by omega)]; rfl
                have n0 : blk? wn w.heap.size = some #[.int .u64 0, .int .u64 0, .pointer none] := by rw [hwn, blk?_setLt _ _ _ _ _ (by omega), blk?_setLt _ _ _ _ _ (by omega)]; exact k0
                have hBn : Below w.heap.size w wn := by rw [hwn]; exact (by repeat' (first | (with_reducible exact Below.refl _ _) | (with_reducible assumption) | (with_reducible refine Below.alloc ?_ ?_ _) | (with_reducible refine Below.drew ?_) | (with_reducible refine below_drewN ?_ _) | (with_reducible refine Below.setCell ?_ ?_ _) | (with_reducible refine below_setRow' ?_ ?_ _) | go_size))
                have m0 := blk?_lt n0
                have m1 := blk?_lt n1
                obtain ⟨i', hi'⟩ : ∃ n : Nat, n = i + 2 := ⟨_, rfl⟩
                rw [← hwn, show ((i : Int) + 2) = ((i' : Nat) : Int) by omega]
                have HI' := Lib.hid hi'
                have hBp : Bt (put2 f i a) := Bt_put2 HBf.out i a ⟨ha0, ha1⟩
                have HBp := Lib.hid hBp
                clear hwn hu1 hu2 hu3 hu4 hk2 hi' hi2 hn1 k0 k1 hBw hBp hl0 hl1
                go_wp2
                go_roundw
                case rel =>
                  have hI' := HI'.out
                  have hIK := HIK.out
                  exact ⟨t3, k + 1, i', some i', put2 f i a, by omega, by omega, HS.out.2.1, HS.out.2.2, HS.out.1, fun q h => by cases h; omega, HBp.out, by rw [← HY2.out, HI'.out, show 8 - (k + 1) = 7 - k by omega], rfl, rfl, rfl, rfl, n0, n1, hBn⟩
                case measure => have hI' := HI'.out; simp [intOf]; omega
              · as_aux_lemma =>
                have HY := Lib.hid y0
                have hLs : L ≤ t.length := HLL.out
                obtain ⟨t1, ht1⟩ : ∃ t1 : List Int, t1 = t.drop L := ⟨_, rfl⟩
                rw [← ht1] at y1 y2 y3 y4
                have hx1 : (ba t).extract L (ba t).size = ba t1 := by rw [ht1]; exact ba_drop t L hLs
                have hB1 : By t1 := by rw [ht1]; exact By_drop HBt.out L
                have hT1 : t1.length = t.length - L := by rw [ht1, List.length_drop]
                have hS1 := ba_size t1
                have hi2 : (i : Int) + 1 < 16 := by have := HIK.out; omega
                have hn1 : i + 1 < 16 := by omega
                have hu1 : wr.cell? ⟨w.heap.size + 1, i, none⟩ = some (.int .u8 (f i)) := by rw [blk?_cell k1]; exact arr16_byte f i (by omega)
                have hu2 : wr.frozen? ⟨w.heap.size + 1, i, none⟩ = false := blk?_frozen k1 _
                have hk2 : ∀ v : Int, blk? (wr.setCell ⟨w.heap.size + 1, i, none⟩ (.int .u8 v)) (w.heap.size + 1) = some (arr16 (upd f i v)) := fun v => by rw [blk?_setSame, k1, Option.map_some, arr16_set _ _ _ (by omega)]
                have hu3 : ∀ v : Int, (wr.setCell ⟨w.heap.size + 1, i, none⟩ (.int .u8 v)).cell? ⟨w.heap.size + 1, i + 1, none⟩ = some (.int .u8 (upd f i v (i + 1))) := fun v => by rw [blk?_cell (hk2 v)]; exact arr16_byte _ (i + 1) (by omega)
                have hu4 : ∀ v : Int, (wr.setCell ⟨w.heap.size + 1, i, none⟩ (.int .u8 v)).frozen? ⟨w.heap.size + 1, i + 1, none⟩ = false := fun v => blk?_frozen (hk2 v) _
                have HI2 := Lib.hid hi2
                clear hi2
                have hLs' : (L : Int) ≤ (((ba t).size : Nat) : Int) := by omega
                have hsz0 : (0 : Int) ≤ (((ba t).size : Nat) : Int) := by omega
                have HT1 := Lib.hid ht1
                have hLn : (L : Int) < (((ba t).size : Nat) : Int) := by omega
                have hLm : L < (ba t).size := by omega
                have hcv := ba_get t HBt.out L hLm
                rw [show t.getD L 0 = t1.getD 0 0 by rw [ht1, ← getD_drop, Nat.add_zero], y2] at hcv
                have p0 : 0 < (ba t1).size := by omega
                have p1 : (0 : Int) < (((ba t1).size : Nat) : Int) := by omega
                have p2 : (1 : Int) ≤ (((ba t1).size : Nat) : Int) := by omega
                have p3 : ((((ba t1).size : Nat) : Int) == 0) = false := beq_eq_false_iff_ne.2 (by omega)
                have p4 : ((((ba t1).size : Nat) : Int) == 1) = false := beq_eq_false_iff_ne.2 (by omega)
                have c1' := ba_get t1 hB1 0 p0
                rw [y2] at c1'
                obtain ⟨t2, ht2⟩ : ∃ t2 : List Int, t2 = t1.drop 1 := ⟨_, rfl⟩
                rw [← ht2] at y3 y4
                have hx2 : (ba t1).extract 1 (ba t1).size = ba t2 := by rw [ht2]; exact ba_drop t1 1 (by omega)
                have hB2 : By t2 := by rw [ht2]; exact By_drop hB1 1
                have hT2 : t2.length = t1.length - 1 := by rw [ht2, List.length_drop]
                have hS2 := ba_size t2
                have r0 : 0 < (ba t2).size := by omega
                have r1 : (0 : Int) < (((ba t2).size : Nat) : Int) := by omega
                have r2 : (1 : Int) ≤ (((ba t2).size : Nat) : Int) := by omega
                have c2' := ba_get t2 hB2 0 r0
                have hSu2 : Suf T t2 := by rw [ht2, ht1]; exact (HSuf.out.drop L hLs).drop 1 (by rw [← ht1]; omega)
                have hln2 : t2.length ≤ 1000 := by omega
                obtain ⟨c, hc⟩ : ∃ c : Int, c = t2.getD 0 0 := ⟨_, rfl⟩
                rw [← hc] at c2' y3
                have z0 : (c == 58) = false := beq_eq_false_iff_ne.2 y3
                have HY2 := Lib.hid y4
                have HS := Lib.hid (And.intro hSu2 (And.intro hB2 hln2))
                clear hst hS1 hT1 y0 ht1 hLs y1 y2 hB1 ht2 hT2 hS2 y3 y4 hB2 hSu2 hln2 hc
                go_upto_region 48 with fail
                have hi2 := HI2.out
                go_upto_region 51 with fail
                obtain ⟨wn, hwn⟩ : ∃ y : World, y = (wr.setCell ⟨w.heap.size + 1, i, none⟩ (.int .u8 (a / 256))).setCell ⟨w.heap.size + 1, i + 1, none⟩ (.int .u8 (a % 256)) := ⟨_, rfl⟩
                have n1 : blk? wn (w.heap.size + 1) = some (arr16 (put2 f i a)) := by rw [hwn, blk?_setSame, hk2, Option.map_some, arr16_set _ _ _ (by omega)]; rfl
                have n0 : blk? wn w.heap.size = some #[.int .u64 0, .int .u64 0, .pointer none] := by rw [hwn, blk?_setLt _ _ _ _ _ (by omega), blk?_setLt _ _ _ _ _ (by omega)]; exact k0
                have hBn : Below w.heap.size w wn := by rw [hwn]; exact (by repeat' (first | (with_reducible exact Below.refl _ _) | (with_reducible assumption) | (with_reducible refine Below.alloc ?_ ?_ _) | (with_reducible refine Below.drew ?_) | (with_reducible refine below_drewN ?_ _) | (with_reducible refine Below.setCell ?_ ?_ _) | (with_reducible refine below_setRow' ?_ ?_ _) | go_size))
                have m0 := blk?_lt n0
                have m1 := blk?_lt n1
                obtain ⟨i', hi'⟩ : ∃ n : Nat, n = i + 2 := ⟨_, rfl⟩
                rw [← hwn, show ((i : Int) + 2) = ((i' : Nat) : Int) by omega]
                have HI' := Lib.hid hi'
                have hBp : Bt (put2 f i a) := Bt_put2 HBf.out i a ⟨ha0, ha1⟩
                have HBp := Lib.hid hBp
                clear hwn hu1 hu2 hu3 hu4 hk2 hi' hi2 hn1 k0 k1 hBw hBp hl0 hl1
                go_wp2
                go_roundw
                case rel =>
                  have hI' := HI'.out
                  have hIK := HIK.out
                  exact ⟨t2, k + 1, i', e, put2 f i a, by omega, by omega, HS.out.2.1, HS.out.2.2, HS.out.1, fun q h => by have := HEk.out q h; have := HI'.out; omega, HBp.out, by rw [← HY2.out, HI'.out, show 8 - (k + 1) = 7 - k by omega], rfl, rfl, rfl, by rw [HE.out], n0, n1, hBn⟩
                case measure => have hI' := HI'.out; simp [intOf]; omega
    
          · have hi1 : ¬ ((i : Int) < 16) := by omega
            have he : R = some (t, i, e, f) := by rw [← HR.out, show 8 - k = 0 by omega, p6]
            have ht := (HOk.out _ _ _ _ he).1
            have HE := Lib.hid (And.intro he ht)
            clear he ht hik
            go_wp2
            go_meet
            obtain ⟨he, ht⟩ := HE.out
            subst ht
            exact ⟨i, e, f, he, HEk.out, HBf.out, rfl, rfl, rfl, rfl, k0, k1, hBw⟩
    
      case rest =>
        apply_assumption
        exact tail6 T R HOk.out w HG.out _ hcut
    
set_option maxHeartbeats 4000000 in
set_option maxRecDepth 100000 in
theorem parse6c {b4 o4 b6 o6 : Nat} (w : World) (hg : Gl b4 o4 b6 o6 w) :
    Calls Tryd.prog 160 #[.string (ba [58, 58])] w fun e w' => Pst6 (some zb) b6 o6 e ∧ Below w.heap.size w w' := by
  have HG := Lib.hid hg
  obtain ⟨T, hT⟩ : ∃ T : List Int, T = [58, 58] := ⟨_, rfl⟩
  have hB : By T := by rw [hT]; intro c hc; simp at hc; omega
  have HI := Lib.hid (idx_none T hB (by rw [hT]; intro c hc; simp at hc; omega))
  have hix : ∀ w, (callFunc 174 #[.string (ba T), .int .u8 37]).run Tryd.prog w = .ok (.value (.int .i64 (-1))) w := HI.out
  have hs : (ba T).size = 2 := by rw [hT]; rfl
  have hex : (ba T).extract 2 (ba T).size = ⟨#[]⟩ := by rw [hT]; rfl
  have q0 : 0 < (ba T).size := by omega
  have q1 : 1 < (ba T).size := by omega
  have q2 : (2 : Int) ≤ (((ba T).size : Nat) : Int) := by omega
  have q3 : (0 : Int) < (((ba T).size : Nat) : Int) := by omega
  have q4 : (1 : Int) < (((ba T).size : Nat) : Int) := by omega
  have c0 := ba_get T hB 0 q0
  have c1 := ba_get T hB 1 q1
  rw [show T.getD 0 0 = 58 by rw [hT]; rfl] at c0
  rw [show T.getD 1 0 = 58 by rw [hT]; rfl] at c1
  rw [← hT]
  clear hg hs hT hB
  go_enter Tryd.func160, Tryd.ntmps160
  go_wp2_with (first
    | (go_at_call 74; (with_reducible refine (unsp6 (b4 := b4) (o4 := o4) (b6 := b6) (o6 := o6) _ ?_).mono ?_); (exact HG.out.below (by repeat' (first | (with_reducible exact Below.refl _ _) | (with_reducible assumption) | (with_reducible refine Below.alloc ?_ ?_ _) | (with_reducible refine Below.drew ?_) | (with_reducible refine below_drewN ?_ _) | (with_reducible refine Below.setCell ?_ ?_ _) | (with_reducible refine below_setRow' ?_ ?_ _) | go_size)) (Nat.le_refl _)); rintro e w1 ⟨rfl, hb1⟩; have hk1 := blk?_below hb1; (try simp only [size_drew', size_drewN'] at hk1); have hB1 := below_via (w := w) (by repeat' (first | (with_reducible exact Below.refl _ _) | (with_reducible assumption) | (with_reducible refine Below.alloc ?_ ?_ _) | (with_reducible refine Below.drew ?_) | (with_reducible refine below_drewN ?_ _) | (with_reducible refine Below.setCell ?_ ?_ _) | (with_reducible refine below_setRow' ?_ ?_ _) | go_size)) hb1; have hL0 : w.heap.size < w1.heap.size := (by have hS0 := hb1.size; (try simp at hS0); omega); have hL1 : w.heap.size + 1 < w1.heap.size := (by have hS0 := hb1.size; (try simp at hS0); omega); have hLe : w.heap.size ≤ w1.heap.size := hB1.size; clear hb1)
    | (go_at_call 131; (with_reducible refine (withZone_6 (b4 := b4) (o4 := o4) (b6 := b6) (o6 := o6) _ _ _ ?_).mono ?_); (exact HG.out.below (by repeat' (first | (with_reducible exact Below.refl _ _) | (with_reducible assumption) | (with_reducible refine Below.alloc ?_ ?_ _) | (with_reducible refine Below.drew ?_) | (with_reducible refine below_drewN ?_ _) | (with_reducible refine Below.setCell ?_ ?_ _) | (with_reducible refine below_setRow' ?_ ?_ _) | go_size)) (Nat.le_refl _)); rintro e w2 ⟨rfl, hb1⟩; have hk1 := blk?_below hb1; (try simp only [size_drew', size_drewN'] at hk1); have hB1 := below_via (w := w) (by repeat' (first | (with_reducible exact Below.refl _ _) | (with_reducible assumption) | (with_reducible refine Below.alloc ?_ ?_ _) | (with_reducible refine Below.drew ?_) | (with_reducible refine below_drewN ?_ _) | (with_reducible refine Below.setCell ?_ ?_ _) | (with_reducible refine below_setRow' ?_ ?_ _) | go_size)) hb1; have hL0 : w.heap.size < w2.heap.size := (by have hS0 := hb1.size; (try simp at hS0); omega); have hLe : w.heap.size ≤ w2.heap.size := hB1.size; clear hb1))
  refine bodyPost_ret (res78t Tryd.results160 _ _ (w.heap.size) #[.int .u64 0, .int .u64 0, .pointer (some ⟨b6, o6, none⟩)] rfl ?_ rfl) rfl ?_
  · go_simp
  · exact ⟨Pst6_some rfl, (by repeat' (first | (with_reducible exact Below.refl _ _) | (with_reducible assumption) | (with_reducible refine Below.alloc ?_ ?_ _) | (with_reducible refine Below.drew ?_) | (with_reducible refine below_drewN ?_ _) | (with_reducible refine Below.setCell ?_ ?_ _) | (with_reducible refine below_setRow' ?_ ?_ _) | go_size))⟩
theorem parse6 (T : List Int) (hB : By T) (h37 : ∀ c ∈ T, c ≠ 37) (hl' : T.length ≤ 1000) (x : Nat → Int) (hx : ∀ p, p ≤ 3 → 0 ≤ x p ∧ x p < 256) (hok : ok6 x T) {b4 o4 b6 o6 : Nat} (w : World) (hg : Gl b4 o4 b6 o6 w) :
    Calls Tryd.prog 160 #[.string (ba T)] w fun e w' => Pst6 (rd6 x T) b6 o6 e ∧ Below w.heap.size w w' := by
  unfold ok6 at hok
  unfold rd6
  by_cases hc : 2 ≤ T.length ∧ T.getD 0 0 = 58 ∧ T.getD 1 0 = 58
  · rw [if_pos hc] at hok ⊢
    by_cases hn : (T.drop 2).length = 0
    · rw [if_pos hn]
      have e : T = [58, 58] := by
        rw [List.length_drop] at hn
        match T, hc, hn with
        | [], hc, _ => exact absurd hc.1 (by decide)
        | [_], hc, _ => exact absurd hc.1 (by simp)
        | [a, b], hc, _ => rw [show a = 58 from hc.2.1, show b = 58 from hc.2.2]
        | a :: b :: c :: d, _, hn => simp at hn
      rw [e]
      exact parse6c w hg
    · rw [if_neg hn] at hok ⊢
      exact parse6ab T hB h37 hl' x hx _ _ (Or.inl ⟨hc.1, hc.2.1, hc.2.2, hn, rfl, rfl⟩) _ rfl hok w hg
  · rw [if_neg hc] at hok ⊢
    have h1 := (p6_step x 7 T 0 none zb _ rfl hok).1
    have h2 := hl_hex T 0 (by omega)
    refine parse6ab T hB h37 hl' x hx _ _ (Or.inr ⟨?_, Nat.le_trans h1 (hl_le T), rfl, rfl⟩) _ rfl hok w hg
    intro e; rw [e] at h2; revert h2; decide
end Go.Proofs.YtmlkcgacneealaaDoor
