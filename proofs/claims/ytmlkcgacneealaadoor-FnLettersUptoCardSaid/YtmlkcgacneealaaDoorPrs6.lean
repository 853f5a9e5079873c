/- parseIPv6 on a text without a percent sign: what the plain reader says. Conditions: the listed variables as laid. -/
import Derived.Test.YtmlkcgacneealaaDoorPrs5
import Derived.Lib.Bytealg
import Derived.Lib.SliceRun
import Derived.Deep.DeepCutAuto
import Derived.Deep.CutBlock
set_option linter.unusedVariables false
set_option linter.unusedSimpArgs false
namespace Go.Proofs.YtmlkcgacneealaaDoor
open Go.RowKit

theorem idx_none (s : List Int) (hB : By s) (h : ∀ c ∈ s, c ≠ 37) (w : World) : (callFunc 174 #[.string (ba s), .int .u8 37]).run Tryd.prog w = .ok (.value (.int .i64 (-1))) w := by
  rw [run_callFunc_extern Tryd.func174 (by kernel_rfl) (by kernel_rfl) (by kernel_rfl) (e := Extern.BytealgIndexByte.indexByte) (by kernel_rfl), run_indexByte_string]
  have e : firstIdx (ba s) ((37 : Int).toNat.toUInt8) = -1 := by
    rw [Lib.firstIdx_eq]
    show Lib.indexByte (s.map fun n => UInt8.ofNat n.toNat) 37 = -1
    clear w
    induction s with
    | nil => rfl
    | cons a s ih =>
      have h1 := h a (by simp)
      have h2 := hB a (by simp)
      have h3 := ih (fun x hx => hB x (by simp [hx])) (fun x hx => h x (by simp [hx]))
      simp only [List.map_cons, Lib.indexByte, h3]
      have : (UInt8.ofNat a.toNat == 37) = false := by
        rw [beq_eq_false_iff_ne]
        intro e
        have := congrArg UInt8.toNat e
        simp at this
        omega
      rw [this]; rfl
  rw [e]; rfl
theorem bld124 (a b c : ByteArray) (w : World) : (Instr.build 124 #[(0, .string a), (1, .string b), (2, .string c)]).run Tryd.prog w = .ok (.agg #[.string a, .string b, .string c]) w := by kernel_rfl
theorem bld124' (a b : ByteArray) (w : World) : (Instr.build 124 #[(0, .string a), (1, .string b)]).run Tryd.prog w = .ok (.agg #[.string a, .string b, .string ⟨#[]⟩]) w := by kernel_rfl
attribute [go_sem ↓] bld124 bld124'
attribute [go_sem 3000] bld124 bld124'
theorem pow16_le (j : Nat) (h : j ≤ 4) : (16 : Int) ^ j ≤ 65536 := by
  match j, h with
  | 0, _ => decide
  | 1, _ => decide
  | 2, _ => decide
  | 3, _ => decide
  | 4, _ => decide
  | j + 5, h => omega
theorem hxd_cases (c : Int) (h : hxd c = true) : (48 ≤ c ∧ c ≤ 57 ∧ hval c = c - 48) ∨ (97 ≤ c ∧ c ≤ 102 ∧ hval c = c - 97 + 10) ∨ (65 ≤ c ∧ c ≤ 70 ∧ hval c = c - 65 + 10) := by
  unfold hxd at h
  simp only [Bool.or_eq_true, decide_eq_true_eq] at h
  unfold hval
  rcases h with (⟨h1, h2⟩ | ⟨h1, h2⟩) | ⟨h1, h2⟩
  · exact Or.inl ⟨h1, h2, by rw [if_pos h2]⟩
  · exact Or.inr (Or.inl ⟨h1, h2, by rw [if_neg (by omega), if_pos h1]; omega⟩)
  · exact Or.inr (Or.inr ⟨h1, h2, by rw [if_neg (by omega), if_neg (by omega)]; omega⟩)
theorem hxd_not (c : Int) (h : hxd c = false) : (c < 48 ∨ 57 < c) ∧ (c < 97 ∨ 102 < c) ∧ (c < 65 ∨ 70 < c) := by
  unfold hxd at h
  simp only [Bool.or_eq_false_iff, decide_eq_false_iff_not] at h
  omega
/-- The ellipsis as Go has it. -/
def ev : Option Nat → Int
  | none => -1
  | some k => (k : Int)
theorem ev_lt (e : Option Nat) (n : Nat) (hn : n ≤ 1000) (h : ∀ k, e = some k → k ≤ n) : -1 ≤ ev e ∧ ev e ≤ 1000 := by
  cases e with
  | none => exact ⟨by decide, by decide⟩
  | some k => have := h k rfl; exact ⟨by show -1 ≤ (k : Int); omega, by show (k : Int) ≤ 1000; omega⟩
theorem Bt_upd {f : Nat → Int} (h : Bt f) (k : Nat) (v : Int) (hv : 0 ≤ v ∧ v < 256) : Bt (upd f k v) := fun i => by
  unfold upd; split
  · exact hv
  · exact h i
theorem Bt_put2 {f : Nat → Int} (h : Bt f) (k : Nat) (v : Int) (hv : 0 ≤ v ∧ v < 65536) : Bt (put2 f k v) := Bt_upd (Bt_upd h _ _ (by omega)) _ _ (by omega)
theorem Bt_put4 {f : Nat → Int} (h : Bt f) (k : Nat) (x : Nat → Int) (hx : ∀ p, p ≤ 3 → 0 ≤ x p ∧ x p < 256) : Bt (put4 f k x) := Bt_upd (Bt_upd (Bt_upd (Bt_upd h _ _ (hx 0 (by omega))) _ _ (hx 1 (by omega))) _ _ (hx 2 (by omega))) _ _ (hx 3 (by omega))
theorem Bt_exp6 {f : Nat → Int} (h : Bt f) (i e : Nat) : Bt (exp6 f i e) := fun k => by
  unfold exp6; split
  · exact h k
  · split
    · omega
    · exact h _
theorem By_drop {t : List Int} (h : By t) (k : Nat) : By (t.drop k) := fun x hx => h x (List.mem_of_mem_drop hx)
theorem fs_put4 (f x : Nat → Int) (i : Nat) (h : i + 4 ≤ 16) : fs (arr16 f) i x 4 = arr16 (put4 f i x) := by
  simp only [fs, put4, Nat.add_zero]
  rw [arr16_set _ _ _ (by omega), arr16_set _ _ _ (by omega), arr16_set _ _ _ (by omega), arr16_set _ _ _ (by omega)]
theorem blk_clr (g : Nat) : ∀ (n o : Nat) (w : World) (f : Nat → Int), blk? w g = some (arr16 f) → o + n ≤ 16 → blk? (w.setCells g o (List.replicate n (.int .u8 0))) g = some (arr16 (clr f o n))
  | 0, o, w, f, h, _ => by rw [clr_zero]; exact h
  | n + 1, o, w, f, h, hn => by
    rw [List.replicate_succ, ← clr_succ]
    refine blk_clr g n (o + 1) _ (upd f o 0) ?_ (by omega)
    rw [blk?_setSame, h, Option.map_some, arr16_set _ _ _ (by omega)]
/-- What parseIPv6 answers, by what the plain reader says. -/
def Pst6 (r : Option (Nat → Int)) (b6 o6 : Nat) (e : Ending) : Prop :=
  match r with
  | some f => e = .returned (.tuple #[.agg #[.int .u64 (be8f f 0), .int .u64 (be8f f 8), .pointer (some ⟨b6, o6, none⟩)], .nilIface])
  | none => ∃ p, e = .returned (.tuple #[.agg #[.int .u64 0, .int .u64 0, .pointer none], .iface 124 p])
theorem Pst6_some {f : Nat → Int} {b6 o6 : Nat} {e : Ending} (h : e = .returned (.tuple #[.agg #[.int .u64 (be8f f 0), .int .u64 (be8f f 8), .pointer (some ⟨b6, o6, none⟩)], .nilIface])) : Pst6 (some f) b6 o6 e := h
theorem Pst6_none {b6 o6 : Nat} {e : Ending} (h : ∃ p, e = .returned (.tuple #[.agg #[.int .u64 0, .int .u64 0, .pointer none], .iface 124 p])) : Pst6 none b6 o6 e := h
theorem arr16_cong (f g : Nat → Int) (h : ∀ k, k < 16 → f k = g k) : arr16 f = arr16 g := by
  unfold arr16; rw [h 0 (by omega), h 1 (by omega), h 2 (by omega), h 3 (by omega), h 4 (by omega), h 5 (by omega), h 6 (by omega), h 7 (by omega), h 8 (by omega), h 9 (by omega), h 10 (by omega), h 11 (by omega), h 12 (by omega), h 13 (by omega), h 14 (by omega), h 15 (by omega)]
theorem pl1 {i N m : Nat} (hN : N = 16 - i) (h : m + 1 ≤ i) (hi : i < 16) : m + N < 16 := by omega
theorem pl2 {i N j : Nat} (hN : N = 16 - i) (h : j ≤ i) (hi : i < 16) : 0 < N ∧ j + N ≤ 16 := by omega
theorem cl16 {M : Nat} (h : M < 16) : (M : Int) < 16 := by omega
theorem ge0 (M : Nat) : (0 : Int) ≤ (M : Int) := by omega
theorem pl3 {M : Nat} (h : M ≤ 16) : wrap64 (M : Int) = (M : Int) := by unfold wrap64; omega
theorem w64 (x : Int) (h0 : 0 ≤ x) (h1 : x ≤ 1000) : wrap64 x = x := by
  first | (unfold wrap64; omega) | (simp [wrap64]; omega) | (unfold wrap64; split <;> omega)
theorem sl23 (g lo hi : Nat) (a b : Int) (ha : a = lo) (hb : b = hi) (h1 : lo < hi) (h2 : hi ≤ 16) (w : World) :
    (Instr.sliceAt 23 (.pointer (some ⟨g, 0, none⟩)) (some (.int .i64 a)) (some (.int .i64 b)) none).run Tryd.prog w = .ok (.slice (some ⟨g, lo, none⟩) (hi - lo) (16 - lo)) w := by
  subst ha hb
  have hl : Tryd.prog.arrayLen 23 = 16 := by kernel_rfl
  have hz : (sizeOf (Tryd.prog.elem 23)).run Tryd.prog w = .ok 1 w := by kernel_rfl
  rw [run_sliceAt_array_lh w 23 _ (by kernel_rfl) .i64 .i64 _ _ (by omega) (by omega) (by rw [hl]; omega), hz, hl]
  have hne : ¬ (16 = lo) := by omega
  simp [Result.andThen, slicedAt, Addr.add, hne]
  omega
theorem clr28 (g o n c ty : Nat) (w : World) (f : Nat → Int) (hb : blk? w g = some (arr16 f)) (hn : 0 < n) (h : o + n ≤ 16) :
    (Builtin.clear_ #[28] ty #[.slice (some ⟨g, o, none⟩) n c]).run Tryd.prog w = .ok (.tuple #[]) (w.setCells g o (List.replicate n (.int .u8 0))) := by
  refine Lib.run_clear_slice w 28 5 ty (.int .u8 0) (by kernel_rfl) (fun w => by kernel_rfl) rfl rfl g o n c hn ?_ ?_
  · intro j hj
    rw [blk?_cell hb, arr16_byte f (o + j) (by omega)]; rfl
  · intro j hj; exact blk?_frozen hb _
/-- The code behind the outer loop. -/
def aft0 : Code → Option Code
  | .seq (.block 0 _) b => some b
  | .seq _ b => aft0 b
  | _ => none
noncomputable def tail6c : Code := ((Tryd.f160.body.bind aft0).getD .skip)
set_option maxHeartbeats 8000000 in
set_option maxRecDepth 100000 in
theorem tail6 (T : List Int) (R : Option (List Int × Nat × Option Nat × (Nat → Int))) (hOk : Ok6 R) {b4 o4 b6 o6 : Nat} (w : World) (hg : Gl b4 o4 b6 o6 w) (wc : World) {u1 u3 u4 u6 u8 u9 u10 u11 u12 u13 u14 u15 u16 u17 u18 u19 u20 u21 u22 u23 u24 u25 u26 u27 u28 u29 u30 u31 u32 u33 u34 u35 u36 u37 u38 u39 u40 u41 u42 u43 u44 u45 u46 u47 u48 u49 u50 u51 u52 u53 u54 u55 u56 u57 u58 u59 u60 u61 u62 u63 u64 u65 u66 u67 u68 u69 u70 u71 u72 u73 u74 u75 u76 u77 u78 u79 u80 u81 u82 u83 u84 u85 u86 u87 u88 u89 u90 u91 u92 u93 u94 u95 u96 u97 u98 u99 u100 u101 u102 u103 u104 u105 u106 u107 u108 u109 u110 u111 u112 u113 u114 u115 u116 u117 u118 u119 u120 u121 u122 u123 u124 u125 u126 u127 u128 u129 u130 u131 u132 u133 u134 u135 u136 u137 u138 u139 u140 u141 u142 u143 u144 u145 u146 u147 u148 u149 u150 u151 u152 u153 u154 u155 u156 u157 u158 u159 u160 u161 u162 u163 u164 u165 u166 u167 u168 u169 u170 u171 u172 u173 u174 u175 u176 u177 u178 u179 u180 u181 u182 u183 u184 u185 u186 u187 u188 u189 u190 u191 u192 u193 u194 u195 u196 u197 u198 u199 u200 u201 u202 u203 u204 u205 u206 u207 u208 u209 u210 u211 u212 u213 u214 u215 u216 u217 u218 u219 u220 u221 u222 u223 u224 u225 u226 u227 u228 u229 u230 u231 u232 u233 u234 u235 u236 u237 u238 u239 u240 u241 u242 u243 u244 u245 u246 u247 u248 u249 u250 u251 u252 u253 u254 u255 u256 u257 u258 u259 u260 u261 u262 u263 u264 u265 u266 u267 u268 u269 u270 u271 u272 u273 u274 u275 u276 u277 u278 u279 : Value} (hcut : ∃ (i : Nat) (e : Option Nat) (f : Nat → Int), R = some ([], i, e, f) ∧ (∀ q, e = some q → q ≤ i) ∧ Bt f ∧ u3 = .nilIface ∧ u4 = .string ⟨#[]⟩ ∧ u6 = .int .i64 (i : Int) ∧ u8 = .int .i64 (ev e) ∧ blk? wc w.heap.size = some #[.int .u64 0, .int .u64 0, .pointer none] ∧ blk? wc (w.heap.size + 1) = some (arr16 f) ∧ Below w.heap.size w wc) :
    Code.wp Tryd.prog tail6c (bodyPost Tryd.prog Tryd.f160 fun e w' => Pst6 (fin6 R) b6 o6 e ∧ Below w.heap.size w w') ⟨#[.string (ba T), u1, .pointer (some ⟨w.heap.size, 0, none⟩), u3, u4, .string ⟨#[]⟩, u6, .pointer (some ⟨w.heap.size + 1, 0, none⟩), u8, u9, u10, u11, u12, u13, u14, u15, u16, u17, u18, u19, u20, u21, u22, u23, u24, u25, u26, u27, u28, u29, u30, u31, u32, u33, u34, u35, u36, u37, u38, u39, u40, u41, u42, u43, u44, u45, u46, u47, u48, u49, u50, u51, u52, u53, u54, u55, u56, u57, u58, u59, u60, u61, u62, u63, u64, u65, u66, u67, u68, u69, u70, u71, u72, u73, u74, u75, u76, u77, u78, u79, u80, u81, u82, u83, u84, u85, u86, u87, u88, u89, u90, u91, u92, u93, u94, u95, u96, u97, u98, u99, u100, u101, u102, u103, u104, u105, u106, u107, u108, u109, u110, u111, u112, u113, u114, u115, u116, u117, u118, u119, u120, u121, u122, u123, u124, u125, u126, u127, u128, u129, u130, u131, u132, u133, u134, u135, u136, u137, u138, u139, u140, u141, u142, u143, u144, u145, u146, u147, u148, u149, u150, u151, u152, u153, u154, u155, u156, u157, u158, u159, u160, u161, u162, u163, u164, u165, u166, u167, u168, u169, u170, u171, u172, u173, u174, u175, u176, u177, u178, u179, u180, u181, u182, u183, u184, u185, u186, u187, u188, u189, u190, u191, u192, u193, u194, u195, u196, u197, u198, u199, u200, u201, u202, u203, u204, u205, u206, u207, u208, u209, u210, u211, u212, u213, u214, u215, u216, u217, u218, u219, u220, u221, u222, u223, u224, u225, u226, u227, u228, u229, u230, u231, u232, u233, u234, u235, u236, u237, u238, u239, u240, u241, u242, u243, u244, u245, u246, u247, u248, u249, u250, u251, u252, u253, u254, u255, u256, u257, u258, u259, u260, u261, u262, u263, u264, u265, u266, u267, u268, u269, u270, u271, u272, u273, u274, u275, u276, u277, u278, u279], []⟩ wc := by
  have HG := Lib.hid hg
  have HOk := Lib.hid hOk
  clear hg hOk
  conv => arg 2; whnf
  obtain ⟨i, e, f, hRe, hek, hBf, rfl, rfl, rfl, rfl, k0, k1, hBw⟩ := hcut
  have hl0 := blk?_lt k0
  have hl1 := blk?_lt k1
  have hi16 := (HOk.out _ _ _ _ hRe).2.1
  have hie := (HOk.out _ _ _ _ hRe).2.2
  have HBf := Lib.hid hBf
  have hi0 : (0 : Int) ≤ (i : Int) := by omega
  by_cases hi : i < 16
  · cases e with
    | none => exact absurd rfl (hie hi)
    | some k =>
      have hki := hek k rfl
      have hF : fin6 R = some (exp6 f i k) := by rw [hRe]; simp [fin6, hi]
      have HF := Lib.hid hF
      rw [show ev (some k) = (k : Int) from rfl]
      have hi1 : (i : Int) < 16 := by omega
      have hk0 : ¬ ((k : Int) < 0) := by omega
      have hk1 : (0 : Int) ≤ (k : Int) := by omega
      obtain ⟨N, hN⟩ : ∃ N : Nat, N = 16 - i := ⟨_, rfl⟩
      have hN1 : 16 - (i : Int) = (N : Int) := by omega
      have hNw : wrap64 (N : Int) = (N : Int) := w64 _ (by omega) (by omega)
      have HN := Lib.hid (And.intro hN (And.intro hki hi))
      clear hF hRe hek hBf hie hi16 hN hki hi
      go_wp2
      go_loopw [15] (fun v15 wr => ∃ (j : Nat) (jj : Int), jj + 1 = (j : Int) ∧ k ≤ j ∧ j ≤ i ∧ v15 = .int .i64 jj ∧ blk? wr w.heap.size = some #[.int .u64 0, .int .u64 0, .pointer none] ∧ blk? wr (w.heap.size + 1) = some (arr16 (shf f N j)) ∧ Below w.heap.size w wr) (fun v _ => (intOf v + 1).toNat)
      case atStart => exact ⟨i, (i : Int) - 1, by omega, HN.out.2.1, Nat.le_refl _, by go_num, k0, by rw [k1, arr16_cong (shf f N i) f (fun k' hk' => shf_top _ _ _ _ (by rw [HN.out.1, Nat.add_sub_cancel' (Nat.le_of_lt HN.out.2.2)]; exact hk'))], hBw⟩
      case round =>
        obtain ⟨j, jj, hjj, hkj, hji, rfl, k0, k1, hBw⟩ := hrel
        have hl0 := blk?_lt k0
        have hl1 := blk?_lt k1
        have hN2 := HN.out.1
        by_cases hj : k < j
        · obtain ⟨m, rfl⟩ : ∃ m, j = m + 1 := ⟨j - 1, by omega⟩
          obtain rfl : jj = (m : Int) := by omega
          obtain ⟨M, hM⟩ : ∃ M : Nat, M = m + N := ⟨_, rfl⟩
          have hMl : M < 16 := by rw [hM]; exact pl1 hN2 hji HN.out.2.2
          have hml : m < 16 := Nat.lt_of_le_of_lt (by rw [hM]; exact Nat.le_add_right _ _) hMl
          have m0 := ge0 m
          have m1 := cl16 hml
          have m2 : (k : Int) ≤ (m : Int) := Int.ofNat_le.2 (Nat.le_of_lt_succ hj)
          have m3 : (m : Int) + (N : Int) = (M : Int) := by rw [hM]; rfl
          have m4 := pl3 (Nat.le_of_lt hMl)
          have m5 := ge0 M
          have m6 := cl16 hMl
          have hu1 : wr.cell? ⟨w.heap.size + 1, m, none⟩ = some (.int .u8 (f m)) := by rw [blk?_cell k1, arr16_byte _ m hml, shf_top _ _ _ _ (Nat.lt_of_lt_of_le (Nat.lt_succ_self m) (Nat.le_add_right _ _))]
          have hu2 : wr.cell? ⟨w.heap.size + 1, M, none⟩ = some (.int .u8 (shf f N (m + 1) M)) := by rw [blk?_cell k1]; exact arr16_byte _ M hMl
          have hu3 : wr.frozen? ⟨w.heap.size + 1, M, none⟩ = false := blk?_frozen k1 _
          have HM := Lib.hid (And.intro hM (And.intro hMl hji))
          have HJ := Lib.hid hj
          clear hM hN2 hMl hml hji hkj hj
          go_wp2
          go_roundw
          case rel =>
            obtain ⟨hM, hMl, hji⟩ := HM.out
            exact ⟨m, (m : Int) - 1, by omega, Nat.le_of_lt_succ HJ.out, Nat.le_of_succ_le hji, by go_num, by rw [blk?_setLt _ _ _ _ _ (Nat.lt_succ_self _)]; exact k0, by rw [blk?_setSame, k1, Option.map_some, arr16_set _ _ _ hMl, hM, shf_step], (by repeat' (first | (with_reducible exact Below.refl _ _) | (with_reducible assumption) | (with_reducible refine Below.alloc ?_ ?_ _) | (with_reducible refine Below.drew ?_) | (with_reducible refine below_drewN ?_ _) | (with_reducible refine Below.setCell ?_ ?_ _) | (with_reducible refine below_setRow' ?_ ?_ _) | go_size))⟩
          case measure => (simp [intOf]) <;> omega
        · obtain rfl : j = k := by omega
          have hng : ¬ ((j : Int) ≤ jj) := by omega
          obtain ⟨M, hM⟩ : ∃ M : Nat, M = j + N := ⟨_, rfl⟩
          obtain ⟨hN0, hM0⟩ := pl2 hN2 hji HN.out.2.2
          have hM16 : M ≤ 16 := by rw [hM]; exact hM0
          have m3 : (j : Int) + (N : Int) = (M : Int) := by rw [hM]; rfl
          have m4 := pl3 hM16
          have hsl := sl23 (w.heap.size + 1) j M (j : Int) (M : Int) rfl rfl (by rw [hM]; exact Nat.lt_add_of_pos_right hN0) hM16
          rw [show M - j = N by rw [hM, Nat.add_sub_cancel_left]] at hsl
          obtain ⟨wc, hwc⟩ : ∃ y : World, y = wr.setCells (w.heap.size + 1) j (List.replicate N (.int .u8 0)) := ⟨_, rfl⟩
          have hcl : ∀ ty, (Builtin.clear_ #[28] ty #[.slice (some ⟨w.heap.size + 1, j, none⟩) N (16 - j)]).run Tryd.prog wr = .ok (.tuple #[]) wc := fun ty => by rw [hwc]; exact clr28 _ _ _ _ _ _ _ k1 hN0 hM0
          have hgx : GX (w.heap.size + 1) wr wc := by rw [hwc]; exact gx_setCells _ _ _ _
          have n0 : blk? wc w.heap.size = some #[.int .u64 0, .int .u64 0, .pointer none] := by rw [blk?_gx hgx _ hl0 (Nat.ne_of_lt (Nat.lt_succ_self _))]; exact k0
          have n1 : blk? wc (w.heap.size + 1) = some (arr16 (exp6 f i j)) := by rw [hwc, blk_clr _ _ _ _ _ k1 hM0, hN2, clr_shf _ _ _ (Nat.le_of_lt HN.out.2.2)]
          have hBc : Below w.heap.size w wc := GX.below hBw hgx (Nat.le_of_lt hl0) (Nat.le_succ _)
          have b0 := blk?_lt n0
          have b1 := blk?_lt n1
          clear hwc hgx hM hN2 k0 k1 hBw hN0 hM0 hM16 hji hkj
          go_wp2_with (first
            | (go_at_call 71; (with_reducible refine (addrFrom16 (b4 := b4) (o4 := o4) (b6 := b6) (o6 := o6) _ (Bt_exp6 HBf.out i j) _ ?_).mono ?_); (exact HG.out.below (by repeat' (first | (with_reducible exact Below.refl _ _) | (with_reducible assumption) | (with_reducible refine Below.alloc ?_ ?_ _) | (with_reducible refine Below.drew ?_) | (with_reducible refine below_drewN ?_ _) | (with_reducible refine Below.setCell ?_ ?_ _) | (with_reducible refine below_setRow' ?_ ?_ _) | go_size)) (Nat.le_refl _)); rintro e w1 ⟨rfl, hb1⟩; have hk1 := blk?_below hb1; (try simp only [size_drew', size_drewN'] at hk1); have hB1 := below_via (w := w) (by repeat' (first | (with_reducible exact Below.refl _ _) | (with_reducible assumption) | (with_reducible refine Below.alloc ?_ ?_ _) | (with_reducible refine Below.drew ?_) | (with_reducible refine below_drewN ?_ _) | (with_reducible refine Below.setCell ?_ ?_ _) | (with_reducible refine below_setRow' ?_ ?_ _) | go_size)) hb1; have hL0 : w.heap.size < w1.heap.size := (by have hS0 := hb1.size; (try simp at hS0); omega); have hL1 : w.heap.size + 1 < w1.heap.size := (by have hS0 := hb1.size; (try simp at hS0); omega); have hLe : w.heap.size ≤ w1.heap.size := hB1.size; clear hb1)
            | (go_at_call 131; (with_reducible refine (withZone_6 (b4 := b4) (o4 := o4) (b6 := b6) (o6 := o6) _ _ _ ?_).mono ?_); (exact HG.out.below (by repeat' (first | (with_reducible exact Below.refl _ _) | (with_reducible assumption) | (with_reducible refine Below.alloc ?_ ?_ _) | (with_reducible refine Below.drew ?_) | (with_reducible refine below_drewN ?_ _) | (with_reducible refine Below.setCell ?_ ?_ _) | (with_reducible refine below_setRow' ?_ ?_ _) | go_size)) (Nat.le_refl _)); rintro e w2 ⟨rfl, hb1⟩; have hk1 := blk?_below hb1; (try simp only [size_drew', size_drewN'] at hk1); have hB1 := below_via (w := w) (by repeat' (first | (with_reducible exact Below.refl _ _) | (with_reducible assumption) | (with_reducible refine Below.alloc ?_ ?_ _) | (with_reducible refine Below.drew ?_) | (with_reducible refine below_drewN ?_ _) | (with_reducible refine Below.setCell ?_ ?_ _) | (with_reducible refine below_setRow' ?_ ?_ _) | go_size)) hb1; have hL0 : w.heap.size < w2.heap.size := (by have hS0 := hb1.size; (try simp at hS0); omega); have hLe : w.heap.size ≤ w2.heap.size := hB1.size; clear hb1))
          refine bodyPost_ret (res78t Tryd.results160 _ _ (w.heap.size) #[.int .u64 (be8f (exp6 f i j) 0), .int .u64 (be8f (exp6 f i j) 8), .pointer (some ⟨b6, o6, none⟩)] rfl ?_ rfl) rfl ?_
          · go_simp
          · refine ⟨?_, (by repeat' (first | (with_reducible exact Below.refl _ _) | (with_reducible assumption) | (with_reducible refine Below.alloc ?_ ?_ _) | (with_reducible refine Below.drew ?_) | (with_reducible refine below_drewN ?_ _) | (with_reducible refine Below.setCell ?_ ?_ _) | (with_reducible refine below_setRow' ?_ ?_ _) | go_size))⟩
            rw [HF.out]; exact Pst6_some rfl
  · have hi1 : ¬ ((i : Int) < 16) := by omega
    cases e with
    | none =>
      have hF : fin6 R = some f := by rw [hRe]; simp [fin6, hi]
      have HF := Lib.hid hF
      rw [show ev none = (-1 : Int) from rfl]
      clear hF hRe hek hBf hie hi16 hi
      go_wp2_with (first
        | (go_at_call 71; (with_reducible refine (addrFrom16 (b4 := b4) (o4 := o4) (b6 := b6) (o6 := o6) _ (HBf.out) _ ?_).mono ?_); (exact HG.out.below (by repeat' (first | (with_reducible exact Below.refl _ _) | (with_reducible assumption) | (with_reducible refine Below.alloc ?_ ?_ _) | (with_reducible refine Below.drew ?_) | (with_reducible refine below_drewN ?_ _) | (with_reducible refine Below.setCell ?_ ?_ _) | (with_reducible refine below_setRow' ?_ ?_ _) | go_size)) (Nat.le_refl _)); rintro e w1 ⟨rfl, hb1⟩; have hk1 := blk?_below hb1; (try simp only [size_drew', size_drewN'] at hk1); have hB1 := below_via (w := w) (by repeat' (first | (with_reducible exact Below.refl _ _) | (with_reducible assumption) | (with_reducible refine Below.alloc ?_ ?_ _) | (with_reducible refine Below.drew ?_) | (with_reducible refine below_drewN ?_ _) | (with_reducible refine Below.setCell ?_ ?_ _) | (with_reducible refine below_setRow' ?_ ?_ _) | go_size)) hb1; have hL0 : w.heap.size < w1.heap.size := (by have hS0 := hb1.size; (try simp at hS0); omega); have hL1 : w.heap.size + 1 < w1.heap.size := (by have hS0 := hb1.size; (try simp at hS0); omega); have hLe : w.heap.size ≤ w1.heap.size := hB1.size; clear hb1)
        | (go_at_call 131; (with_reducible refine (withZone_6 (b4 := b4) (o4 := o4) (b6 := b6) (o6 := o6) _ _ _ ?_).mono ?_); (exact HG.out.below (by repeat' (first | (with_reducible exact Below.refl _ _) | (with_reducible assumption) | (with_reducible refine Below.alloc ?_ ?_ _) | (with_reducible refine Below.drew ?_) | (with_reducible refine below_drewN ?_ _) | (with_reducible refine Below.setCell ?_ ?_ _) | (with_reducible refine below_setRow' ?_ ?_ _) | go_size)) (Nat.le_refl _)); rintro e w2 ⟨rfl, hb1⟩; have hk1 := blk?_below hb1; (try simp only [size_drew', size_drewN'] at hk1); have hB1 := below_via (w := w) (by repeat' (first | (with_reducible exact Below.refl _ _) | (with_reducible assumption) | (with_reducible refine Below.alloc ?_ ?_ _) | (with_reducible refine Below.drew ?_) | (with_reducible refine below_drewN ?_ _) | (with_reducible refine Below.setCell ?_ ?_ _) | (with_reducible refine below_setRow' ?_ ?_ _) | go_size)) hb1; have hL0 : w.heap.size < w2.heap.size := (by have hS0 := hb1.size; (try simp at hS0); omega); have hLe : w.heap.size ≤ w2.heap.size := hB1.size; clear hb1))
      refine bodyPost_ret (res78t Tryd.results160 _ _ (w.heap.size) #[.int .u64 (be8f (f) 0), .int .u64 (be8f (f) 8), .pointer (some ⟨b6, o6, none⟩)] rfl ?_ rfl) rfl ?_
      · go_simp
      · refine ⟨?_, (by repeat' (first | (with_reducible exact Below.refl _ _) | (with_reducible assumption) | (with_reducible refine Below.alloc ?_ ?_ _) | (with_reducible refine Below.drew ?_) | (with_reducible refine below_drewN ?_ _) | (with_reducible refine Below.setCell ?_ ?_ _) | (with_reducible refine below_setRow' ?_ ?_ _) | go_size))⟩
        rw [HF.out]; exact Pst6_some rfl
    | some k =>
      have hF : fin6 R = none := by rw [hRe]; simp [fin6, hi]
      have HF := Lib.hid hF
      rw [show ev (some k) = (k : Int) from rfl]
      have hk1 : (0 : Int) ≤ (k : Int) := by omega
      clear hF hRe hek hBf hie hi16 hi
      go_wp2
      refine bodyPost_ret (res78t Tryd.results160 _ _ (w.heap.size) #[.int .u64 0, .int .u64 0, .pointer none] rfl ?_ rfl) rfl ?_
      · go_simp
      · refine ⟨?_, (by repeat' (first | (with_reducible exact Below.refl _ _) | (with_reducible assumption) | (with_reducible refine Below.alloc ?_ ?_ _) | (with_reducible refine Below.drew ?_) | (with_reducible refine below_drewN ?_ _) | (with_reducible refine Below.setCell ?_ ?_ _) | (with_reducible refine below_setRow' ?_ ?_ _) | go_size))⟩
        rw [HF.out]; exact Pst6_none ⟨_, rfl⟩
end Go.Proofs.YtmlkcgacneealaaDoor
