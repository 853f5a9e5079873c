/- String and StringExpanded. Conditions: the listed variables as laid. -/
import Derived.Test.YtmlkcgacneealaaDoorTxt4
import Derived.Laws.IdiomStrings
import Derived.Lib.AppendStr
set_option linter.unusedVariables false
set_option linter.unusedSimpArgs false
namespace Go.Proofs.YtmlkcgacneealaaDoor
open Go.RowKit

/-- A text as Go's string. -/
def ba (s : List Int) : ByteArray := ⟨(s.map fun n => UInt8.ofNat n.toNat).toArray⟩
theorem ba_size (s : List Int) : (ba s).size = s.length := by simp [ba, ByteArray.size]
/-- All are bytes. -/
def By (s : List Int) : Prop := ∀ x ∈ s, 0 ≤ x ∧ x < 256
theorem By.append {s t : List Int} (h : By s) (k : By t) : By (s ++ t) := fun x hx => by
  rcases List.mem_append.1 hx with h' | h'
  · exact h x h'
  · exact k x h'
theorem conv_buf (g k cap : Nat) (s : List Int) (hs : s.length = k) (hB : By s) (w : World) (hb : blk? w g = some (bufc cap s)) :
    (convert 28 9 (.slice (some ⟨g, 0, none⟩) k cap)).run Tryd.prog w = .ok (.string (ba s)) w := by
  have h := run_convert_bytes_back (P := Tryd.prog) w 28 9 5 ⟨g, 0, none⟩ cap (s.map fun n => UInt8.ofNat n.toNat) Tryd.underlying28 Tryd.underlying5 Tryd.underlying9 (fun j hj => by
    rw [Addr.add_lit, Nat.zero_add, blk?_cell hb]
    have hj' : j < s.length := by simpa using hj
    rw [bufc_get cap s j hj']
    have hx := hB (s[j]) (List.getElem_mem hj')
    simp only [List.getElem_map, List.getD_eq_getElem?_getD, List.getElem?_eq_getElem hj', Option.getD_some]
    congr 2
    rw [UInt8.toNat_ofNat']
    omega)
  rw [List.length_map, hs] at h
  exact h
theorem mk15 (w : World) : (Instr.makeSlice 28 (.int .i64 0) (.int .i64 15)).run Tryd.prog w = .ok (.slice (some ⟨w.heap.size, 0, none⟩) 0 15) (w.alloc (.cells (bufc 15 []) 5)) := by kernel_rfl
theorem mk29 (w : World) : (Instr.makeSlice 28 (.int .i64 0) (.int .i64 29)).run Tryd.prog w = .ok (.slice (some ⟨w.heap.size, 0, none⟩) 0 29) (w.alloc (.cells (bufc 29 []) 5)) := by kernel_rfl
theorem mk46 (w : World) : (Instr.makeSlice 28 (.int .i64 0) (.int .i64 46)).run Tryd.prog w = .ok (.slice (some ⟨w.heap.size, 0, none⟩) 0 46) (w.alloc (.cells (bufc 46 []) 5)) := by kernel_rfl
theorem mk39 (w : World) : (Instr.makeSlice 28 (.int .i64 0) (.int .i64 39)).run Tryd.prog w = .ok (.slice (some ⟨w.heap.size, 0, none⟩) 0 39) (w.alloc (.cells (bufc 39 []) 5)) := by kernel_rfl
attribute [go_sem ↓] mk15 mk29 mk46 mk39
attribute [go_sem 3000] mk15 mk29 mk46 mk39
theorem By_dec (x : Int) (h : 0 ≤ x ∧ x < 256) : By (dec x) := fun y hy => by
  unfold dec at hy
  have d1 := dig_lt (x / 100)
  have d2 := dig_lt (x / 10 % 10) (by omega)
  have d3 := dig_lt (x % 10) (by omega)
  have d1 := d1 (by omega)
  split at hy <;> split at hy <;> simp at hy <;> (first | (rcases hy with rfl | rfl | rfl <;> assumption) | (rcases hy with rfl | rfl <;> assumption) | (subst hy; assumption))
theorem By_hexd (x : Int) (h : 0 ≤ x ∧ x < 65536) : By (hexd x) := fun y hy => by
  unfold hexd at hy
  have d1 := dig_lt (x / 4096) (by omega)
  have d2 := dig_lt (x / 256 % 16) (by omega)
  have d3 := dig_lt (x / 16 % 16) (by omega)
  have d4 := dig_lt (x % 16) (by omega)
  split at hy <;> split at hy <;> split at hy <;> simp at hy <;> (first | (rcases hy with rfl | rfl | rfl | rfl <;> assumption) | (rcases hy with rfl | rfl | rfl <;> assumption) | (rcases hy with rfl | rfl <;> assumption) | (subst hy; assumption))
theorem By_one (x : Int) (h : 0 ≤ x ∧ x < 256) : By [x] := fun y hy => by simp at hy; subst hy; exact h
theorem By_dot4 (a b c d : Int) (ha : 0 ≤ a ∧ a < 256) (hb : 0 ≤ b ∧ b < 256) (hc : 0 ≤ c ∧ c < 256) (hd : 0 ≤ d ∧ d < 256) : By (dot4 a b c d) := by
  have h46 := By_one 46 (by omega)
  unfold dot4
  exact ((((((By_dec a ha).append h46).append (By_dec b hb)).append h46).append (By_dec c hc)).append h46).append (By_dec d hd)
theorem By_nil : By [] := fun y hy => by simp at hy
theorem By_js (g : Nat → Int) (a : Nat) : ∀ n, (∀ i, i < n → 0 ≤ g (a + i) ∧ g (a + i) < 65536) → By (js g a n)
  | 0, _ => By_nil
  | n + 1, h => by
    simp only [js]
    refine ((By_js g a n (fun i hi => h i (by omega))).append ?_).append (By_hexd _ (h n (by omega)))
    split
    · exact By_one 58 (by omega)
    · exact By_nil
theorem By_out6 (g : Nat → Int) (hg : ∀ i, i < 8 → 0 ≤ g i ∧ g i < 65536) (zs ze : Nat) (hz : Zok g zs ze) : By (out6 g zs ze) := by
  unfold out6
  split
  · exact By_js g 0 8 (fun i hi => by rw [Nat.zero_add]; exact hg i hi)
  · rename_i h
    rcases hz with ⟨h1, _⟩ | ⟨h1, h2, _⟩
    · exact absurd h1 h
    · exact ((By_js g 0 zs (fun i hi => by rw [Nat.zero_add]; exact hg i (by omega))).append ((By_one 58 (by omega)).append (By_one 58 (by omega)))).append (By_js g ze (8 - ze) (fun i hi => hg _ (by omega)))
set_option maxHeartbeats 4000000 in
set_option maxRecDepth 100000 in
theorem str_0 (hi lo : Int) {b4 o4 : Nat} (w : World) (hg : G4 b4 o4 w) : Calls Tryd.prog 111 #[.agg #[.int .u64 hi, .int .u64 lo, .pointer none]] w fun e w' => e = .returned (.string (ba [105, 110, 118, 97, 108, 105, 100, 32, 73, 80])) ∧ Below w.heap.size w w' := by
  have HG := Lib.hid hg
  clear hg
  go_enter Tryd.func111, Tryd.ntmps111
  go_wp2_with (first
    | (go_at_call 93; (with_reducible refine (isValid_0 (b4 := b4) (o4 := o4) _ _ _ ?_).mono ?_); (exact HG.out.below (by repeat' (first | (with_reducible exact Below.refl _ _) | (with_reducible assumption) | (with_reducible refine Below.alloc ?_ ?_ _) | (with_reducible refine Below.drew ?_) | (with_reducible refine below_drewN ?_ _) | (with_reducible refine Below.setCell ?_ ?_ _) | (with_reducible refine below_setRow' ?_ ?_ _) | go_size)) (Nat.le_refl _)); rintro e w1 ⟨rfl, hb1⟩; have hk1 := blk?_below hb1; (try simp only [size_drew', size_drewN'] at hk1); have hB1 := below_via (w := w) (by repeat' (first | (with_reducible exact Below.refl _ _) | (with_reducible assumption) | (with_reducible refine Below.alloc ?_ ?_ _) | (with_reducible refine Below.drew ?_) | (with_reducible refine below_drewN ?_ _) | (with_reducible refine Below.setCell ?_ ?_ _) | (with_reducible refine below_setRow' ?_ ?_ _) | go_size)) hb1; have hL0 : w.heap.size < w1.heap.size := (by have hS0 := hb1.size; (try simp at hS0); omega); have hLe : w.heap.size ≤ w1.heap.size := hB1.size; clear hb1))
  go_ret
  exact ⟨rfl, (by repeat' (first | (with_reducible exact Below.refl _ _) | (with_reducible assumption) | (with_reducible refine Below.alloc ?_ ?_ _) | (with_reducible refine Below.drew ?_) | (with_reducible refine below_drewN ?_ _) | (with_reducible refine Below.setCell ?_ ?_ _) | (with_reducible refine below_setRow' ?_ ?_ _) | go_size))⟩
theorem appTo4' (g cap : Nat) (hi lo : Int) (p : Option Addr) (hlo : 0 ≤ lo ∧ lo < 18446744073709551616) (hc : 15 ≤ cap) (w : World) (hg : g < w.heap.size) (hb : blk? w g = some (bufc cap [])) :
    Calls Tryd.prog 149 #[.agg #[.int .u64 hi, .int .u64 lo, .pointer p], .slice (some ⟨g, 0, none⟩) 0 cap] w fun e w' => e = .returned (.slice (some ⟨g, 0, none⟩) (dot4 (lo / 16777216 % 256) (lo / 65536 % 256) (lo / 256 % 256) (lo % 256)).length cap) ∧ blk? w' g = some (bufc cap (dot4 (lo / 16777216 % 256) (lo / 65536 % 256) (lo / 256 % 256) (lo % 256))) ∧ GX g w w' := by
  have h := appTo4 g 0 cap [] List.length_nil hi lo p hlo (by omega) w hg hb
  rw [List.nil_append, Nat.zero_add] at h
  exact h
theorem By_D4 (lo : Int) (hlo : 0 ≤ lo ∧ lo < 18446744073709551616) : By (dot4 (lo / 16777216 % 256) (lo / 65536 % 256) (lo / 256 % 256) (lo % 256)) := By_dot4 _ _ _ _ (by omega) (by omega) (by omega) (by omega)
set_option maxHeartbeats 4000000 in
set_option maxRecDepth 100000 in
theorem str_4 (hi lo : Int) (hlo : 0 ≤ lo ∧ lo < 18446744073709551616) {b4 o4 : Nat} (w : World) (hg : G4 b4 o4 w) : Calls Tryd.prog 111 #[.agg #[.int .u64 hi, .int .u64 lo, .pointer (some ⟨b4, o4, none⟩)]] w fun e w' => e = .returned (.string (ba (dot4 (lo / 16777216 % 256) (lo / 65536 % 256) (lo / 256 % 256) (lo % 256)))) ∧ Below w.heap.size w w' := by
  have HG := Lib.hid hg
  obtain ⟨z4, z0, s0, s1, s2, l4, c40, c41⟩ := hg
  go_enter Tryd.func111, Tryd.ntmps111
  go_wp2_with (first
    | (go_at_call 93; (with_reducible refine (isValid_4 (b4 := b4) (o4 := o4) _ _ _ ?_).mono ?_); (exact HG.out.below (by repeat' (first | (with_reducible exact Below.refl _ _) | (with_reducible assumption) | (with_reducible refine Below.alloc ?_ ?_ _) | (with_reducible refine Below.drew ?_) | (with_reducible refine below_drewN ?_ _) | (with_reducible refine Below.setCell ?_ ?_ _) | (with_reducible refine below_setRow' ?_ ?_ _) | go_size)) (Nat.le_refl _)); rintro e w2 ⟨rfl, hb1⟩; have hk1 := blk?_below hb1; (try simp only [size_drew', size_drewN'] at hk1); have hB1 := below_via (w := w) (by repeat' (first | (with_reducible exact Below.refl _ _) | (with_reducible assumption) | (with_reducible refine Below.alloc ?_ ?_ _) | (with_reducible refine Below.drew ?_) | (with_reducible refine below_drewN ?_ _) | (with_reducible refine Below.setCell ?_ ?_ _) | (with_reducible refine below_setRow' ?_ ?_ _) | go_size)) hb1; have hL0 : w.heap.size < w2.heap.size := (by have hS0 := hb1.size; (try simp at hS0); omega); have hLe : w.heap.size ≤ w2.heap.size := hB1.size; obtain ⟨hc1, hf1⟩ := bcell hb1; (try simp only [size_drew', size_drewN'] at hc1); (try simp only [size_drew', size_drewN'] at hf1); clear hb1)
    | (go_at_call 149; (with_reducible refine (appTo4' _ 15 _ _ _ hlo (Nat.le_refl _) _ ?_ ?_).mono ?_); go_simp; go_simp; rintro e w3 ⟨rfl, hbuf, hgr⟩; have hB3 := GX.below (B := w.heap.size) (a := w) (w := w2.alloc (.cells (bufc 15 []) 5)) (by repeat' (first | (with_reducible exact Below.refl _ _) | (with_reducible assumption) | (with_reducible refine Below.alloc ?_ ?_ _) | (with_reducible refine Below.drew ?_) | (with_reducible refine below_drewN ?_ _) | (with_reducible refine Below.setCell ?_ ?_ _) | (with_reducible refine below_setRow' ?_ ?_ _) | go_size)) hgr (by simp; omega) (by omega); have hconv := conv_buf _ _ _ _ rfl (By_D4 lo hlo) _ hbuf; clear hgr hbuf))
  go_ret
  exact ⟨rfl, (by repeat' (first | (with_reducible exact Below.refl _ _) | (with_reducible assumption) | (with_reducible refine Below.alloc ?_ ?_ _) | (with_reducible refine Below.drew ?_) | (with_reducible refine below_drewN ?_ _) | (with_reducible refine Below.setCell ?_ ?_ _) | (with_reducible refine below_setRow' ?_ ?_ _) | go_size))⟩
set_option maxHeartbeats 4000000 in
set_option maxRecDepth 100000 in
theorem str_6 (hi lo : Int) (hhi : 0 ≤ hi ∧ hi < 18446744073709551616) (hlo : 0 ≤ lo ∧ lo < 18446744073709551616) (hm : ¬ (hi = 0 ∧ lo / 4294967296 = 65535)) {b4 o4 b6 o6 : Nat} (w : World) (hg : Gl b4 o4 b6 o6 w) : Calls Tryd.prog 111 #[.agg #[.int .u64 hi, .int .u64 lo, .pointer (some ⟨b6, o6, none⟩)]] w fun e w' => (∃ zs ze : Nat, Zok (grp hi lo) zs ze ∧ e = .returned (.string (ba (out6 (grp hi lo) zs ze)))) ∧ Below w.heap.size w w' := by
  have HG := Lib.hid hg
  have HM := Lib.hid hm
  clear hm
  obtain ⟨⟨z4, z0, s0, s1, s2, l4, c40, c41⟩, z6, zh, zh', l6, c60, c61⟩ := hg
  go_enter Tryd.func111, Tryd.ntmps111
  go_wp2_with (first
    | (go_at_call 93; (with_reducible refine (isValid_6 (b4 := b4) (o4 := o4) (b6 := b6) (o6 := o6) _ _ _ ?_).mono ?_); (exact HG.out.below (by repeat' (first | (with_reducible exact Below.refl _ _) | (with_reducible assumption) | (with_reducible refine Below.alloc ?_ ?_ _) | (with_reducible refine Below.drew ?_) | (with_reducible refine below_drewN ?_ _) | (with_reducible refine Below.setCell ?_ ?_ _) | (with_reducible refine below_setRow' ?_ ?_ _) | go_size)) (Nat.le_refl _)); rintro e w1 ⟨rfl, hb1⟩; have hk1 := blk?_below hb1; (try simp only [size_drew', size_drewN'] at hk1); have hB1 := below_via (w := w) (by repeat' (first | (with_reducible exact Below.refl _ _) | (with_reducible assumption) | (with_reducible refine Below.alloc ?_ ?_ _) | (with_reducible refine Below.drew ?_) | (with_reducible refine below_drewN ?_ _) | (with_reducible refine Below.setCell ?_ ?_ _) | (with_reducible refine below_setRow' ?_ ?_ _) | go_size)) hb1; have hL0 : w.heap.size < w1.heap.size := (by have hS0 := hb1.size; (try simp at hS0); omega); have hLe : w.heap.size ≤ w1.heap.size := hB1.size; obtain ⟨hc1, hf1⟩ := bcell hb1; (try simp only [size_drew', size_drewN'] at hc1); (try simp only [size_drew', size_drewN'] at hf1); have hzA := Gl.zh (HG.out.below hB1 (Nat.le_refl _)); have hzB := Gl.zh' (HG.out.below hB1 (Nat.le_refl _)); clear hb1)
    | (go_at_call 90; (with_reducible refine (is4In6_6f (b4 := b4) (o4 := o4) (b6 := b6) (o6 := o6) _ _ HM.out hlo _ ?_).mono ?_); (exact HG.out.below (by repeat' (first | (with_reducible exact Below.refl _ _) | (with_reducible assumption) | (with_reducible refine Below.alloc ?_ ?_ _) | (with_reducible refine Below.drew ?_) | (with_reducible refine below_drewN ?_ _) | (with_reducible refine Below.setCell ?_ ?_ _) | (with_reducible refine below_setRow' ?_ ?_ _) | go_size)) (Nat.le_refl _)); rintro e w2 ⟨rfl, hb1⟩; have hk1 := blk?_below hb1; (try simp only [size_drew', size_drewN'] at hk1); have hB1 := below_via (w := w) (by repeat' (first | (with_reducible exact Below.refl _ _) | (with_reducible assumption) | (with_reducible refine Below.alloc ?_ ?_ _) | (with_reducible refine Below.drew ?_) | (with_reducible refine below_drewN ?_ _) | (with_reducible refine Below.setCell ?_ ?_ _) | (with_reducible refine below_setRow' ?_ ?_ _) | go_size)) hb1; have hL0 : w.heap.size < w2.heap.size := (by have hS0 := hb1.size; (try simp at hS0); omega); have hLe : w.heap.size ≤ w2.heap.size := hB1.size; obtain ⟨hc1, hf1⟩ := bcell hb1; (try simp only [size_drew', size_drewN'] at hc1); (try simp only [size_drew', size_drewN'] at hf1); have hzA := Gl.zh (HG.out.below hB1 (Nat.le_refl _)); have hzB := Gl.zh' (HG.out.below hB1 (Nat.le_refl _)); clear hb1)
    | (go_at_call 151; (with_reducible refine (appTo6 _ _ _ hhi hlo (b4 := b4) (o4 := o4) (b6 := b6) (o6 := o6) w _ HG.out ?_ ?_ ?_ ?_).mono ?_); (exact (by repeat' (first | (with_reducible exact Below.refl _ _) | (with_reducible assumption) | (with_reducible refine Below.alloc ?_ ?_ _) | (with_reducible refine Below.drew ?_) | (with_reducible refine below_drewN ?_ _) | (with_reducible refine Below.setCell ?_ ?_ _) | (with_reducible refine below_setRow' ?_ ?_ _) | go_size))); (omega); go_simp; go_simp; rintro e w3 ⟨zs, ze, hz, rfl, hbuf, hgr⟩; have hB3 := GX.below (B := w.heap.size) (a := w) (w := w2.alloc (.cells (bufc 46 []) 5)) (by repeat' (first | (with_reducible exact Below.refl _ _) | (with_reducible assumption) | (with_reducible refine Below.alloc ?_ ?_ _) | (with_reducible refine Below.drew ?_) | (with_reducible refine below_drewN ?_ _) | (with_reducible refine Below.setCell ?_ ?_ _) | (with_reducible refine below_setRow' ?_ ?_ _) | go_size)) hgr (by simp; omega) (by omega); have hconv := conv_buf _ _ _ _ rfl (By_out6 _ (fun i hi => grp_lt _ _ hhi hlo i hi) _ _ hz) _ hbuf; clear hgr hbuf))
  go_ret
  exact ⟨⟨zs, ze, hz, rfl⟩, (by repeat' (first | (with_reducible exact Below.refl _ _) | (with_reducible assumption) | (with_reducible refine Below.alloc ?_ ?_ _) | (with_reducible refine Below.drew ?_) | (with_reducible refine below_drewN ?_ _) | (with_reducible refine Below.setCell ?_ ?_ _) | (with_reducible refine below_setRow' ?_ ?_ _) | go_size))⟩
end Go.Proofs.YtmlkcgacneealaaDoor
