/- String of IPv4-mapped addresses; StringExpanded. Conditions: the listed variables as laid. -/
import Derived.Test.YtmlkcgacneealaaDoorTxt5
set_option linter.unusedVariables false
set_option linter.unusedSimpArgs false
namespace Go.Proofs.YtmlkcgacneealaaDoor
open Go.RowKit

theorem wpList_append_str {ops : Array Oper} {rest : List Oper} {o : Oper} {a : Act} {Q : Exit → Act → World → Prop} (w : World)
    (hg : o.guard = none) (s x : Operand) (hop : o.op = Op.call { callee := Callee.builtin Builtin.append, args := #[s, x], argTypes := #[28, 9] })
    (g k cap : Nat) (t : List Int) (hs : a.eval s = .slice (some ⟨g, 0, none⟩) k cap) (z : ByteArray) (news : List Int) (hx : a.eval x = .string z) (hz : Lib.strCells z = news.map (Value.int .u8)) (hn : z.size = news.length)
    (hk : t.length = k) (hroom : k + news.length ≤ cap) (hblk : blk? w g = some (bufc cap t))
    (hK : ∀ w', blk? w' g = some (bufc cap (t ++ news)) → GX g w w' → wpList Tryd.prog ops Q rest (a.put o.dst (.slice (some ⟨g, 0, none⟩) (k + news.length) cap)) w') :
    wpList Tryd.prog ops Q (o :: rest) a w := by
  obtain ⟨i0, hi, hz0, hz1, hz2⟩ := info_parts inf5
  refine wpList_plain hg fun K hK' => ?_
  have hf := Lib.run_firstCells_string (P := Tryd.prog) w 1 z
  have hst := run_storeCells_cells (P := Tryd.prog) g k (news.map (Value.int .u8)) 0 w
    (fun j hj => by rw [Nat.add_zero, blk?_cell hblk, bufc_room _ _ _ (by omega) (by simp at hj; omega)]; rfl)
    (fun j hj => blk?_frozen hblk _) (fun u hu => by obtain ⟨v, _, rfl⟩ := List.mem_map.1 hu; rfl)
  simp only [Nat.add_zero] at hst
  rw [hz] at hf
  have hroom' : k + z.size ≤ cap := by omega
  have hrun : (Builtin.append_ #[28, 9] o.type #[.slice (some ⟨g, 0, none⟩) k cap, .string z]).run Tryd.prog w = .ok (.slice (some ⟨g, 0, none⟩) (k + z.size) cap) (w.setCells g k (news.map (Value.int .u8))) := by
    simp [Builtin.append_, run_underlying Tryd.underlying28, run_underlying Tryd.underlying9, sizeOf, typeInfo, hi, hz1, Builtin.lenOf, hroom', hf, Addr.add_lit, hst]
  unfold Oper.wp
  simp [execOp, hop, resolve, invoke, builtin, hs, hx, hrun, Result.andThen]
  rw [hn]
  refine hK' _ _ (hK _ ?_ (gx_setCells _ _ _ _))
  rw [← hk]
  exact blk_setCells g cap news t w hblk (by omega)
/-- The text of an IPv4-mapped address. -/
def t46 (lo : Int) : List Int := [58, 58, 102, 102, 102, 102, 58] ++ dot4 (lo / 16777216 % 256) (lo / 65536 % 256) (lo / 256 % 256) (lo % 256)
set_option maxHeartbeats 4000000 in
set_option maxRecDepth 100000 in
theorem appTo46 (g : Nat) (hi lo : Int) (h0 : hi = 0) (h1 : lo / 4294967296 = 65535) (hlo : 0 ≤ lo ∧ lo < 18446744073709551616) {b4 o4 b6 o6 : Nat} (w0 w : World) (hg : Gl b4 o4 b6 o6 w0) (hBel : Below w0.heap.size w0 w) (hgb : w0.heap.size ≤ g) (hgs : g < w.heap.size) (hb : blk? w g = some (bufc 29 [])) :
    Calls Tryd.prog 150 #[.agg #[.int .u64 hi, .int .u64 lo, .pointer (some ⟨b6, o6, none⟩)], .slice (some ⟨g, 0, none⟩) 0 29] w fun e w' => e = .returned (.slice (some ⟨g, 0, none⟩) (t46 lo).length 29) ∧ blk? w' g = some (bufc 29 (t46 lo)) ∧ GX g w w' := by
  have HG := Lib.hid hg
  have HBel := Lib.hid hBel
  have HM := Lib.hid (And.intro h0 h1)
  have hWs := hBel.size
  clear hg hBel h0 h1
  have hne : w.heap.size ≠ g := by omega
  have hne' : g ≠ w.heap.size := by omega
  go_enter Tryd.func150, Tryd.ntmps150
  go_upto_region 3 with (first
    | (at_builtin; refine wpList_append_str _ rfl (.tmp 5) (.const (.string ⟨#[58, 58, 102, 102, 102, 102, 58]⟩)) rfl g 0 29 [] rfl ⟨#[58, 58, 102, 102, 102, 102, 58]⟩ [58, 58, 102, 102, 102, 102, 58] rfl rfl rfl rfl (by decide) ?_ ?_; go_simp; intro w1 hbuf hgr; have hk1 := blk?_gx hgr; have hX := GX.trans (g := g) (a := w) (by repeat' (first | (with_reducible exact GX.refl _ _) | (with_reducible assumption) | (with_reducible refine GX.alloc ?_ _) | (with_reducible refine GX.drew ?_) | (with_reducible refine GX.drewN ?_ _))) hgr; have hgl : g < w1.heap.size := (by have hS1 := hgr.size; (try simp at hS1); omega); have hL0 : w.heap.size < w1.heap.size := (by have hS1 := hgr.size; (try simp at hS1); omega); clear hgr)
    | (go_at_call 91; (with_reducible refine (unmap_6t (b4 := b4) (o4 := o4) (b6 := b6) (o6 := o6) _ _ HM.out.1 HM.out.2 hlo _ ?_).mono ?_); (exact HG.out.below (GX.below HBel.out (by repeat' (first | (with_reducible exact GX.refl _ _) | (with_reducible assumption) | (with_reducible refine GX.alloc ?_ _) | (with_reducible refine GX.drew ?_) | (with_reducible refine GX.drewN ?_ _))) hWs hgb) (Nat.le_refl _)); rintro e w2 ⟨rfl, hb1⟩; have hk1 := blk?_below hb1; (try simp only [size_drew', size_drewN'] at hk1); have hX := GX.call (g := g) (a := w) (by repeat' (first | (with_reducible exact GX.refl _ _) | (with_reducible assumption) | (with_reducible refine GX.alloc ?_ _) | (with_reducible refine GX.drew ?_) | (with_reducible refine GX.drewN ?_ _))) hb1; have hgl : g < w2.heap.size := (by have hS1 := hb1.size; (try simp at hS1); omega); have hL0 : w.heap.size < w2.heap.size := (by have hS1 := hb1.size; (try simp at hS1); omega); clear hb1)
    | (go_at_call 149; (with_reducible refine (appTo4 g (0 + 7) 29 ([] ++ [58, 58, 102, 102, 102, 102, 58]) rfl _ _ _ hlo (by decide) _ ?_ ?_).mono ?_); go_simp; go_simp; rintro e w3 ⟨rfl, hbuf, hgr⟩; have hk1 := blk?_gx hgr; have hX := GX.trans (g := g) (a := w) (by repeat' (first | (with_reducible exact GX.refl _ _) | (with_reducible assumption) | (with_reducible refine GX.alloc ?_ _) | (with_reducible refine GX.drew ?_) | (with_reducible refine GX.drewN ?_ _))) hgr; have hgl : g < w3.heap.size := (by have hS1 := hgr.size; (try simp at hS1); omega); have hL0 : w.heap.size < w3.heap.size := (by have hS1 := hgr.size; (try simp at hS1); omega); clear hgr))
  have hGl := HG.out.below (GX.below HBel.out hX hWs hgb) (Nat.le_refl _)
  obtain ⟨⟨z4, z0, s0, s1, s2, l4, c40, c41⟩, z6, zh, zh', l6, c60, c61⟩ := hGl
  have kk : blk? w3 w.heap.size = some #[.int .u64 hi, .int .u64 lo, .pointer (some ⟨b6, o6, none⟩)] := by go_simp
  have hc2 : w3.cell? ⟨w.heap.size, 2, none⟩ = some (.pointer (some ⟨b6, o6, none⟩)) := by rw [blk?_cell kk]; rfl
  go_wp2
  go_ret
  refine ⟨?_, ?_, (by repeat' (first | (with_reducible exact GX.refl _ _) | (with_reducible assumption) | (with_reducible refine GX.alloc ?_ _) | (with_reducible refine GX.drew ?_) | (with_reducible refine GX.drewN ?_ _)))⟩
  · simp [t46, Nat.add_assoc, Nat.add_comm, Nat.add_left_comm]; omega
  · simpa [t46] using hbuf
theorem By_46 (lo : Int) (hlo : 0 ≤ lo ∧ lo < 18446744073709551616) : By (t46 lo) := By.append (fun y hy => by simp at hy; omega) (By_D4 lo hlo)
set_option maxHeartbeats 4000000 in
set_option maxRecDepth 100000 in
theorem str_6t (hi lo : Int) (h0 : hi = 0) (h1 : lo / 4294967296 = 65535) (hlo : 0 ≤ lo ∧ lo < 18446744073709551616) {b4 o4 b6 o6 : Nat} (w : World) (hg : Gl b4 o4 b6 o6 w) : Calls Tryd.prog 111 #[.agg #[.int .u64 hi, .int .u64 lo, .pointer (some ⟨b6, o6, none⟩)]] w fun e w' => e = .returned (.string (ba (t46 lo))) ∧ Below w.heap.size w w' := by
  have HG := Lib.hid hg
  have HM := Lib.hid (And.intro h0 h1)
  clear h0 h1
  obtain ⟨⟨z4, z0, s0, s1, s2, l4, c40, c41⟩, z6, zh, zh', l6, c60, c61⟩ := hg
  go_enter Tryd.func111, Tryd.ntmps111
  go_wp2_with (first
    | (go_at_call 93; (with_reducible refine (isValid_6 (b4 := b4) (o4 := o4) (b6 := b6) (o6 := o6) _ _ _ ?_).mono ?_); (exact HG.out.below (by repeat' (first | (with_reducible exact Below.refl _ _) | (with_reducible assumption) | (with_reducible refine Below.alloc ?_ ?_ _) | (with_reducible refine Below.drew ?_) | (with_reducible refine below_drewN ?_ _) | (with_reducible refine Below.setCell ?_ ?_ _) | (with_reducible refine below_setRow' ?_ ?_ _) | go_size)) (Nat.le_refl _)); rintro e w1 ⟨rfl, hb1⟩; have hk1 := blk?_below hb1; (try simp only [size_drew', size_drewN'] at hk1); have hB1 := below_via (w := w) (by repeat' (first | (with_reducible exact Below.refl _ _) | (with_reducible assumption) | (with_reducible refine Below.alloc ?_ ?_ _) | (with_reducible refine Below.drew ?_) | (with_reducible refine below_drewN ?_ _) | (with_reducible refine Below.setCell ?_ ?_ _) | (with_reducible refine below_setRow' ?_ ?_ _) | go_size)) hb1; have hL0 : w.heap.size < w1.heap.size := (by have hS0 := hb1.size; (try simp at hS0); omega); have hLe : w.heap.size ≤ w1.heap.size := hB1.size; obtain ⟨hc1, hf1⟩ := bcell hb1; (try simp only [size_drew', size_drewN'] at hc1); (try simp only [size_drew', size_drewN'] at hf1); have hzA := Gl.zh (HG.out.below hB1 (Nat.le_refl _)); have hzB := Gl.zh' (HG.out.below hB1 (Nat.le_refl _)); clear hb1)
    | (go_at_call 90; (with_reducible refine (is4In6_6t (b4 := b4) (o4 := o4) (b6 := b6) (o6 := o6) _ _ HM.out.1 HM.out.2 hlo _ ?_).mono ?_); (exact HG.out.below (by repeat' (first | (with_reducible exact Below.refl _ _) | (with_reducible assumption) | (with_reducible refine Below.alloc ?_ ?_ _) | (with_reducible refine Below.drew ?_) | (with_reducible refine below_drewN ?_ _) | (with_reducible refine Below.setCell ?_ ?_ _) | (with_reducible refine below_setRow' ?_ ?_ _) | go_size)) (Nat.le_refl _)); rintro e w2 ⟨rfl, hb1⟩; have hk1 := blk?_below hb1; (try simp only [size_drew', size_drewN'] at hk1); have hB1 := below_via (w := w) (by repeat' (first | (with_reducible exact Below.refl _ _) | (with_reducible assumption) | (with_reducible refine Below.alloc ?_ ?_ _) | (with_reducible refine Below.drew ?_) | (with_reducible refine below_drewN ?_ _) | (with_reducible refine Below.setCell ?_ ?_ _) | (with_reducible refine below_setRow' ?_ ?_ _) | go_size)) hb1; have hL0 : w.heap.size < w2.heap.size := (by have hS0 := hb1.size; (try simp at hS0); omega); have hLe : w.heap.size ≤ w2.heap.size := hB1.size; obtain ⟨hc1, hf1⟩ := bcell hb1; (try simp only [size_drew', size_drewN'] at hc1); (try simp only [size_drew', size_drewN'] at hf1); have hzA := Gl.zh (HG.out.below hB1 (Nat.le_refl _)); have hzB := Gl.zh' (HG.out.below hB1 (Nat.le_refl _)); clear hb1)
    | (go_at_call 150; (with_reducible refine (appTo46 _ _ _ HM.out.1 HM.out.2 hlo (b4 := b4) (o4 := o4) (b6 := b6) (o6 := o6) w _ HG.out ?_ ?_ ?_ ?_).mono ?_); (exact (by repeat' (first | (with_reducible exact Below.refl _ _) | (with_reducible assumption) | (with_reducible refine Below.alloc ?_ ?_ _) | (with_reducible refine Below.drew ?_) | (with_reducible refine below_drewN ?_ _) | (with_reducible refine Below.setCell ?_ ?_ _) | (with_reducible refine below_setRow' ?_ ?_ _) | go_size))); (omega); go_simp; go_simp; rintro e w3 ⟨rfl, hbuf, hgr⟩; have hB3 := GX.below (B := w.heap.size) (a := w) (w := w2.alloc (.cells (bufc 29 []) 5)) (by repeat' (first | (with_reducible exact Below.refl _ _) | (with_reducible assumption) | (with_reducible refine Below.alloc ?_ ?_ _) | (with_reducible refine Below.drew ?_) | (with_reducible refine below_drewN ?_ _) | (with_reducible refine Below.setCell ?_ ?_ _) | (with_reducible refine below_setRow' ?_ ?_ _) | go_size)) hgr (by simp; omega) (by omega); have hconv := conv_buf _ _ _ _ rfl (By_46 lo hlo) _ hbuf; clear hgr hbuf))
  go_ret
  exact ⟨rfl, (by repeat' (first | (with_reducible exact Below.refl _ _) | (with_reducible assumption) | (with_reducible refine Below.alloc ?_ ?_ _) | (with_reducible refine Below.drew ?_) | (with_reducible refine below_drewN ?_ _) | (with_reducible refine Below.setCell ?_ ?_ _) | (with_reducible refine below_setRow' ?_ ?_ _) | go_size))⟩
set_option maxHeartbeats 4000000 in
set_option maxRecDepth 100000 in
theorem exp_0 (hi lo : Int) {b4 o4 : Nat} (w : World) (hg : G4 b4 o4 w) : Calls Tryd.prog 112 #[.agg #[.int .u64 hi, .int .u64 lo, .pointer none]] w fun e w' => e = .returned (.string (ba [105, 110, 118, 97, 108, 105, 100, 32, 73, 80])) ∧ Below w.heap.size w w' := by
  have HG := Lib.hid hg
  obtain ⟨z4, z0, s0, s1, s2, l4, c40, c41⟩ := hg
  go_enter Tryd.func112, Tryd.ntmps112
  go_wp2_with (first
    | (go_at_call 111; (with_reducible refine (str_0 (b4 := b4) (o4 := o4) _ _ _ ?_).mono ?_); (exact HG.out.below (by repeat' (first | (with_reducible exact Below.refl _ _) | (with_reducible assumption) | (with_reducible refine Below.alloc ?_ ?_ _) | (with_reducible refine Below.drew ?_) | (with_reducible refine below_drewN ?_ _) | (with_reducible refine Below.setCell ?_ ?_ _) | (with_reducible refine below_setRow' ?_ ?_ _) | go_size)) (Nat.le_refl _)); rintro e w1 ⟨rfl, hb1⟩; have hk1 := blk?_below hb1; (try simp only [size_drew', size_drewN'] at hk1); have hB1 := below_via (w := w) (by repeat' (first | (with_reducible exact Below.refl _ _) | (with_reducible assumption) | (with_reducible refine Below.alloc ?_ ?_ _) | (with_reducible refine Below.drew ?_) | (with_reducible refine below_drewN ?_ _) | (with_reducible refine Below.setCell ?_ ?_ _) | (with_reducible refine below_setRow' ?_ ?_ _) | go_size)) hb1; have hL0 : w.heap.size < w1.heap.size := (by have hS0 := hb1.size; (try simp at hS0); omega); have hLe : w.heap.size ≤ w1.heap.size := hB1.size; clear hb1))
  go_ret
  exact ⟨rfl, (by repeat' (first | (with_reducible exact Below.refl _ _) | (with_reducible assumption) | (with_reducible refine Below.alloc ?_ ?_ _) | (with_reducible refine Below.drew ?_) | (with_reducible refine below_drewN ?_ _) | (with_reducible refine Below.setCell ?_ ?_ _) | (with_reducible refine below_setRow' ?_ ?_ _) | go_size))⟩
set_option maxHeartbeats 4000000 in
set_option maxRecDepth 100000 in
theorem exp_4 (hi lo : Int) (hlo : 0 ≤ lo ∧ lo < 18446744073709551616) {b4 o4 : Nat} (w : World) (hg : G4 b4 o4 w) : Calls Tryd.prog 112 #[.agg #[.int .u64 hi, .int .u64 lo, .pointer (some ⟨b4, o4, none⟩)]] w fun e w' => e = .returned (.string (ba (dot4 (lo / 16777216 % 256) (lo / 65536 % 256) (lo / 256 % 256) (lo % 256)))) ∧ Below w.heap.size w w' := by
  have HG := Lib.hid hg
  obtain ⟨z4, z0, s0, s1, s2, l4, c40, c41⟩ := hg
  go_enter Tryd.func112, Tryd.ntmps112
  go_wp2_with (first
    | (go_at_call 111; (with_reducible refine (str_4 (b4 := b4) (o4 := o4) _ _ hlo _ ?_).mono ?_); (exact HG.out.below (by repeat' (first | (with_reducible exact Below.refl _ _) | (with_reducible assumption) | (with_reducible refine Below.alloc ?_ ?_ _) | (with_reducible refine Below.drew ?_) | (with_reducible refine below_drewN ?_ _) | (with_reducible refine Below.setCell ?_ ?_ _) | (with_reducible refine below_setRow' ?_ ?_ _) | go_size)) (Nat.le_refl _)); rintro e w1 ⟨rfl, hb1⟩; have hk1 := blk?_below hb1; (try simp only [size_drew', size_drewN'] at hk1); have hB1 := below_via (w := w) (by repeat' (first | (with_reducible exact Below.refl _ _) | (with_reducible assumption) | (with_reducible refine Below.alloc ?_ ?_ _) | (with_reducible refine Below.drew ?_) | (with_reducible refine below_drewN ?_ _) | (with_reducible refine Below.setCell ?_ ?_ _) | (with_reducible refine below_setRow' ?_ ?_ _) | go_size)) hb1; have hL0 : w.heap.size < w1.heap.size := (by have hS0 := hb1.size; (try simp at hS0); omega); have hLe : w.heap.size ≤ w1.heap.size := hB1.size; clear hb1))
  go_ret
  exact ⟨rfl, (by repeat' (first | (with_reducible exact Below.refl _ _) | (with_reducible assumption) | (with_reducible refine Below.alloc ?_ ?_ _) | (with_reducible refine Below.drew ?_) | (with_reducible refine below_drewN ?_ _) | (with_reducible refine Below.setCell ?_ ?_ _) | (with_reducible refine below_setRow' ?_ ?_ _) | go_size))⟩

/-- n groups of four digits with colons between them. -/
def jp (g : Nat → Int) : Nat → List Int
  | 0 => []
  | n + 1 => jp g n ++ (if 0 < n then [58] else []) ++ padh (g n)
theorem jp_len (g : Nat → Int) : ∀ n, (jp g n).length = 5 * n - 1
  | 0 => rfl
  | n + 1 => by
    have h := jp_len g n
    simp only [jp, List.length_append, h, padh, List.length_cons, List.length_nil]
    by_cases c : 0 < n
    · rw [if_pos c]; simp only [List.length_cons, List.length_nil]; omega
    · rw [if_neg c]; simp only [List.length_nil]; omega
theorem jp_more (g : Nat → Int) (n : Nat) (h : 0 < n) : jp g (n + 1) = jp g n ++ [58] ++ padh (g n) := by simp [jp, h]
theorem jp_first (g : Nat → Int) (n : Nat) (h : n = 0) : jp g (n + 1) = jp g n ++ padh (g n) := by subst h; simp [jp]
theorem By_padh (x : Int) (h : 0 ≤ x ∧ x < 65536) : By (padh x) := fun y hy => by
  unfold padh at hy
  have d1 := dig_lt (x / 4096) (by omega)
  have d2 := dig_lt (x / 256 % 16) (by omega)
  have d3 := dig_lt (x / 16 % 16) (by omega)
  have d4 := dig_lt (x % 16) (by omega)
  simp at hy
  rcases hy with rfl | rfl | rfl | rfl <;> assumption
theorem By_jp (g : Nat → Int) : ∀ n, (∀ i, i < n → 0 ≤ g i ∧ g i < 65536) → By (jp g n)
  | 0, _ => By_nil
  | n + 1, h => by
    simp only [jp]
    refine ((By_jp g n (fun i hi => h i (by omega))).append ?_).append (By_padh _ (h n (by omega)))
    split
    · exact By_one 58 (by omega)
    · exact By_nil
set_option maxHeartbeats 4000000 in
set_option maxRecDepth 100000 in
theorem exp_6 (hi lo : Int) (hhi : 0 ≤ hi ∧ hi < 18446744073709551616) (hlo : 0 ≤ lo ∧ lo < 18446744073709551616) {b4 o4 b6 o6 : Nat} (w : World) (hg : Gl b4 o4 b6 o6 w) : Calls Tryd.prog 112 #[.agg #[.int .u64 hi, .int .u64 lo, .pointer (some ⟨b6, o6, none⟩)]] w fun e w' => e = .returned (.string (ba (jp (grp hi lo) 8))) ∧ Below w.heap.size w w' := by
  have HG := Lib.hid hg
  obtain ⟨⟨z4, z0, s0, s1, s2, l4, c40, c41⟩, z6, zh, zh', l6, c60, c61⟩ := hg
  go_enter Tryd.func112, Tryd.ntmps112
  go_wp2
  obtain ⟨wA, hwA⟩ : ∃ x : World, x = (w.alloc (.cells #[.int .u64 hi, .int .u64 lo, .pointer (some ⟨b6, o6, none⟩)] 78)).alloc (.cells (bufc 39 []) 5) := ⟨_, rfl⟩
  have kA0 : blk? wA w.heap.size = some #[.int .u64 hi, .int .u64 lo, .pointer (some ⟨b6, o6, none⟩)] := by rw [hwA]; go_simp
  have kAg : blk? wA (w.heap.size + 1) = some (bufc 39 []) := by rw [hwA]; go_simp
  have hBA : Below w.heap.size w wA := by rw [hwA]; exact (by repeat' (first | (with_reducible exact Below.refl _ _) | (with_reducible assumption) | (with_reducible refine Below.alloc ?_ ?_ _) | (with_reducible refine Below.drew ?_) | (with_reducible refine below_drewN ?_ _) | (with_reducible refine Below.setCell ?_ ?_ _) | (with_reducible refine below_setRow' ?_ ?_ _) | go_size))
  simp only [← hwA]
  clear hwA
  obtain ⟨g, hgd⟩ : ∃ g : Nat, g = w.heap.size + 1 := ⟨_, rfl⟩
  have hne : w.heap.size ≠ g := by omega
  have hne' : g ≠ w.heap.size := by omega
  have hgb : w.heap.size ≤ g := by omega
  have hWs := hBA.size
  simp only [← hgd] at *
  clear hgd
  go_loopw [3, 4] (fun v3 v4 wr => ∃ i : Nat, i ≤ 8 ∧ v3 = .slice (some ⟨g, 0, none⟩) (jp (grp hi lo) i).length 39 ∧ v4 = .int .u8 i ∧ blk? wr w.heap.size = some #[.int .u64 hi, .int .u64 lo, .pointer (some ⟨b6, o6, none⟩)] ∧ blk? wr g = some (bufc 39 (jp (grp hi lo) i)) ∧ GX g wA wr ∧ w.heap.size < wr.heap.size) (fun _ i _ => 8 - (intOf i).toNat)
  case atStart => exact ⟨0, by omega, rfl, rfl, kA0, kAg, GX.refl _ _, blk?_lt kA0⟩
  case round =>
    obtain ⟨i, hi8, rfl, rfl, k0, kg, hX, hL⟩ := hrel
    have hgl : g < wr.heap.size := blk?_lt kg
    have hlen := jp_len (grp hi lo) i
    have hi0 : (0 : Int) ≤ (i : Int) := by omega
    have HLen := Lib.hid hlen
    have hlen2 : (jp (grp hi lo) i).length ≤ 34 ∨ i = 8 := by omega
    clear hlen
    by_cases hlt : i < 8
    · have hi1 : (i : Int) < 8 := by omega
      have hi2 : (i : Int) + 1 < 256 := by omega
      have hlen3 : (jp (grp hi lo) i).length + 5 ≤ 39 := by omega
      clear hlen2
      by_cases hip : i = 0
      · have hi3 : ¬ ((0 : Int) < (i : Int)) := by omega
        have HIP := Lib.hid hip
        clear hip
        go_wp2_with (first
          | (go_at_call 153; (with_reducible refine (v6u16 _ _ _ hhi hlo (i) (by omega) _).mono ?_); rintro e w1 ⟨rfl, hb1⟩; have hk1 := blk?_below hb1; (try simp only [size_drew', size_drewN'] at hk1); have hX := GX.call (g := g) (a := wA) (by repeat' (first | (with_reducible exact GX.refl _ _) | (with_reducible assumption) | (with_reducible refine GX.alloc ?_ _) | (with_reducible refine GX.drew ?_) | (with_reducible refine GX.drewN ?_ _))) hb1; have hgl : g < w1.heap.size := (by have hS1 := hb1.size; (try simp at hS1); omega); have hL0 : w.heap.size < w1.heap.size := (by have hS1 := hb1.size; (try simp at hS1); omega); clear hb1)
          | (go_at_call 152; (with_reducible refine (appPad g ((jp (grp hi lo) i).length) 39 (jp (grp hi lo) i) ?_ (grp hi lo i) (grp_lt _ _ hhi hlo _ (by omega)) ?_ _ ?_ ?_).mono ?_); (simp only [List.length_append, List.length_cons, List.length_nil] <;> omega); omega; go_simp; go_simp; rintro e w1 ⟨rfl, hbuf, hgr⟩; have hk1 := blk?_gx hgr; have hX := GX.trans (g := g) (a := wA) (by repeat' (first | (with_reducible exact GX.refl _ _) | (with_reducible assumption) | (with_reducible refine GX.alloc ?_ _) | (with_reducible refine GX.drew ?_) | (with_reducible refine GX.drewN ?_ _))) hgr; have hgl : g < w1.heap.size := (by have hS1 := hgr.size; (try simp at hS1); omega); have hL0 : w.heap.size < w1.heap.size := (by have hS1 := hgr.size; (try simp at hS1); omega); clear hgr))
        go_roundw
        case rel => exact ⟨i + 1, by omega, by rw [jp_first _ _ HIP.out]; simp [padh], by go_num, by go_simp, by rw [jp_first _ _ HIP.out]; exact hbuf, (by repeat' (first | (with_reducible exact GX.refl _ _) | (with_reducible assumption) | (with_reducible refine GX.alloc ?_ _) | (with_reducible refine GX.drew ?_) | (with_reducible refine GX.drewN ?_ _))), by omega⟩
        case measure => simp [intOf]; omega
      · have hi3 : (0 : Int) < (i : Int) := by omega
        go_wp2_with (first
          | (go_at_call 153; (with_reducible refine (v6u16 _ _ _ hhi hlo (i) (by omega) _).mono ?_); rintro e w1 ⟨rfl, hb1⟩; have hk1 := blk?_below hb1; (try simp only [size_drew', size_drewN'] at hk1); have hX := GX.call (g := g) (a := wA) (by repeat' (first | (with_reducible exact GX.refl _ _) | (with_reducible assumption) | (with_reducible refine GX.alloc ?_ _) | (with_reducible refine GX.drew ?_) | (with_reducible refine GX.drewN ?_ _))) hb1; have hgl : g < w1.heap.size := (by have hS1 := hb1.size; (try simp at hS1); omega); have hL0 : w.heap.size < w1.heap.size := (by have hS1 := hb1.size; (try simp at hS1); omega); clear hb1)
          | (at_builtin; refine wpList_append_buf _ rfl (.tmp 21) (.tmp 22) rfl g ((jp (grp hi lo) i).length) 39 (jp (grp hi lo) i) rfl _ 1 1 [58] rfl ?_ rfl ?_ ?_ ?_ ?_; (simp only [List.length_append, List.length_cons, List.length_nil] <;> omega); omega; go_simp; go_simp; intro w1 hbuf hgr; have hk1 := blk?_gx hgr; have hX := GX.trans (g := g) (a := wA) (by repeat' (first | (with_reducible exact GX.refl _ _) | (with_reducible assumption) | (with_reducible refine GX.alloc ?_ _) | (with_reducible refine GX.drew ?_) | (with_reducible refine GX.drewN ?_ _))) hgr; have hgl : g < w1.heap.size := (by have hS1 := hgr.size; (try simp at hS1); omega); have hL0 : w.heap.size < w1.heap.size := (by have hS1 := hgr.size; (try simp at hS1); omega); clear hgr)
          | (go_at_call 152; (with_reducible refine (appPad g ((jp (grp hi lo) i).length + 1) 39 (jp (grp hi lo) i ++ [58]) ?_ (grp hi lo i) (grp_lt _ _ hhi hlo _ (by omega)) ?_ _ ?_ ?_).mono ?_); (simp only [List.length_append, List.length_cons, List.length_nil] <;> omega); omega; go_simp; go_simp; rintro e w1 ⟨rfl, hbuf, hgr⟩; have hk1 := blk?_gx hgr; have hX := GX.trans (g := g) (a := wA) (by repeat' (first | (with_reducible exact GX.refl _ _) | (with_reducible assumption) | (with_reducible refine GX.alloc ?_ _) | (with_reducible refine GX.drew ?_) | (with_reducible refine GX.drewN ?_ _))) hgr; have hgl : g < w1.heap.size := (by have hS1 := hgr.size; (try simp at hS1); omega); have hL0 : w.heap.size < w1.heap.size := (by have hS1 := hgr.size; (try simp at hS1); omega); clear hgr))
        go_roundw
        case rel => exact ⟨i + 1, by omega, by rw [jp_more _ _ (by omega)]; simp [padh], by go_num, by go_simp, by rw [jp_more _ _ (by omega)]; exact hbuf, (by repeat' (first | (with_reducible exact GX.refl _ _) | (with_reducible assumption) | (with_reducible refine GX.alloc ?_ _) | (with_reducible refine GX.drew ?_) | (with_reducible refine GX.drewN ?_ _))), by omega⟩
        case measure => simp [intOf]; omega
    · have hi1 : ¬ ((i : Int) < 8) := by omega
      have e8 : i = 8 := by omega
      have hGl := HG.out.below (GX.below hBA hX hWs hgb) (Nat.le_refl _)
      have hB9 := GX.below hBA hX hWs hgb
      clear z4 z0 s0 s1 s2 l4 c40 c41 z6 zh zh' l6 c60 c61
      obtain ⟨⟨z4, z0, s0, s1, s2, l4, c40, c41⟩, z6, zh, zh', l6, c60, c61⟩ := hGl
      have hc2 : wr.cell? ⟨w.heap.size, 2, none⟩ = some (.pointer (some ⟨b6, o6, none⟩)) := by rw [blk?_cell k0]; rfl
      have hconv := conv_buf _ _ _ _ rfl (By_jp (grp hi lo) i (fun j hj => grp_lt _ _ hhi hlo j (by omega))) _ kg
      have HE := Lib.hid e8
      clear e8 hlen2
      go_wp2
      go_ret
      refine ⟨?_, (by repeat' (first | (with_reducible exact Below.refl _ _) | (with_reducible assumption) | (with_reducible refine Below.alloc ?_ ?_ _) | (with_reducible refine Below.drew ?_) | (with_reducible refine below_drewN ?_ _) | (with_reducible refine Below.setCell ?_ ?_ _) | (with_reducible refine below_setRow' ?_ ?_ _) | go_size))⟩
      rw [← HE.out]
      rfl
end Go.Proofs.YtmlkcgacneealaaDoor
