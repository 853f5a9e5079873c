/- The text of an IPv6 address in a row with room. Conditions: the row is there, with room; the listed variables as laid. -/
import Derived.Test.YtmlkcgacneealaaDoorTxt3
import Derived.Deep.DeepCutAuto
set_option linter.unusedVariables false
set_option linter.unusedSimpArgs false
namespace Go.Proofs.YtmlkcgacneealaaDoor
open Go.RowKit

/-- n groups from a on, with colons between them. -/
def js (g : Nat → Int) (a : Nat) : Nat → List Int
  | 0 => []
  | n + 1 => js g a n ++ (if 0 < n then [58] else []) ++ hexd (g (a + n))
theorem js_len (g : Nat → Int) (a : Nat) : ∀ n, (js g a n).length ≤ 5 * n - 1 ∧ n ≤ (js g a n).length
  | 0 => by simp [js]
  | n + 1 => by
    have h := js_len g a n
    have h2 := hexd_len (g (a + n))
    simp only [js, List.length_append]
    by_cases c : 0 < n
    · rw [if_pos c]; simp only [List.length_cons, List.length_nil]; omega
    · rw [if_neg c]; simp only [List.length_nil]; omega
theorem js_one (g : Nat → Int) (a : Nat) : js g a 1 = hexd (g a) := by simp [js]
theorem js_more (g : Nat → Int) (a n : Nat) (h : 0 < n) : js g a (n + 1) = js g a n ++ [58] ++ hexd (g (a + n)) := by simp [js, h]
/-- A stretch of zeros that is left out, or none. -/
def Zok (g : Nat → Int) (zs ze : Nat) : Prop := (zs = 255 ∧ ze = 255) ∨ (zs + 2 ≤ ze ∧ ze ≤ 8 ∧ ∀ t, zs ≤ t → t < ze → g t = 0)
/-- The text. -/
def out6 (g : Nat → Int) (zs ze : Nat) : List Int := if zs = 255 then js g 0 8 else js g 0 zs ++ [58, 58] ++ js g ze (8 - ze)

theorem v6u16_z (hi lo : Int) (p : Option Addr) (hhi : 0 ≤ hi ∧ hi < 18446744073709551616) (w : World) :
    Calls Tryd.prog 153 #[.agg #[.int .u64 hi, .int .u64 lo, .pointer p], .int .u8 0] w fun e w' => e = .returned (.int .u16 (grp hi lo 0)) ∧ Below w.heap.size w w' := v6u16_0 hi lo p hhi w
/-- What stands in the row at the head of the second loop. -/
def L3 (g : Nat → Int) (zs ze i : Nat) (T : List Int) : Prop := (i ≤ zs ∧ T = js g 0 i) ∨ (zs + 2 ≤ ze ∧ ze < i ∧ T = js g 0 zs ++ [58, 58] ++ js g ze (i - ze))
theorem L3_len {g : Nat → Int} {zs ze i : Nat} {T : List Int} (h : L3 g zs ze i T) (hi : i ≤ 8) : T.length ≤ 5 * i + 2 := by
  rcases h with ⟨h1, rfl⟩ | ⟨h1, h2, rfl⟩
  · have := js_len g 0 i; omega
  · have a := js_len g 0 zs; have b := js_len g ze (i - ze)
    simp only [List.length_append, List.length_cons, List.length_nil]; omega
theorem L3_next {g : Nat → Int} {zs ze i : Nat} {T : List Int} (h : L3 g zs ze i T) (hi : 0 < i) (hne : i ≠ zs) : L3 g zs ze (i + 1) (T ++ [58] ++ hexd (g i)) := by
  rcases h with ⟨h1, rfl⟩ | ⟨h1, h2, rfl⟩
  · exact Or.inl ⟨by omega, by rw [js_more g 0 i hi, Nat.zero_add]⟩
  · refine Or.inr ⟨h1, by omega, ?_⟩
    rw [show i + 1 - ze = (i - ze) + 1 by omega, js_more g ze (i - ze) (by omega), show ze + (i - ze) = i by omega]
    simp [List.append_assoc]
theorem L3_first {g : Nat → Int} {zs ze i : Nat} {T : List Int} (h : L3 g zs ze i T) (hi : i = 0) (hne : i ≠ zs) : L3 g zs ze (i + 1) (T ++ hexd (g i)) := by
  subst hi
  rcases h with ⟨h1, rfl⟩ | ⟨h1, h2, rfl⟩
  · exact Or.inl ⟨by omega, by simp [js]⟩
  · omega
theorem L3_gap {g : Nat → Int} {zs ze : Nat} {T : List Int} (h : L3 g zs ze zs T) (hz : zs + 2 ≤ ze) : L3 g zs ze (ze + 1) (T ++ [58, 58] ++ hexd (g ze)) := by
  rcases h with ⟨h1, rfl⟩ | ⟨h1, h2, rfl⟩
  · exact Or.inr ⟨hz, by omega, by rw [show ze + 1 - ze = 1 by omega, js_one]⟩
  · omega
theorem L3_end {g : Nat → Int} {zs ze n : Nat} {T : List Int} (h : L3 g zs ze n T) (hn : n = 8) (hz : Zok g zs ze) : T = out6 g zs ze := by
  have e : out6 g zs ze = if zs = 255 then js g 0 n else js g 0 zs ++ [58, 58] ++ js g ze (n - ze) := by rw [hn]; rfl
  rw [e]
  clear e
  rcases h with ⟨h1, h2⟩ | ⟨h1, h2, h3⟩
  · rw [h2]
    rcases hz with ⟨h3, _⟩ | ⟨h3, h4, _⟩
    · rw [if_pos h3]
    · omega
  · rw [h3, if_neg (by rcases hz with ⟨h4, h5⟩ | ⟨h4, h5, _⟩ <;> omega)]
theorem L3_break {g : Nat → Int} {zs : Nat} {T : List Int} (h : L3 g zs 8 zs T) (hz : zs + 2 ≤ 8) : T ++ [58, 58] = out6 g zs 8 := by
  unfold out6
  rcases h with ⟨h1, rfl⟩ | ⟨h1, h2, rfl⟩
  · rw [if_neg (by omega)]; simp [js]
  · omega
set_option maxHeartbeats 4000000 in
set_option maxRecDepth 100000 in
theorem appTo6 (g : Nat) (hi lo : Int) (hhi : 0 ≤ hi ∧ hi < 18446744073709551616) (hlo : 0 ≤ lo ∧ lo < 18446744073709551616) {b4 o4 b6 o6 : Nat} (w0 w : World) (hg : Gl b4 o4 b6 o6 w0) (hBel : Below w0.heap.size w0 w) (hgb : w0.heap.size ≤ g) (hgs : g < w.heap.size) (hb : blk? w g = some (bufc 46 [])) :
    Calls Tryd.prog 151 #[.agg #[.int .u64 hi, .int .u64 lo, .pointer (some ⟨b6, o6, none⟩)], .slice (some ⟨g, 0, none⟩) (0) 46] w fun e w' => ∃ zs ze : Nat, Zok (grp hi lo) zs ze ∧ e = .returned (.slice (some ⟨g, 0, none⟩) ((out6 (grp hi lo) zs ze).length) 46) ∧ blk? w' g = some (bufc 46 (out6 (grp hi lo) zs ze)) ∧ GX g w w' := by
  have HG := Lib.hid hg
  have HBel := Lib.hid hBel
  have hWs := hBel.size
  clear hg hBel
  have hne : w.heap.size ≠ g := by omega
  have hne' : g ≠ w.heap.size := by omega
  go_enter Tryd.func151, Tryd.ntmps151
  go_wp2
  go_loopw [5, 6, 7, 8, 9] (fun vs ve vi v8 v9 wr => ∃ zs ze i : Nat, Zok (grp hi lo) zs ze ∧ i ≤ 8 ∧ vs = .int .u8 zs ∧ ve = .int .u8 ze ∧ vi = .int .u8 i ∧ blk? wr w.heap.size = some #[.int .u64 hi, .int .u64 lo, .pointer (some ⟨b6, o6, none⟩)] ∧ blk? wr g = some (bufc 46 []) ∧ GX g w wr ∧ w.heap.size < wr.heap.size) (fun _ _ i _ _ _ => 8 - (intOf i).toNat)
  case atStart => exact ⟨255, 255, 0, Or.inl ⟨rfl, rfl⟩, by omega, rfl, rfl, rfl, by go_simp, by go_simp, (by repeat' (first | (with_reducible exact GX.refl _ _) | (with_reducible assumption) | (with_reducible refine GX.alloc ?_ _) | (with_reducible refine GX.drew ?_) | (with_reducible refine GX.drewN ?_ _))), by simp⟩
  case round =>
    obtain ⟨zs, ze, i, hz, hi8, rfl, rfl, rfl, k0, kg, hX, hL⟩ := hrel
    have hgl : g < wr.heap.size := blk?_lt kg
    have hi0 : (0 : Int) ≤ (i : Int) := by omega
    have hz1 : (0 : Int) ≤ (ze : Int) - (zs : Int) := by rcases hz with ⟨rfl, rfl⟩ | ⟨h1, h2, _⟩ <;> omega
    have hz2 : (ze : Int) - (zs : Int) < 256 := by rcases hz with ⟨rfl, rfl⟩ | ⟨h1, h2, _⟩ <;> omega
    have HZ := Lib.hid hz
    clear hz
    by_cases hlt : i < 8
    · have hi1 : (i : Int) < 8 := by omega
      have hi2 : (i : Int) + 1 < 256 := by omega
      go_wp2
      go_loopw [8] (fun v8 wq => ∃ j : Nat, i ≤ j ∧ j ≤ 8 ∧ (∀ t, i ≤ t → t < j → (grp hi lo) t = 0) ∧ v8 = .int .u8 j ∧ blk? wq w.heap.size = some #[.int .u64 hi, .int .u64 lo, .pointer (some ⟨b6, o6, none⟩)] ∧ blk? wq g = some (bufc 46 []) ∧ GX g w wq ∧ w.heap.size < wq.heap.size) (fun j _ => 8 - (intOf j).toNat)
      case atStart => exact ⟨i, Nat.le_refl _, hi8, fun t h1 h2 => by omega, rfl, k0, kg, hX, hL⟩
      case round =>
        clear hX hL hgl k0 kg
        obtain ⟨j, hij, hj8, hzero, rfl, k0, kg, hX, hL⟩ := hrel
        have hgl : g < wr.heap.size := blk?_lt kg
        have hj0 : (0 : Int) ≤ (j : Int) := by omega
        have hd0 : (0 : Int) ≤ (j : Int) - (i : Int) := by omega
        have hd1 : (j : Int) - (i : Int) < 256 := by omega
        have HZero := Lib.hid hzero
        clear hzero
        by_cases hjl : j < 8 ∧ grp hi lo j = 0
        · have hj1 : (j : Int) < 8 := by omega
          have hj2 : (j : Int) + 1 < 256 := by omega
          have hgz := hjl.2
          go_wp2_with (first
            | (go_at_call 153; (with_reducible refine (v6u16 _ _ _ hhi hlo (j) hjl.1 _).mono ?_); rintro e w1 ⟨rfl, hb1⟩; have hk1 := blk?_below hb1; (try simp only [size_drew', size_drewN'] at hk1); have hX := GX.call (g := g) (a := w) (by repeat' (first | (with_reducible exact GX.refl _ _) | (with_reducible assumption) | (with_reducible refine GX.alloc ?_ _) | (with_reducible refine GX.drew ?_) | (with_reducible refine GX.drewN ?_ _))) hb1; have hgl : g < w1.heap.size := (by have hS1 := hb1.size; (try simp at hS1); omega); have hL0 : w.heap.size < w1.heap.size := (by have hS1 := hb1.size; (try simp at hS1); omega); clear hb1))
          go_roundw
          case rel => exact ⟨j + 1, by omega, by omega, fun t h1 h2 => by by_cases c : t = j; (subst c; exact hgz); (exact HZero.out t h1 (by omega)), by go_num, by go_simp, by go_simp, (by repeat' (first | (with_reducible exact GX.refl _ _) | (with_reducible assumption) | (with_reducible refine GX.alloc ?_ _) | (with_reducible refine GX.drew ?_) | (with_reducible refine GX.drewN ?_ _))), by omega⟩
          case measure => simp [intOf]; omega
        · have hex : ¬ (j < 8 ∧ grp hi lo j = 0) := hjl
          by_cases hj8' : j < 8
          · have hj1 : (j : Int) < 8 := by omega
            have hgz : ¬ (grp hi lo j = 0) := fun e => hjl ⟨hj8', e⟩
            clear hjl hex
            by_cases c1 : 2 ≤ (j : Int) - (i : Int) ∧ (ze : Int) - (zs : Int) < (j : Int) - (i : Int)
            · obtain ⟨c1, c2⟩ := c1
              go_wp2_with (first
                | (go_at_call 153; (with_reducible refine (v6u16 _ _ _ hhi hlo (j) hj8' _).mono ?_); rintro e w1 ⟨rfl, hb1⟩; have hk1 := blk?_below hb1; (try simp only [size_drew', size_drewN'] at hk1); have hX := GX.call (g := g) (a := w) (by repeat' (first | (with_reducible exact GX.refl _ _) | (with_reducible assumption) | (with_reducible refine GX.alloc ?_ _) | (with_reducible refine GX.drew ?_) | (with_reducible refine GX.drewN ?_ _))) hb1; have hgl : g < w1.heap.size := (by have hS1 := hb1.size; (try simp at hS1); omega); have hL0 : w.heap.size < w1.heap.size := (by have hS1 := hb1.size; (try simp at hS1); omega); clear hb1))
              go_roundw
              case rel => exact ⟨i, j, i + 1, Or.inr ⟨by omega, by omega, HZero.out⟩, by omega, rfl, rfl, by go_num, by go_simp, by go_simp, (by repeat' (first | (with_reducible exact GX.refl _ _) | (with_reducible assumption) | (with_reducible refine GX.alloc ?_ _) | (with_reducible refine GX.drew ?_) | (with_reducible refine GX.drewN ?_ _))), by omega⟩
              case measure => simp [intOf]; omega
            · by_cases c3 : 2 ≤ (j : Int) - (i : Int)
              · have c2 : ¬ ((ze : Int) - (zs : Int) < (j : Int) - (i : Int)) := fun e => c1 ⟨c3, e⟩
                clear c1
                go_wp2_with (first
                  | (go_at_call 153; (with_reducible refine (v6u16 _ _ _ hhi hlo (j) hj8' _).mono ?_); rintro e w1 ⟨rfl, hb1⟩; have hk1 := blk?_below hb1; (try simp only [size_drew', size_drewN'] at hk1); have hX := GX.call (g := g) (a := w) (by repeat' (first | (with_reducible exact GX.refl _ _) | (with_reducible assumption) | (with_reducible refine GX.alloc ?_ _) | (with_reducible refine GX.drew ?_) | (with_reducible refine GX.drewN ?_ _))) hb1; have hgl : g < w1.heap.size := (by have hS1 := hb1.size; (try simp at hS1); omega); have hL0 : w.heap.size < w1.heap.size := (by have hS1 := hb1.size; (try simp at hS1); omega); clear hb1))
                go_roundw
                case rel => exact ⟨zs, ze, i + 1, HZ.out, by omega, rfl, rfl, by go_num, by go_simp, by go_simp, (by repeat' (first | (with_reducible exact GX.refl _ _) | (with_reducible assumption) | (with_reducible refine GX.alloc ?_ _) | (with_reducible refine GX.drew ?_) | (with_reducible refine GX.drewN ?_ _))), by omega⟩
                case measure => simp [intOf]; omega
              · clear c1
                go_wp2_with (first
                  | (go_at_call 153; (with_reducible refine (v6u16 _ _ _ hhi hlo (j) hj8' _).mono ?_); rintro e w1 ⟨rfl, hb1⟩; have hk1 := blk?_below hb1; (try simp only [size_drew', size_drewN'] at hk1); have hX := GX.call (g := g) (a := w) (by repeat' (first | (with_reducible exact GX.refl _ _) | (with_reducible assumption) | (with_reducible refine GX.alloc ?_ _) | (with_reducible refine GX.drew ?_) | (with_reducible refine GX.drewN ?_ _))) hb1; have hgl : g < w1.heap.size := (by have hS1 := hb1.size; (try simp at hS1); omega); have hL0 : w.heap.size < w1.heap.size := (by have hS1 := hb1.size; (try simp at hS1); omega); clear hb1))
                go_roundw
                case rel => exact ⟨zs, ze, i + 1, HZ.out, by omega, rfl, rfl, by go_num, by go_simp, by go_simp, (by repeat' (first | (with_reducible exact GX.refl _ _) | (with_reducible assumption) | (with_reducible refine GX.alloc ?_ _) | (with_reducible refine GX.drew ?_) | (with_reducible refine GX.drewN ?_ _))), by omega⟩
                case measure => simp [intOf]; omega
          · obtain rfl : j = 8 := by omega
            clear hjl hex
            by_cases c1 : 2 ≤ (8 : Int) - (i : Int) ∧ (ze : Int) - (zs : Int) < (8 : Int) - (i : Int)
            · obtain ⟨c1, c2⟩ := c1
              go_wp2
              go_roundw
              case rel => exact ⟨i, 8, i + 1, Or.inr ⟨by omega, by omega, HZero.out⟩, by omega, rfl, rfl, by go_num, k0, kg, hX, hL⟩
              case measure => simp [intOf]; omega
            · by_cases c3 : 2 ≤ (8 : Int) - (i : Int)
              · have c2 : ¬ ((ze : Int) - (zs : Int) < (8 : Int) - (i : Int)) := fun e => c1 ⟨c3, e⟩
                clear c1
                go_wp2
                go_roundw
                case rel => exact ⟨zs, ze, i + 1, HZ.out, by omega, rfl, rfl, by go_num, k0, kg, hX, hL⟩
                case measure => simp [intOf]; omega
              · clear c1
                go_wp2
                go_roundw
                case rel => exact ⟨zs, ze, i + 1, HZ.out, by omega, rfl, rfl, by go_num, k0, kg, hX, hL⟩
                case measure => simp [intOf]; omega
    · have hi1 : ¬ ((i : Int) < 8) := by omega
      go_wp2
      go_loopw [1, 10] (fun v1 v10 wq => ∃ (T : List Int) (i : Nat), i ≤ 8 ∧ L3 (grp hi lo) zs ze i T ∧ v1 = .slice (some ⟨g, 0, none⟩) (T.length) 46 ∧ v10 = .int .u8 i ∧ blk? wq w.heap.size = some #[.int .u64 hi, .int .u64 lo, .pointer (some ⟨b6, o6, none⟩)] ∧ blk? wq g = some (bufc 46 T) ∧ GX g w wq ∧ w.heap.size < wq.heap.size) (fun _ i _ => 8 - (intOf i).toNat)
      case atStart => exact ⟨[], 0, by omega, Or.inl ⟨Nat.zero_le _, rfl⟩, rfl, rfl, k0, kg, hX, hL⟩
      case round =>
        clear hX hL hgl k0 kg hi1 hi0 hlt
        obtain ⟨T, i, hi8, hT, rfl, rfl, k0, kg, hX, hL⟩ := hrel
        have hgl : g < wr.heap.size := blk?_lt kg
        have hlen := L3_len hT hi8
        have HT := Lib.hid hT
        clear hT
        have hi0 : (0 : Int) ≤ (i : Int) := by omega
        by_cases hlt : i < 8
        · have hi1 : (i : Int) < 8 := by omega
          have hi2 : (i : Int) + 1 < 256 := by omega
          have hg0 := hexd_len (grp hi lo i)
          by_cases hzi : i = zs
          · have hzb : ((i : Int) == (zs : Int)) = true := by rw [beq_iff_eq]; omega
            have HZI := Lib.hid hzi
            clear hzi
            have hze : zs + 2 ≤ ze ∧ ze ≤ 8 := by rcases HZ.out with ⟨h1, h2⟩ | ⟨h1, h2, _⟩ <;> have := HZI.out <;> omega
            have hze0 : (0 : Int) ≤ (ze : Int) := by omega
            have hlen2 : T.length + 6 ≤ 46 := by omega
            by_cases hz8 : ze < 8
            · have hz9 : (ze : Int) < 8 := by omega
              have hz10 : (ze : Int) + 1 < 256 := by omega
              have hg1 := hexd_len (grp hi lo ze)
              go_wp2_with (first
                | (go_at_call 153; (with_reducible refine (v6u16 _ _ _ hhi hlo (ze) (by omega) _).mono ?_); rintro e w1 ⟨rfl, hb1⟩; have hk1 := blk?_below hb1; (try simp only [size_drew', size_drewN'] at hk1); have hX := GX.call (g := g) (a := w) (by repeat' (first | (with_reducible exact GX.refl _ _) | (with_reducible assumption) | (with_reducible refine GX.alloc ?_ _) | (with_reducible refine GX.drew ?_) | (with_reducible refine GX.drewN ?_ _))) hb1; have hgl : g < w1.heap.size := (by have hS1 := hb1.size; (try simp at hS1); omega); have hL0 : w.heap.size < w1.heap.size := (by have hS1 := hb1.size; (try simp at hS1); omega); clear hb1)
                | (at_builtin; refine wpList_append_buf _ rfl (.tmp 47) (.tmp 48) rfl g (T.length) 46 (T) rfl _ 2 2 [58, 58] rfl ?_ rfl ?_ ?_ ?_ ?_; ((simp only [List.length_append, List.length_cons, List.length_nil] <;> omega)); omega; go_simp; go_simp; intro w1 hbuf hgr; have hk1 := blk?_gx hgr; have hX := GX.trans (g := g) (a := w) (by repeat' (first | (with_reducible exact GX.refl _ _) | (with_reducible assumption) | (with_reducible refine GX.alloc ?_ _) | (with_reducible refine GX.drew ?_) | (with_reducible refine GX.drewN ?_ _))) hgr; have hgl : g < w1.heap.size := (by have hS1 := hgr.size; (try simp at hS1); omega); have hL0 : w.heap.size < w1.heap.size := (by have hS1 := hgr.size; (try simp at hS1); omega); clear hgr)
                | (go_at_call 170; (with_reducible refine (appHex g (T.length + 2) 46 (T ++ [58, 58]) ?_ (grp hi lo (ze)) (grp_lt _ _ hhi hlo _ (by omega)) ?_ _ ?_ ?_).mono ?_); ((simp only [List.length_append, List.length_cons, List.length_nil] <;> omega)); omega; go_simp; go_simp; rintro e w1 ⟨rfl, hbuf, hgr⟩; have hk1 := blk?_gx hgr; have hX := GX.trans (g := g) (a := w) (by repeat' (first | (with_reducible exact GX.refl _ _) | (with_reducible assumption) | (with_reducible refine GX.alloc ?_ _) | (with_reducible refine GX.drew ?_) | (with_reducible refine GX.drewN ?_ _))) hgr; have hgl : g < w1.heap.size := (by have hS1 := hgr.size; (try simp at hS1); omega); have hL0 : w.heap.size < w1.heap.size := (by have hS1 := hgr.size; (try simp at hS1); omega); clear hgr))
              go_roundw
              case rel => exact ⟨_, ze + 1, by omega, L3_gap (by have h := HT.out; rw [HZI.out] at h; exact h) hze.1, by (simp [List.length_append, Nat.add_assoc] <;> omega), by go_num, by go_simp, hbuf, (by repeat' (first | (with_reducible exact GX.refl _ _) | (with_reducible assumption) | (with_reducible refine GX.alloc ?_ _) | (with_reducible refine GX.drew ?_) | (with_reducible refine GX.drewN ?_ _))), by omega⟩
              case measure => simp [intOf]; have := HZI.out; omega
            · have hz9 : ¬ ((ze : Int) < 8) := by omega
              go_upto_region 21 with (first
                | (at_builtin; refine wpList_append_buf _ rfl (.tmp 47) (.tmp 48) rfl g (T.length) 46 (T) rfl _ 2 2 [58, 58] rfl ?_ rfl ?_ ?_ ?_ ?_; ((simp only [List.length_append, List.length_cons, List.length_nil] <;> omega)); omega; go_simp; go_simp; intro w1 hbuf hgr; have hk1 := blk?_gx hgr; have hX := GX.trans (g := g) (a := w) (by repeat' (first | (with_reducible exact GX.refl _ _) | (with_reducible assumption) | (with_reducible refine GX.alloc ?_ _) | (with_reducible refine GX.drew ?_) | (with_reducible refine GX.drewN ?_ _))) hgr; have hgl : g < w1.heap.size := (by have hS1 := hgr.size; (try simp at hS1); omega); have hL0 : w.heap.size < w1.heap.size := (by have hS1 := hgr.size; (try simp at hS1); omega); clear hgr))
              have hGl := HG.out.below (GX.below HBel.out hX hWs hgb) (Nat.le_refl _)
              obtain ⟨⟨z4, z0, s0, s1, s2, l4, c40, c41⟩, z6, zh, zh', l6, c60, c61⟩ := hGl
              have kk : blk? w1 w.heap.size = some #[.int .u64 hi, .int .u64 lo, .pointer (some ⟨b6, o6, none⟩)] := by go_simp
              have hc2 : w1.cell? ⟨w.heap.size, 2, none⟩ = some (.pointer (some ⟨b6, o6, none⟩)) := by rw [blk?_cell kk]; rfl
              have hend : T ++ [58, 58] = out6 (grp hi lo) zs ze := by
                have h := HT.out
                rw [HZI.out] at h
                have e8 : ze = 8 := by omega
                rw [e8] at h ⊢
                exact L3_break h (by omega)
              have hl2 : T.length + 2 = (out6 (grp hi lo) zs ze).length := by rw [← hend]; simp
              rw [hend] at hbuf
              have HL2 := Lib.hid hl2
              clear hend hl2
              go_wp2
              go_ret
              exact ⟨zs, ze, HZ.out, (by rw [← HL2.out]; rfl), hbuf, (by repeat' (first | (with_reducible exact GX.refl _ _) | (with_reducible assumption) | (with_reducible refine GX.alloc ?_ _) | (with_reducible refine GX.drew ?_) | (with_reducible refine GX.drewN ?_ _)))⟩
          · have hzi' : ¬ ((i : Int) = (zs : Int)) := by omega
            by_cases hip : i = 0
            · have hi3 : ¬ ((0 : Int) < (i : Int)) := by omega
              have HIP := Lib.hid hip
              clear hip
              go_wp2_with (first
                | (go_at_call 153; (with_reducible refine (v6u16 _ _ _ hhi hlo (i) (by omega) _).mono ?_); rintro e w1 ⟨rfl, hb1⟩; have hk1 := blk?_below hb1; (try simp only [size_drew', size_drewN'] at hk1); have hX := GX.call (g := g) (a := w) (by repeat' (first | (with_reducible exact GX.refl _ _) | (with_reducible assumption) | (with_reducible refine GX.alloc ?_ _) | (with_reducible refine GX.drew ?_) | (with_reducible refine GX.drewN ?_ _))) hb1; have hgl : g < w1.heap.size := (by have hS1 := hb1.size; (try simp at hS1); omega); have hL0 : w.heap.size < w1.heap.size := (by have hS1 := hb1.size; (try simp at hS1); omega); clear hb1)
                | (go_at_call 170; (with_reducible refine (appHex g (T.length) 46 (T) ?_ (grp hi lo (i)) (grp_lt _ _ hhi hlo _ (by omega)) ?_ _ ?_ ?_).mono ?_); ((simp only [List.length_append, List.length_cons, List.length_nil] <;> omega)); omega; go_simp; go_simp; rintro e w1 ⟨rfl, hbuf, hgr⟩; have hk1 := blk?_gx hgr; have hX := GX.trans (g := g) (a := w) (by repeat' (first | (with_reducible exact GX.refl _ _) | (with_reducible assumption) | (with_reducible refine GX.alloc ?_ _) | (with_reducible refine GX.drew ?_) | (with_reducible refine GX.drewN ?_ _))) hgr; have hgl : g < w1.heap.size := (by have hS1 := hgr.size; (try simp at hS1); omega); have hL0 : w.heap.size < w1.heap.size := (by have hS1 := hgr.size; (try simp at hS1); omega); clear hgr))
              go_roundw
              case rel => exact ⟨_, i + 1, by omega, L3_first HT.out HIP.out hzi, by simp [List.length_append], by go_num, by go_simp, hbuf, (by repeat' (first | (with_reducible exact GX.refl _ _) | (with_reducible assumption) | (with_reducible refine GX.alloc ?_ _) | (with_reducible refine GX.drew ?_) | (with_reducible refine GX.drewN ?_ _))), by omega⟩
              case measure => simp [intOf]; omega
            · have hi3 : (0 : Int) < (i : Int) := by omega
              go_wp2_with (first
                | (go_at_call 153; (with_reducible refine (v6u16 _ _ _ hhi hlo (i) (by omega) _).mono ?_); rintro e w1 ⟨rfl, hb1⟩; have hk1 := blk?_below hb1; (try simp only [size_drew', size_drewN'] at hk1); have hX := GX.call (g := g) (a := w) (by repeat' (first | (with_reducible exact GX.refl _ _) | (with_reducible assumption) | (with_reducible refine GX.alloc ?_ _) | (with_reducible refine GX.drew ?_) | (with_reducible refine GX.drewN ?_ _))) hb1; have hgl : g < w1.heap.size := (by have hS1 := hb1.size; (try simp at hS1); omega); have hL0 : w.heap.size < w1.heap.size := (by have hS1 := hb1.size; (try simp at hS1); omega); clear hb1)
                | (at_builtin; refine wpList_append_buf _ rfl (.tmp 55) (.tmp 56) rfl g (T.length) 46 (T) rfl _ 1 1 [58] rfl ?_ rfl ?_ ?_ ?_ ?_; ((simp only [List.length_append, List.length_cons, List.length_nil] <;> omega)); omega; go_simp; go_simp; intro w1 hbuf hgr; have hk1 := blk?_gx hgr; have hX := GX.trans (g := g) (a := w) (by repeat' (first | (with_reducible exact GX.refl _ _) | (with_reducible assumption) | (with_reducible refine GX.alloc ?_ _) | (with_reducible refine GX.drew ?_) | (with_reducible refine GX.drewN ?_ _))) hgr; have hgl : g < w1.heap.size := (by have hS1 := hgr.size; (try simp at hS1); omega); have hL0 : w.heap.size < w1.heap.size := (by have hS1 := hgr.size; (try simp at hS1); omega); clear hgr)
                | (go_at_call 170; (with_reducible refine (appHex g (T.length + 1) 46 (T ++ [58]) ?_ (grp hi lo (i)) (grp_lt _ _ hhi hlo _ (by omega)) ?_ _ ?_ ?_).mono ?_); ((simp only [List.length_append, List.length_cons, List.length_nil] <;> omega)); omega; go_simp; go_simp; rintro e w1 ⟨rfl, hbuf, hgr⟩; have hk1 := blk?_gx hgr; have hX := GX.trans (g := g) (a := w) (by repeat' (first | (with_reducible exact GX.refl _ _) | (with_reducible assumption) | (with_reducible refine GX.alloc ?_ _) | (with_reducible refine GX.drew ?_) | (with_reducible refine GX.drewN ?_ _))) hgr; have hgl : g < w1.heap.size := (by have hS1 := hgr.size; (try simp at hS1); omega); have hL0 : w.heap.size < w1.heap.size := (by have hS1 := hgr.size; (try simp at hS1); omega); clear hgr))
              go_roundw
              case rel => exact ⟨_, i + 1, by omega, L3_next HT.out (by omega) hzi, by (simp [List.length_append, Nat.add_assoc] <;> omega), by go_num, by go_simp, hbuf, (by repeat' (first | (with_reducible exact GX.refl _ _) | (with_reducible assumption) | (with_reducible refine GX.alloc ?_ _) | (with_reducible refine GX.drew ?_) | (with_reducible refine GX.drewN ?_ _))), by omega⟩
              case measure => simp [intOf]; omega
        · have hi1 : ¬ ((i : Int) < 8) := by omega
          have hGl := HG.out.below (GX.below HBel.out hX hWs hgb) (Nat.le_refl _)
          obtain ⟨⟨z4, z0, s0, s1, s2, l4, c40, c41⟩, z6, zh, zh', l6, c60, c61⟩ := hGl
          have hc2 : wr.cell? ⟨w.heap.size, 2, none⟩ = some (.pointer (some ⟨b6, o6, none⟩)) := by rw [blk?_cell k0]; rfl
          have hend := L3_end HT.out (by omega) HZ.out
          subst hend
          go_wp2
          go_ret
          exact ⟨zs, ze, HZ.out, rfl, kg, (by repeat' (first | (with_reducible exact GX.refl _ _) | (with_reducible assumption) | (with_reducible refine GX.alloc ?_ _) | (with_reducible refine GX.drew ?_) | (with_reducible refine GX.drewN ?_ _)))⟩
end Go.Proofs.YtmlkcgacneealaaDoor
