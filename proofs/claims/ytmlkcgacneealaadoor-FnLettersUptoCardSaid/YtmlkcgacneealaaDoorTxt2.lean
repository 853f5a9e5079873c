/- Decimal and hexadecimal digits behind a text; IPv4 addresses behind a text. Conditions: the row is there, with room. -/
import Derived.Test.YtmlkcgacneealaaDoorTxt1
set_option linter.unusedVariables false
set_option linter.unusedSimpArgs false
namespace Go.Proofs.YtmlkcgacneealaaDoor
open Go.RowKit
theorem dec_len (x : Int) : 1 ≤ (dec x).length ∧ (dec x).length ≤ 3 := by unfold dec; split <;> split <;> simp
theorem hexd_len (x : Int) : 1 ≤ (hexd x).length ∧ (hexd x).length ≤ 4 := by unfold hexd; split <;> split <;> split <;> simp
theorem appDec (g k cap : Nat) (s : List Int) (hs : s.length = k) (x : Int) (hx : 0 ≤ x ∧ x < 256) (hc : k + 3 ≤ cap) (w : World) (hg : g < w.heap.size) (hb : blk? w g = some (bufc cap s)) :
    Calls Tryd.prog 169 #[.slice (some ⟨g, 0, none⟩) (k) cap, .int .u8 x] w fun e w' => e = .returned (.slice (some ⟨g, 0, none⟩) (k + (dec x).length) cap) ∧ blk? w' g = some (bufc cap (s ++ dec x)) ∧ GX g w w' := by
  by_cases h1 : x < 10
  · have e : dec x = [dig (x % 10)] := by unfold dec; rw [if_neg (by omega), if_neg (by omega)]; rfl
    rw [e]; exact appDec_a g k cap s hs x hx.1 h1 (by omega) w hg hb
  by_cases h2 : x < 100
  · have e : dec x = [dig (x / 10 % 10), dig (x % 10)] := by unfold dec; rw [if_neg (by omega), if_pos (by omega)]; rfl
    rw [e]; exact appDec_b g k cap s hs x (by omega) h2 (by omega) w hg hb
  · have e : dec x = [dig (x / 100), dig (x / 10 % 10), dig (x % 10)] := by unfold dec; rw [if_pos (by omega), if_pos (by omega)]; rfl
    rw [e]; exact appDec_c g k cap s hs x (by omega) hx.2 (by omega) w hg hb
theorem appHex (g k cap : Nat) (s : List Int) (hs : s.length = k) (x : Int) (hx : 0 ≤ x ∧ x < 65536) (hc : k + 4 ≤ cap) (w : World) (hg : g < w.heap.size) (hb : blk? w g = some (bufc cap s)) :
    Calls Tryd.prog 170 #[.slice (some ⟨g, 0, none⟩) (k) cap, .int .u16 x] w fun e w' => e = .returned (.slice (some ⟨g, 0, none⟩) (k + (hexd x).length) cap) ∧ blk? w' g = some (bufc cap (s ++ hexd x)) ∧ GX g w w' := by
  by_cases h1 : x < 16
  · have e : hexd x = [dig (x % 16)] := by unfold hexd; rw [if_neg (by omega), if_neg (by omega), if_neg (by omega)]; rfl
    rw [e]; exact appHex_a g k cap s hs x hx.1 h1 (by omega) w hg hb
  by_cases h2 : x < 256
  · have e : hexd x = [dig (x / 16 % 16), dig (x % 16)] := by unfold hexd; rw [if_neg (by omega), if_neg (by omega), if_pos (by omega)]; rfl
    rw [e]; exact appHex_b g k cap s hs x (by omega) h2 (by omega) w hg hb
  by_cases h3 : x < 4096
  · have e : hexd x = [dig (x / 256 % 16), dig (x / 16 % 16), dig (x % 16)] := by unfold hexd; rw [if_neg (by omega), if_pos (by omega), if_pos (by omega)]; rfl
    rw [e]; exact appHex_c g k cap s hs x (by omega) h3 (by omega) w hg hb
  · have e : hexd x = [dig (x / 4096), dig (x / 256 % 16), dig (x / 16 % 16), dig (x % 16)] := by unfold hexd; rw [if_pos (by omega), if_pos (by omega), if_pos (by omega)]; rfl
    rw [e]; exact appHex_d g k cap s hs x (by omega) hx.2 (by omega) w hg hb
set_option maxHeartbeats 4000000 in
set_option maxRecDepth 100000 in
theorem v4_3 (hi lo : Int) (p : Option Addr) (hlo : 0 ≤ lo ∧ lo < 18446744073709551616) (w : World) :
    Calls Tryd.prog 154 #[.agg #[.int .u64 hi, .int .u64 lo, .pointer p], .int .u8 3] w fun e w' => e = .returned (.int .u8 (lo % 256)) ∧ Below w.heap.size w w' := by
  obtain ⟨hl0, hl1⟩ := hlo
  go_enter Tryd.func154, Tryd.ntmps154
  go_wp2
  go_ret
  exact ⟨rfl, (by repeat' (first | (with_reducible exact Below.refl _ _) | (with_reducible assumption) | (with_reducible refine Below.alloc ?_ ?_ _) | (with_reducible refine Below.drew ?_) | (with_reducible refine below_drewN ?_ _) | (with_reducible refine Below.setCell ?_ ?_ _) | (with_reducible refine below_setRow' ?_ ?_ _) | go_size))⟩
/-- Four bytes in dotted decimal. -/
def dot4 (a b c d : Int) : List Int := dec a ++ [46] ++ dec b ++ [46] ++ dec c ++ [46] ++ dec d
theorem dot4_len (a b c d : Int) : 7 ≤ (dot4 a b c d).length ∧ (dot4 a b c d).length ≤ 15 := by
  have h1 := dec_len a; have h2 := dec_len b; have h3 := dec_len c; have h4 := dec_len d
  simp only [dot4, List.length_append, List.length_cons, List.length_nil]; omega
set_option maxHeartbeats 4000000 in
set_option maxRecDepth 100000 in
theorem appTo4 (g k cap : Nat) (s : List Int) (hs : s.length = k) (hi lo : Int) (p : Option Addr) (hlo : 0 ≤ lo ∧ lo < 18446744073709551616) (hc : k + 15 ≤ cap) (w : World) (hg : g < w.heap.size) (hb : blk? w g = some (bufc cap s)) :
    Calls Tryd.prog 149 #[.agg #[.int .u64 hi, .int .u64 lo, .pointer p], .slice (some ⟨g, 0, none⟩) (k) cap] w fun e w' => e = .returned (.slice (some ⟨g, 0, none⟩) (k + (dot4 (lo / 16777216 % 256) (lo / 65536 % 256) (lo / 256 % 256) (lo % 256)).length) cap) ∧ blk? w' g = some (bufc cap (s ++ dot4 (lo / 16777216 % 256) (lo / 65536 % 256) (lo / 256 % 256) (lo % 256))) ∧ GX g w w' := by
  have hne : w.heap.size ≠ g := by omega
  have hne' : g ≠ w.heap.size := by omega
  have hd0 := dec_len (lo / 16777216 % 256)
  have hd1 := dec_len (lo / 65536 % 256)
  have hd2 := dec_len (lo / 256 % 256)
  have hd3 := dec_len (lo % 256)
  go_enter Tryd.func149, Tryd.ntmps149
  go_wp2_with (first
    | (go_at_call 154; (with_reducible refine (v4_0 _ _ _ hlo _).mono ?_); rintro e w1 ⟨rfl, hb1⟩; have hk1 := blk?_below hb1; (try simp only [size_drew', size_drewN'] at hk1); have hX := GX.call (g := g) (a := w) (by repeat' (first | (with_reducible exact GX.refl _ _) | (with_reducible assumption) | (with_reducible refine GX.alloc ?_ _) | (with_reducible refine GX.drew ?_) | (with_reducible refine GX.drewN ?_ _))) hb1; have hgl : g < w1.heap.size := (by have hS1 := hb1.size; (try simp at hS1); omega); have hL0 : w.heap.size < w1.heap.size := (by have hS1 := hb1.size; (try simp at hS1); omega); clear hb1)
    | (go_at_call 154; (with_reducible refine (v4_1 _ _ _ hlo _).mono ?_); rintro e w1 ⟨rfl, hb1⟩; have hk1 := blk?_below hb1; (try simp only [size_drew', size_drewN'] at hk1); have hX := GX.call (g := g) (a := w) (by repeat' (first | (with_reducible exact GX.refl _ _) | (with_reducible assumption) | (with_reducible refine GX.alloc ?_ _) | (with_reducible refine GX.drew ?_) | (with_reducible refine GX.drewN ?_ _))) hb1; have hgl : g < w1.heap.size := (by have hS1 := hb1.size; (try simp at hS1); omega); have hL0 : w.heap.size < w1.heap.size := (by have hS1 := hb1.size; (try simp at hS1); omega); clear hb1)
    | (go_at_call 154; (with_reducible refine (v4_2 _ _ _ hlo _).mono ?_); rintro e w1 ⟨rfl, hb1⟩; have hk1 := blk?_below hb1; (try simp only [size_drew', size_drewN'] at hk1); have hX := GX.call (g := g) (a := w) (by repeat' (first | (with_reducible exact GX.refl _ _) | (with_reducible assumption) | (with_reducible refine GX.alloc ?_ _) | (with_reducible refine GX.drew ?_) | (with_reducible refine GX.drewN ?_ _))) hb1; have hgl : g < w1.heap.size := (by have hS1 := hb1.size; (try simp at hS1); omega); have hL0 : w.heap.size < w1.heap.size := (by have hS1 := hb1.size; (try simp at hS1); omega); clear hb1)
    | (go_at_call 154; (with_reducible refine (v4_3 _ _ _ hlo _).mono ?_); rintro e w1 ⟨rfl, hb1⟩; have hk1 := blk?_below hb1; (try simp only [size_drew', size_drewN'] at hk1); have hX := GX.call (g := g) (a := w) (by repeat' (first | (with_reducible exact GX.refl _ _) | (with_reducible assumption) | (with_reducible refine GX.alloc ?_ _) | (with_reducible refine GX.drew ?_) | (with_reducible refine GX.drewN ?_ _))) hb1; have hgl : g < w1.heap.size := (by have hS1 := hb1.size; (try simp at hS1); omega); have hL0 : w.heap.size < w1.heap.size := (by have hS1 := hb1.size; (try simp at hS1); omega); clear hb1)
    | (go_at_call 169; (with_reducible refine (appDec g (k) cap (s) ?_ (lo / 16777216 % 256) (by omega) ?_ _ ?_ ?_).mono ?_); (simp only [List.length_append, List.length_cons, List.length_nil, hs] <;> omega); omega; go_simp; go_simp; rintro e w1 ⟨rfl, hbuf, hgr⟩; have hk1 := blk?_gx hgr; have hX := GX.trans (g := g) (a := w) (by repeat' (first | (with_reducible exact GX.refl _ _) | (with_reducible assumption) | (with_reducible refine GX.alloc ?_ _) | (with_reducible refine GX.drew ?_) | (with_reducible refine GX.drewN ?_ _))) hgr; have hgl : g < w1.heap.size := (by have hS1 := hgr.size; (try simp at hS1); omega); have hL0 : w.heap.size < w1.heap.size := (by have hS1 := hgr.size; (try simp at hS1); omega); clear hgr)
    | (at_builtin; refine wpList_append_buf _ rfl (.tmp 9) (.tmp 10) rfl g (k + (dec (lo / 16777216 % 256)).length) cap (s ++ dec (lo / 16777216 % 256)) rfl _ 1 1 [46] rfl ?_ rfl ?_ ?_ ?_ ?_; (simp only [List.length_append, List.length_cons, List.length_nil, hs] <;> omega); omega; go_simp; go_simp; intro w1 hbuf hgr; have hk1 := blk?_gx hgr; have hX := GX.trans (g := g) (a := w) (by repeat' (first | (with_reducible exact GX.refl _ _) | (with_reducible assumption) | (with_reducible refine GX.alloc ?_ _) | (with_reducible refine GX.drew ?_) | (with_reducible refine GX.drewN ?_ _))) hgr; have hgl : g < w1.heap.size := (by have hS1 := hgr.size; (try simp at hS1); omega); have hL0 : w.heap.size < w1.heap.size := (by have hS1 := hgr.size; (try simp at hS1); omega); clear hgr)
    | (go_at_call 169; (with_reducible refine (appDec g (k + (dec (lo / 16777216 % 256)).length + 1) cap (s ++ dec (lo / 16777216 % 256) ++ [46]) ?_ (lo / 65536 % 256) (by omega) ?_ _ ?_ ?_).mono ?_); (simp only [List.length_append, List.length_cons, List.length_nil, hs] <;> omega); omega; go_simp; go_simp; rintro e w1 ⟨rfl, hbuf, hgr⟩; have hk1 := blk?_gx hgr; have hX := GX.trans (g := g) (a := w) (by repeat' (first | (with_reducible exact GX.refl _ _) | (with_reducible assumption) | (with_reducible refine GX.alloc ?_ _) | (with_reducible refine GX.drew ?_) | (with_reducible refine GX.drewN ?_ _))) hgr; have hgl : g < w1.heap.size := (by have hS1 := hgr.size; (try simp at hS1); omega); have hL0 : w.heap.size < w1.heap.size := (by have hS1 := hgr.size; (try simp at hS1); omega); clear hgr)
    | (at_builtin; refine wpList_append_buf _ rfl (.tmp 16) (.tmp 17) rfl g (k + (dec (lo / 16777216 % 256)).length + 1 + (dec (lo / 65536 % 256)).length) cap (s ++ dec (lo / 16777216 % 256) ++ [46] ++ dec (lo / 65536 % 256)) rfl _ 1 1 [46] rfl ?_ rfl ?_ ?_ ?_ ?_; (simp only [List.length_append, List.length_cons, List.length_nil, hs] <;> omega); omega; go_simp; go_simp; intro w1 hbuf hgr; have hk1 := blk?_gx hgr; have hX := GX.trans (g := g) (a := w) (by repeat' (first | (with_reducible exact GX.refl _ _) | (with_reducible assumption) | (with_reducible refine GX.alloc ?_ _) | (with_reducible refine GX.drew ?_) | (with_reducible refine GX.drewN ?_ _))) hgr; have hgl : g < w1.heap.size := (by have hS1 := hgr.size; (try simp at hS1); omega); have hL0 : w.heap.size < w1.heap.size := (by have hS1 := hgr.size; (try simp at hS1); omega); clear hgr)
    | (go_at_call 169; (with_reducible refine (appDec g (k + (dec (lo / 16777216 % 256)).length + 1 + (dec (lo / 65536 % 256)).length + 1) cap (s ++ dec (lo / 16777216 % 256) ++ [46] ++ dec (lo / 65536 % 256) ++ [46]) ?_ (lo / 256 % 256) (by omega) ?_ _ ?_ ?_).mono ?_); (simp only [List.length_append, List.length_cons, List.length_nil, hs] <;> omega); omega; go_simp; go_simp; rintro e w1 ⟨rfl, hbuf, hgr⟩; have hk1 := blk?_gx hgr; have hX := GX.trans (g := g) (a := w) (by repeat' (first | (with_reducible exact GX.refl _ _) | (with_reducible assumption) | (with_reducible refine GX.alloc ?_ _) | (with_reducible refine GX.drew ?_) | (with_reducible refine GX.drewN ?_ _))) hgr; have hgl : g < w1.heap.size := (by have hS1 := hgr.size; (try simp at hS1); omega); have hL0 : w.heap.size < w1.heap.size := (by have hS1 := hgr.size; (try simp at hS1); omega); clear hgr)
    | (at_builtin; refine wpList_append_buf _ rfl (.tmp 23) (.tmp 24) rfl g (k + (dec (lo / 16777216 % 256)).length + 1 + (dec (lo / 65536 % 256)).length + 1 + (dec (lo / 256 % 256)).length) cap (s ++ dec (lo / 16777216 % 256) ++ [46] ++ dec (lo / 65536 % 256) ++ [46] ++ dec (lo / 256 % 256)) rfl _ 1 1 [46] rfl ?_ rfl ?_ ?_ ?_ ?_; (simp only [List.length_append, List.length_cons, List.length_nil, hs] <;> omega); omega; go_simp; go_simp; intro w1 hbuf hgr; have hk1 := blk?_gx hgr; have hX := GX.trans (g := g) (a := w) (by repeat' (first | (with_reducible exact GX.refl _ _) | (with_reducible assumption) | (with_reducible refine GX.alloc ?_ _) | (with_reducible refine GX.drew ?_) | (with_reducible refine GX.drewN ?_ _))) hgr; have hgl : g < w1.heap.size := (by have hS1 := hgr.size; (try simp at hS1); omega); have hL0 : w.heap.size < w1.heap.size := (by have hS1 := hgr.size; (try simp at hS1); omega); clear hgr)
    | (go_at_call 169; (with_reducible refine (appDec g (k + (dec (lo / 16777216 % 256)).length + 1 + (dec (lo / 65536 % 256)).length + 1 + (dec (lo / 256 % 256)).length + 1) cap (s ++ dec (lo / 16777216 % 256) ++ [46] ++ dec (lo / 65536 % 256) ++ [46] ++ dec (lo / 256 % 256) ++ [46]) ?_ (lo % 256) (by omega) ?_ _ ?_ ?_).mono ?_); (simp only [List.length_append, List.length_cons, List.length_nil, hs] <;> omega); omega; go_simp; go_simp; rintro e w1 ⟨rfl, hbuf, hgr⟩; have hk1 := blk?_gx hgr; have hX := GX.trans (g := g) (a := w) (by repeat' (first | (with_reducible exact GX.refl _ _) | (with_reducible assumption) | (with_reducible refine GX.alloc ?_ _) | (with_reducible refine GX.drew ?_) | (with_reducible refine GX.drewN ?_ _))) hgr; have hgl : g < w1.heap.size := (by have hS1 := hgr.size; (try simp at hS1); omega); have hL0 : w.heap.size < w1.heap.size := (by have hS1 := hgr.size; (try simp at hS1); omega); clear hgr))
  go_ret
  refine ⟨?_, ?_, (by repeat' (first | (with_reducible exact GX.refl _ _) | (with_reducible assumption) | (with_reducible refine GX.alloc ?_ _) | (with_reducible refine GX.drew ?_) | (with_reducible refine GX.drewN ?_ _)))⟩
  · simp [dot4, Nat.add_assoc, Nat.add_comm, Nat.add_left_comm]
  · simpa [dot4, List.append_assoc] using hbuf
end Go.Proofs.YtmlkcgacneealaaDoor
