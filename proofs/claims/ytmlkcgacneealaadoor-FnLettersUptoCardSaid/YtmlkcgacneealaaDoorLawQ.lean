/- FnLengths returns true. Conditions: the listed variables as laid. -/
import Derived.Test.YtmlkcgacneealaaDoorTxt6
import Derived.Test.YtmlkcgacneealaaDoorSpc
import Derived.Test.YtmlkcgacneealaaDoorIn
import Derived.Test.YtmlkcgacneealaaDoorLawE
set_option linter.unusedVariables false
set_option linter.unusedSimpArgs false
namespace Go.Proofs.YtmlkcgacneealaaDoor
open Go.RowKit

/-- The text of an IPv4 address. -/
def t4 (lo : Int) : List Int := dot4 (lo / 16777216 % 256) (lo / 65536 % 256) (lo / 256 % 256) (lo % 256)
theorem t4_len (lo : Int) : 7 ≤ (t4 lo).length ∧ (t4 lo).length ≤ 15 := dot4_len _ _ _ _
theorem t46_len (lo : Int) : 14 ≤ (t46 lo).length ∧ (t46 lo).length ≤ 22 := by
  have := dot4_len (lo / 16777216 % 256) (lo / 65536 % 256) (lo / 256 % 256) (lo % 256)
  simp only [t46, List.length_append, List.length_cons, List.length_nil]; omega
theorem out6_len (g : Nat → Int) (zs ze : Nat) (hz : Zok g zs ze) : 2 ≤ (out6 g zs ze).length ∧ (out6 g zs ze).length ≤ 39 := by
  unfold out6
  rcases hz with ⟨h1, h2⟩ | ⟨h1, h2, _⟩
  · rw [if_pos h1]; have := js_len g 0 8; omega
  · rw [if_neg (by omega)]
    have a := js_len g 0 zs; have b := js_len g ze (8 - ze)
    simp only [List.length_append, List.length_cons, List.length_nil]; omega
/-- What String says of an IPv6 address without a zone. -/
def T6 (b : Nat → Int) (z : ByteArray) : Prop := (be8f b 0 = 0 ∧ be8f b 8 / 4294967296 = 65535 ∧ z = ba (t46 (be8f b 8))) ∨ (¬ (be8f b 0 = 0 ∧ be8f b 8 / 4294967296 = 65535) ∧ ∃ zs ze : Nat, Zok (grp (be8f b 0) (be8f b 8)) zs ze ∧ z = ba (out6 (grp (be8f b 0) (be8f b 8)) zs ze))
set_option maxHeartbeats 4000000 in
set_option maxRecDepth 100000 in
theorem iStr_4 (b : Nat → Int) (hb : Bt b) (z : ByteArray) {b4 o4 b6 o6 : Nat} (w : World) (hg : Gl b4 o4 b6 o6 w) : Calls Tryd.prog 60 #[.agg (adr 4 b z)] w fun e w' => e = .returned (.string (ba (t4 (281470681743360 + be4f b 0)))) ∧ Below w.heap.size w w' := by
  have HG := Lib.hid hg
  have HB := Lib.hid hb
  clear hg hb
  go_enter Tryd.func60, Tryd.ntmps60
  go_wp2_with (first
    | (go_at_call 78; (with_reducible refine (in_4 (b4 := b4) (o4 := o4) _ HB.out _ _ ?_).mono ?_); (exact HG.out.g4.below (by repeat' (first | (with_reducible exact Below.refl _ _) | (with_reducible assumption) | (with_reducible refine Below.alloc ?_ ?_ _) | (with_reducible refine Below.drew ?_) | (with_reducible refine below_drewN ?_ _) | (with_reducible refine Below.setCell ?_ ?_ _) | (with_reducible refine below_setRow' ?_ ?_ _) | go_size)) (Nat.le_refl _)); rintro e w1 ⟨rfl, hb1⟩; have hk1 := blk?_below hb1; (try simp only [size_drew', size_drewN'] at hk1); have hB1 := below_via (w := w) (by repeat' (first | (with_reducible exact Below.refl _ _) | (with_reducible assumption) | (with_reducible refine Below.alloc ?_ ?_ _) | (with_reducible refine Below.drew ?_) | (with_reducible refine below_drewN ?_ _) | (with_reducible refine Below.setCell ?_ ?_ _) | (with_reducible refine below_setRow' ?_ ?_ _) | go_size)) hb1; have hL0 : w.heap.size < w1.heap.size := (by have hS0 := hb1.size; (try simp at hS0); omega); have hLe : w.heap.size ≤ w1.heap.size := hB1.size; clear hb1)
    | (go_at_call 111; (with_reducible refine (str_4 (b4 := b4) (o4 := o4) _ _ (mp_lt HB.out) _ ?_).mono ?_); (exact HG.out.g4.below (by repeat' (first | (with_reducible exact Below.refl _ _) | (with_reducible assumption) | (with_reducible refine Below.alloc ?_ ?_ _) | (with_reducible refine Below.drew ?_) | (with_reducible refine below_drewN ?_ _) | (with_reducible refine Below.setCell ?_ ?_ _) | (with_reducible refine below_setRow' ?_ ?_ _) | go_size)) (Nat.le_refl _)); rintro e w1 ⟨rfl, hb1⟩; have hk1 := blk?_below hb1; (try simp only [size_drew', size_drewN'] at hk1); have hB1 := below_via (w := w) (by repeat' (first | (with_reducible exact Below.refl _ _) | (with_reducible assumption) | (with_reducible refine Below.alloc ?_ ?_ _) | (with_reducible refine Below.drew ?_) | (with_reducible refine below_drewN ?_ _) | (with_reducible refine Below.setCell ?_ ?_ _) | (with_reducible refine below_setRow' ?_ ?_ _) | go_size)) hb1; have hL0 : w.heap.size < w1.heap.size := (by have hS0 := hb1.size; (try simp at hS0); omega); have hLe : w.heap.size ≤ w1.heap.size := hB1.size; clear hb1))
  go_ret
  exact ⟨rfl, (by repeat' (first | (with_reducible exact Below.refl _ _) | (with_reducible assumption) | (with_reducible refine Below.alloc ?_ ?_ _) | (with_reducible refine Below.drew ?_) | (with_reducible refine below_drewN ?_ _) | (with_reducible refine Below.setCell ?_ ?_ _) | (with_reducible refine below_setRow' ?_ ?_ _) | go_size))⟩
set_option maxHeartbeats 4000000 in
set_option maxRecDepth 100000 in
theorem iExp_4 (b : Nat → Int) (hb : Bt b) (z : ByteArray) {b4 o4 b6 o6 : Nat} (w : World) (hg : Gl b4 o4 b6 o6 w) : Calls Tryd.prog 61 #[.agg (adr 4 b z)] w fun e w' => e = .returned (.string (ba (t4 (281470681743360 + be4f b 0)))) ∧ Below w.heap.size w w' := by
  have HG := Lib.hid hg
  have HB := Lib.hid hb
  clear hg hb
  go_enter Tryd.func61, Tryd.ntmps61
  go_wp2_with (first
    | (go_at_call 78; (with_reducible refine (in_4 (b4 := b4) (o4 := o4) _ HB.out _ _ ?_).mono ?_); (exact HG.out.g4.below (by repeat' (first | (with_reducible exact Below.refl _ _) | (with_reducible assumption) | (with_reducible refine Below.alloc ?_ ?_ _) | (with_reducible refine Below.drew ?_) | (with_reducible refine below_drewN ?_ _) | (with_reducible refine Below.setCell ?_ ?_ _) | (with_reducible refine below_setRow' ?_ ?_ _) | go_size)) (Nat.le_refl _)); rintro e w1 ⟨rfl, hb1⟩; have hk1 := blk?_below hb1; (try simp only [size_drew', size_drewN'] at hk1); have hB1 := below_via (w := w) (by repeat' (first | (with_reducible exact Below.refl _ _) | (with_reducible assumption) | (with_reducible refine Below.alloc ?_ ?_ _) | (with_reducible refine Below.drew ?_) | (with_reducible refine below_drewN ?_ _) | (with_reducible refine Below.setCell ?_ ?_ _) | (with_reducible refine below_setRow' ?_ ?_ _) | go_size)) hb1; have hL0 : w.heap.size < w1.heap.size := (by have hS0 := hb1.size; (try simp at hS0); omega); have hLe : w.heap.size ≤ w1.heap.size := hB1.size; clear hb1)
    | (go_at_call 112; (with_reducible refine (exp_4 (b4 := b4) (o4 := o4) _ _ (mp_lt HB.out) _ ?_).mono ?_); (exact HG.out.g4.below (by repeat' (first | (with_reducible exact Below.refl _ _) | (with_reducible assumption) | (with_reducible refine Below.alloc ?_ ?_ _) | (with_reducible refine Below.drew ?_) | (with_reducible refine below_drewN ?_ _) | (with_reducible refine Below.setCell ?_ ?_ _) | (with_reducible refine below_setRow' ?_ ?_ _) | go_size)) (Nat.le_refl _)); rintro e w1 ⟨rfl, hb1⟩; have hk1 := blk?_below hb1; (try simp only [size_drew', size_drewN'] at hk1); have hB1 := below_via (w := w) (by repeat' (first | (with_reducible exact Below.refl _ _) | (with_reducible assumption) | (with_reducible refine Below.alloc ?_ ?_ _) | (with_reducible refine Below.drew ?_) | (with_reducible refine below_drewN ?_ _) | (with_reducible refine Below.setCell ?_ ?_ _) | (with_reducible refine below_setRow' ?_ ?_ _) | go_size)) hb1; have hL0 : w.heap.size < w1.heap.size := (by have hS0 := hb1.size; (try simp at hS0); omega); have hLe : w.heap.size ≤ w1.heap.size := hB1.size; clear hb1))
  go_ret
  exact ⟨rfl, (by repeat' (first | (with_reducible exact Below.refl _ _) | (with_reducible assumption) | (with_reducible refine Below.alloc ?_ ?_ _) | (with_reducible refine Below.drew ?_) | (with_reducible refine below_drewN ?_ _) | (with_reducible refine Below.setCell ?_ ?_ _) | (with_reducible refine below_setRow' ?_ ?_ _) | go_size))⟩
set_option maxHeartbeats 4000000 in
set_option maxRecDepth 100000 in
theorem iStr_6t (b : Nat → Int) (hb : Bt b) (h0 : be8f b 0 = 0) (h1 : be8f b 8 / 4294967296 = 65535) {b4 o4 b6 o6 : Nat} (w : World) (hg : Gl b4 o4 b6 o6 w) : Calls Tryd.prog 60 #[.agg (adr 16 b ⟨#[]⟩)] w fun e w' => e = .returned (.string (ba (t46 (be8f b 8)))) ∧ Below w.heap.size w w' := by
  have HG := Lib.hid hg
  have HB := Lib.hid hb
  have H0 := Lib.hid h0
  have H1 := Lib.hid h1
  clear hg hb h0 h1
  go_enter Tryd.func60, Tryd.ntmps60
  go_wp2_with (first
    | (go_at_call 78; (with_reducible refine (in_16 (b4 := b4) (o4 := o4) (b6 := b6) (o6 := o6) _ HB.out _ ?_).mono ?_); (exact HG.out.below (by repeat' (first | (with_reducible exact Below.refl _ _) | (with_reducible assumption) | (with_reducible refine Below.alloc ?_ ?_ _) | (with_reducible refine Below.drew ?_) | (with_reducible refine below_drewN ?_ _) | (with_reducible refine Below.setCell ?_ ?_ _) | (with_reducible refine below_setRow' ?_ ?_ _) | go_size)) (Nat.le_refl _)); rintro e w1 ⟨rfl, hb1⟩; have hk1 := blk?_below hb1; (try simp only [size_drew', size_drewN'] at hk1); have hB1 := below_via (w := w) (by repeat' (first | (with_reducible exact Below.refl _ _) | (with_reducible assumption) | (with_reducible refine Below.alloc ?_ ?_ _) | (with_reducible refine Below.drew ?_) | (with_reducible refine below_drewN ?_ _) | (with_reducible refine Below.setCell ?_ ?_ _) | (with_reducible refine below_setRow' ?_ ?_ _) | go_size)) hb1; have hL0 : w.heap.size < w1.heap.size := (by have hS0 := hb1.size; (try simp at hS0); omega); have hLe : w.heap.size ≤ w1.heap.size := hB1.size; clear hb1)
    | (go_at_call 111; (with_reducible refine (str_6t (b4 := b4) (o4 := o4) (b6 := b6) (o6 := o6) _ _ H0.out H1.out (be8f_lt HB.out _) _ ?_).mono ?_); (exact HG.out.below (by repeat' (first | (with_reducible exact Below.refl _ _) | (with_reducible assumption) | (with_reducible refine Below.alloc ?_ ?_ _) | (with_reducible refine Below.drew ?_) | (with_reducible refine below_drewN ?_ _) | (with_reducible refine Below.setCell ?_ ?_ _) | (with_reducible refine below_setRow' ?_ ?_ _) | go_size)) (Nat.le_refl _)); rintro e w1 ⟨rfl, hb1⟩; have hk1 := blk?_below hb1; (try simp only [size_drew', size_drewN'] at hk1); have hB1 := below_via (w := w) (by repeat' (first | (with_reducible exact Below.refl _ _) | (with_reducible assumption) | (with_reducible refine Below.alloc ?_ ?_ _) | (with_reducible refine Below.drew ?_) | (with_reducible refine below_drewN ?_ _) | (with_reducible refine Below.setCell ?_ ?_ _) | (with_reducible refine below_setRow' ?_ ?_ _) | go_size)) hb1; have hL0 : w.heap.size < w1.heap.size := (by have hS0 := hb1.size; (try simp at hS0); omega); have hLe : w.heap.size ≤ w1.heap.size := hB1.size; clear hb1))
  go_ret
  exact ⟨rfl, (by repeat' (first | (with_reducible exact Below.refl _ _) | (with_reducible assumption) | (with_reducible refine Below.alloc ?_ ?_ _) | (with_reducible refine Below.drew ?_) | (with_reducible refine below_drewN ?_ _) | (with_reducible refine Below.setCell ?_ ?_ _) | (with_reducible refine below_setRow' ?_ ?_ _) | go_size))⟩
set_option maxHeartbeats 4000000 in
set_option maxRecDepth 100000 in
theorem iStr_6f (b : Nat → Int) (hb : Bt b) (hm : ¬ (be8f b 0 = 0 ∧ be8f b 8 / 4294967296 = 65535)) {b4 o4 b6 o6 : Nat} (w : World) (hg : Gl b4 o4 b6 o6 w) : Calls Tryd.prog 60 #[.agg (adr 16 b ⟨#[]⟩)] w fun e w' => (∃ zs ze : Nat, Zok (grp (be8f b 0) (be8f b 8)) zs ze ∧ e = .returned (.string (ba (out6 (grp (be8f b 0) (be8f b 8)) zs ze)))) ∧ Below w.heap.size w w' := by
  have HG := Lib.hid hg
  have HB := Lib.hid hb
  have HM := Lib.hid hm
  clear hg hb hm
  go_enter Tryd.func60, Tryd.ntmps60
  go_wp2_with (first
    | (go_at_call 78; (with_reducible refine (in_16 (b4 := b4) (o4 := o4) (b6 := b6) (o6 := o6) _ HB.out _ ?_).mono ?_); (exact HG.out.below (by repeat' (first | (with_reducible exact Below.refl _ _) | (with_reducible assumption) | (with_reducible refine Below.alloc ?_ ?_ _) | (with_reducible refine Below.drew ?_) | (with_reducible refine below_drewN ?_ _) | (with_reducible refine Below.setCell ?_ ?_ _) | (with_reducible refine below_setRow' ?_ ?_ _) | go_size)) (Nat.le_refl _)); rintro e w1 ⟨rfl, hb1⟩; have hk1 := blk?_below hb1; (try simp only [size_drew', size_drewN'] at hk1); have hB1 := below_via (w := w) (by repeat' (first | (with_reducible exact Below.refl _ _) | (with_reducible assumption) | (with_reducible refine Below.alloc ?_ ?_ _) | (with_reducible refine Below.drew ?_) | (with_reducible refine below_drewN ?_ _) | (with_reducible refine Below.setCell ?_ ?_ _) | (with_reducible refine below_setRow' ?_ ?_ _) | go_size)) hb1; have hL0 : w.heap.size < w1.heap.size := (by have hS0 := hb1.size; (try simp at hS0); omega); have hLe : w.heap.size ≤ w1.heap.size := hB1.size; clear hb1)
    | (go_at_call 111; (with_reducible refine (str_6 (b4 := b4) (o4 := o4) (b6 := b6) (o6 := o6) _ _ (be8f_lt HB.out _) (be8f_lt HB.out _) HM.out _ ?_).mono ?_); (exact HG.out.below (by repeat' (first | (with_reducible exact Below.refl _ _) | (with_reducible assumption) | (with_reducible refine Below.alloc ?_ ?_ _) | (with_reducible refine Below.drew ?_) | (with_reducible refine below_drewN ?_ _) | (with_reducible refine Below.setCell ?_ ?_ _) | (with_reducible refine below_setRow' ?_ ?_ _) | go_size)) (Nat.le_refl _)); rintro e w1 ⟨⟨zs, ze, hz, rfl⟩, hb1⟩; have hk1 := blk?_below hb1; (try simp only [size_drew', size_drewN'] at hk1); have hB1 := below_via (w := w) (by repeat' (first | (with_reducible exact Below.refl _ _) | (with_reducible assumption) | (with_reducible refine Below.alloc ?_ ?_ _) | (with_reducible refine Below.drew ?_) | (with_reducible refine below_drewN ?_ _) | (with_reducible refine Below.setCell ?_ ?_ _) | (with_reducible refine below_setRow' ?_ ?_ _) | go_size)) hb1; have hL0 : w.heap.size < w1.heap.size := (by have hS0 := hb1.size; (try simp at hS0); omega); have hLe : w.heap.size ≤ w1.heap.size := hB1.size; clear hb1))
  go_ret
  exact ⟨⟨zs, ze, hz, rfl⟩, (by repeat' (first | (with_reducible exact Below.refl _ _) | (with_reducible assumption) | (with_reducible refine Below.alloc ?_ ?_ _) | (with_reducible refine Below.drew ?_) | (with_reducible refine below_drewN ?_ _) | (with_reducible refine Below.setCell ?_ ?_ _) | (with_reducible refine below_setRow' ?_ ?_ _) | go_size))⟩
set_option maxHeartbeats 4000000 in
set_option maxRecDepth 100000 in
theorem iExp_6 (b : Nat → Int) (hb : Bt b) {b4 o4 b6 o6 : Nat} (w : World) (hg : Gl b4 o4 b6 o6 w) : Calls Tryd.prog 61 #[.agg (adr 16 b ⟨#[]⟩)] w fun e w' => e = .returned (.string (ba (jp (grp (be8f b 0) (be8f b 8)) 8))) ∧ Below w.heap.size w w' := by
  have HG := Lib.hid hg
  have HB := Lib.hid hb
  clear hg hb
  go_enter Tryd.func61, Tryd.ntmps61
  go_wp2_with (first
    | (go_at_call 78; (with_reducible refine (in_16 (b4 := b4) (o4 := o4) (b6 := b6) (o6 := o6) _ HB.out _ ?_).mono ?_); (exact HG.out.below (by repeat' (first | (with_reducible exact Below.refl _ _) | (with_reducible assumption) | (with_reducible refine Below.alloc ?_ ?_ _) | (with_reducible refine Below.drew ?_) | (with_reducible refine below_drewN ?_ _) | (with_reducible refine Below.setCell ?_ ?_ _) | (with_reducible refine below_setRow' ?_ ?_ _) | go_size)) (Nat.le_refl _)); rintro e w1 ⟨rfl, hb1⟩; have hk1 := blk?_below hb1; (try simp only [size_drew', size_drewN'] at hk1); have hB1 := below_via (w := w) (by repeat' (first | (with_reducible exact Below.refl _ _) | (with_reducible assumption) | (with_reducible refine Below.alloc ?_ ?_ _) | (with_reducible refine Below.drew ?_) | (with_reducible refine below_drewN ?_ _) | (with_reducible refine Below.setCell ?_ ?_ _) | (with_reducible refine below_setRow' ?_ ?_ _) | go_size)) hb1; have hL0 : w.heap.size < w1.heap.size := (by have hS0 := hb1.size; (try simp at hS0); omega); have hLe : w.heap.size ≤ w1.heap.size := hB1.size; clear hb1)
    | (go_at_call 112; (with_reducible refine (exp_6 (b4 := b4) (o4 := o4) (b6 := b6) (o6 := o6) _ _ (be8f_lt HB.out _) (be8f_lt HB.out _) _ ?_).mono ?_); (exact HG.out.below (by repeat' (first | (with_reducible exact Below.refl _ _) | (with_reducible assumption) | (with_reducible refine Below.alloc ?_ ?_ _) | (with_reducible refine Below.drew ?_) | (with_reducible refine below_drewN ?_ _) | (with_reducible refine Below.setCell ?_ ?_ _) | (with_reducible refine below_setRow' ?_ ?_ _) | go_size)) (Nat.le_refl _)); rintro e w1 ⟨rfl, hb1⟩; have hk1 := blk?_below hb1; (try simp only [size_drew', size_drewN'] at hk1); have hB1 := below_via (w := w) (by repeat' (first | (with_reducible exact Below.refl _ _) | (with_reducible assumption) | (with_reducible refine Below.alloc ?_ ?_ _) | (with_reducible refine Below.drew ?_) | (with_reducible refine below_drewN ?_ _) | (with_reducible refine Below.setCell ?_ ?_ _) | (with_reducible refine below_setRow' ?_ ?_ _) | go_size)) hb1; have hL0 : w.heap.size < w1.heap.size := (by have hS0 := hb1.size; (try simp at hS0); omega); have hLe : w.heap.size ≤ w1.heap.size := hB1.size; clear hb1))
  go_ret
  exact ⟨rfl, (by repeat' (first | (with_reducible exact Below.refl _ _) | (with_reducible assumption) | (with_reducible refine Below.alloc ?_ ?_ _) | (with_reducible refine Below.drew ?_) | (with_reducible refine below_drewN ?_ _) | (with_reducible refine Below.setCell ?_ ?_ _) | (with_reducible refine below_setRow' ?_ ?_ _) | go_size))⟩
theorem iStr_6 (b : Nat → Int) (hb : Bt b) {b4 o4 b6 o6 : Nat} (w : World) (hg : Gl b4 o4 b6 o6 w) : Calls Tryd.prog 60 #[.agg (adr 16 b ⟨#[]⟩)] w fun e w' => (∃ z, T6 b z ∧ e = .returned (.string z)) ∧ Below w.heap.size w w' := by
  by_cases h : be8f b 0 = 0 ∧ be8f b 8 / 4294967296 = 65535
  · exact (iStr_6t b hb h.1 h.2 w hg).mono fun e w' ⟨he, hB⟩ => ⟨⟨_, Or.inl ⟨h.1, h.2, rfl⟩, he⟩, hB⟩
  · exact (iStr_6f b hb h w hg).mono fun e w' ⟨⟨zs, ze, hz, he⟩, hB⟩ => ⟨⟨_, Or.inr ⟨h, zs, ze, hz, rfl⟩, he⟩, hB⟩
theorem T6_size {b : Nat → Int} {z : ByteArray} (h : T6 b z) : 2 ≤ z.size ∧ z.size ≤ 39 := by
  rcases h with ⟨_, _, rfl⟩ | ⟨_, zs, ze, hz, rfl⟩
  · rw [ba_size]; have := t46_len (be8f b 8); omega
  · rw [ba_size]; exact out6_len _ _ _ hz
set_option maxHeartbeats 4000000 in
set_option maxRecDepth 100000 in
theorem law16_0w (n : Int) (h4 : n ≠ 4) (h16 : n ≠ 16) (b : Nat → Int) (z : ByteArray) {b4 o4 b6 o6 : Nat} (w : World) (hg : Gl b4 o4 b6 o6 w)
    (hS : ∀ w, Gl b4 o4 b6 o6 w → Calls Tryd.prog 60 #[.agg (adr 0 zb ⟨#[]⟩)] w fun e w' => (∃ z : ByteArray, (True) ∧ e = .returned (.string z)) ∧ Below w.heap.size w w')
    (hE : ∀ w, Gl b4 o4 b6 o6 w → Calls Tryd.prog 61 #[.agg (adr 0 zb ⟨#[]⟩)] w fun e w' => (∃ z : ByteArray, (True) ∧ e = .returned (.string z)) ∧ Below w.heap.size w w') :
    Calls Tryd.prog 16 #[.agg (adr n b z)] w fun e w' => e = .returned (.bool true) ∧ Below w.heap.size w w' := by
  have HG := Lib.hid hg
  have HS := Lib.hid hS
  have HE := Lib.hid hE
  clear hg hS hE
  go_enter Tryd.func16, Tryd.ntmps16
  go_upto_region 2 with (first
    | (go_at_call 52; (with_reducible refine (bare_0 n h4 h16 _ _ _).mono ?_); rintro e w1 ⟨rfl, hb1⟩; have hk1 := blk?_below hb1; (try simp only [size_drew', size_drewN'] at hk1); have hB1 := below_via (w := w) (by repeat' (first | (with_reducible exact Below.refl _ _) | (with_reducible assumption) | (with_reducible refine Below.alloc ?_ ?_ _) | (with_reducible refine Below.drew ?_) | (with_reducible refine below_drewN ?_ _) | (with_reducible refine Below.setCell ?_ ?_ _) | (with_reducible refine below_setRow' ?_ ?_ _) | go_size)) hb1; have hL0 : w.heap.size < w1.heap.size := (by have hS0 := hb1.size; (try simp at hS0); omega); have hLe : w.heap.size ≤ w1.heap.size := hB1.size; clear hb1))
  have k0 : blk? (w1.setRow w.heap.size (adr 0 zb ⟨#[]⟩)) w.heap.size = some (adr 0 zb ⟨#[]⟩) := by go_simp
  refine wp_region_held_drew (S := fun w' => blk? w' (w.heap.size) = some (adr 0 zb ⟨#[]⟩)) (by kernel_rfl) ?_ (fun hHeld0 => ?_)
  · ((try dsimp only); go_simp)
  refine wpAnyH_take (i := 0) (oi := _) (v := ?_) rfl (by kernel_rfl) (by kernel_rfl) (by kernel_rfl) (fun _ _ _ h => h) (Or.inl ⟨by rfl, ?_⟩) (by assumption) ?_
  rotate_left 1
  · (intro w hSw; (try dsimp only at hSw); (try simp only [List.getElem_toArray, List.getElem_cons_succ, List.getElem_cons_zero]); first | (go_simp; done) | (go_simp; with_reducible rfl))
  (try simp only [Act.put, List.setIfInBounds_toArray, List.set_cons_zero, List.set_cons_succ, List.getElem_toArray, List.getElem_cons_succ, List.getElem_cons_zero])
  refine wpAnyH_take (i := 3) (oi := _) (v := ?_) rfl (by kernel_rfl) (by kernel_rfl) (by kernel_rfl) (fun _ _ _ h => h) (Or.inl ⟨by rfl, ?_⟩) (by assumption) ?_
  rotate_left 1
  · (intro w hSw; (try dsimp only at hSw); (try simp only [List.getElem_toArray, List.getElem_cons_succ, List.getElem_cons_zero]); first | (go_simp; done) | (go_simp; with_reducible rfl))
  (try simp only [Act.put, List.setIfInBounds_toArray, List.set_cons_zero, List.set_cons_succ, List.getElem_toArray, List.getElem_cons_succ, List.getElem_cons_zero])
  refine wpAnyH_ready (rs := [1]) (by kernel_rfl) (by simp) (AllReadyH.cons rfl (fun K hK => ?_) AllReadyH.nil)
  go_simp
  go_wp2_with (first
    | (go_at_call 60; (with_reducible refine (HS.out _ ?_).mono ?_); (exact HG.out.below (by repeat' (first | (with_reducible exact Below.refl _ _) | (with_reducible assumption) | (with_reducible refine Below.alloc ?_ ?_ _) | (with_reducible refine Below.drew ?_) | (with_reducible refine below_drewN ?_ _) | (with_reducible refine Below.setCell ?_ ?_ _) | (with_reducible refine below_setRow' ?_ ?_ _) | go_size)) (Nat.le_refl _)); rintro e wS ⟨⟨z1, hz1, rfl⟩, hb1⟩; have hk1 := blk?_below hb1; (try simp only [size_drew', size_drewN'] at hk1); have hB1 := below_via (w := w) (by repeat' (first | (with_reducible exact Below.refl _ _) | (with_reducible assumption) | (with_reducible refine Below.alloc ?_ ?_ _) | (with_reducible refine Below.drew ?_) | (with_reducible refine below_drewN ?_ _) | (with_reducible refine Below.setCell ?_ ?_ _) | (with_reducible refine below_setRow' ?_ ?_ _) | go_size)) hb1; have hL0 : w.heap.size < wS.heap.size := (by have hS0 := hb1.size; (try simp at hS0); omega); have hLe : w.heap.size ≤ wS.heap.size := hB1.size; clear hb1))
  refine hK.out _ _ ?_ (fun hHeld1 => ?_)
  · ((try dsimp only); go_simp)
  clear hK K hHeld0
  (try simp only [Act.put, List.setIfInBounds_toArray, List.set_cons_zero, List.set_cons_succ, List.getElem_toArray, List.getElem_cons_succ, List.getElem_cons_zero])
  refine wpAnyH_take (i := 2) (oi := _) (v := ?_) rfl (by kernel_rfl) (by kernel_rfl) (by kernel_rfl) (fun _ _ _ h => h) (Or.inl ⟨by rfl, ?_⟩) (by assumption) ?_
  rotate_left 1
  · (intro w hSw; (try dsimp only at hSw); (try simp only [List.getElem_toArray, List.getElem_cons_succ, List.getElem_cons_zero]); first | (go_simp; done) | (go_simp; with_reducible rfl))
  (try simp only [Act.put, List.setIfInBounds_toArray, List.set_cons_zero, List.set_cons_succ, List.getElem_toArray, List.getElem_cons_succ, List.getElem_cons_zero])
  refine wpAnyH_ready (rs := [4]) (by kernel_rfl) (by simp) (AllReadyH.cons rfl (fun K hK => ?_) AllReadyH.nil)
  go_simp
  go_wp2_with (first
    | (go_at_call 61; (with_reducible refine (HE.out _ ?_).mono ?_); (exact HG.out.below (by repeat' (first | (with_reducible exact Below.refl _ _) | (with_reducible assumption) | (with_reducible refine Below.alloc ?_ ?_ _) | (with_reducible refine Below.drew ?_) | (with_reducible refine below_drewN ?_ _) | (with_reducible refine Below.setCell ?_ ?_ _) | (with_reducible refine below_setRow' ?_ ?_ _) | go_size)) (Nat.le_refl _)); rintro e wE ⟨⟨z2, hz2, rfl⟩, hb1⟩; have hk1 := blk?_below hb1; (try simp only [size_drew', size_drewN'] at hk1); have hB1 := below_via (w := w) (by repeat' (first | (with_reducible exact Below.refl _ _) | (with_reducible assumption) | (with_reducible refine Below.alloc ?_ ?_ _) | (with_reducible refine Below.drew ?_) | (with_reducible refine below_drewN ?_ _) | (with_reducible refine Below.setCell ?_ ?_ _) | (with_reducible refine below_setRow' ?_ ?_ _) | go_size)) hb1; have hL0 : w.heap.size < wE.heap.size := (by have hS0 := hb1.size; (try simp at hS0); omega); have hLe : w.heap.size ≤ wE.heap.size := hB1.size; clear hb1))
  refine hK.out _ _ ?_ (fun hHeld2 => ?_)
  · ((try dsimp only); go_simp)
  clear hK K hHeld1
  (try simp only [Act.put, List.setIfInBounds_toArray, List.set_cons_zero, List.set_cons_succ, List.getElem_toArray, List.getElem_cons_succ, List.getElem_cons_zero])
  refine wpAnyH_take (i := 5) (oi := _) (v := ?_) rfl (by kernel_rfl) (by kernel_rfl) (by kernel_rfl) (fun _ _ _ h => h) (Or.inl ⟨by rfl, ?_⟩) (by assumption) ?_
  rotate_left 1
  · (intro w hSw; (try dsimp only at hSw); (try simp only [List.getElem_toArray, List.getElem_cons_succ, List.getElem_cons_zero]); first | (go_simp; done) | (go_simp; with_reducible rfl))
  (try simp only [Act.put, List.setIfInBounds_toArray, List.set_cons_zero, List.set_cons_succ, List.getElem_toArray, List.getElem_cons_succ, List.getElem_cons_zero])
  refine wpAnyH_take (i := 6) (oi := _) (v := ?_) rfl (by kernel_rfl) (by kernel_rfl) (by kernel_rfl) (fun _ _ _ h => h) (Or.inl ⟨by rfl, ?_⟩) (by assumption) ?_
  rotate_left 1
  · (intro w hSw; (try dsimp only at hSw); (try simp only [List.getElem_toArray, List.getElem_cons_succ, List.getElem_cons_zero]); first | (go_simp; done) | (go_simp; with_reducible rfl))
  (try simp only [Act.put, List.setIfInBounds_toArray, List.set_cons_zero, List.set_cons_succ, List.getElem_toArray, List.getElem_cons_succ, List.getElem_cons_zero])
  refine wpAnyH_take (i := 7) (oi := _) (v := ?_) rfl (by kernel_rfl) (by kernel_rfl) (by kernel_rfl) (fun _ _ _ h => h) (Or.inl ⟨by rfl, ?_⟩) (by assumption) ?_
  rotate_left 1
  · (intro w hSw; (try dsimp only at hSw); (try simp only [List.getElem_toArray, List.getElem_cons_succ, List.getElem_cons_zero]); first | (go_simp; done) | (go_simp; with_reducible rfl))
  (try simp only [Act.put, List.setIfInBounds_toArray, List.set_cons_zero, List.set_cons_succ, List.getElem_toArray, List.getElem_cons_succ, List.getElem_cons_zero])
  refine wpAnyH_done (by kernel_rfl) ?_ _
  have kk : blk? wE w.heap.size = some (adr 0 zb ⟨#[]⟩) := by go_simp
  go_wp2_with (first
    | (go_at_call 36; (with_reducible refine (valid_0 0 (by omega) (by omega) _ _ _).mono ?_); rintro e w5 ⟨rfl, hb1⟩; have hk1 := blk?_below hb1; (try simp only [size_drew', size_drewN'] at hk1); have hB1 := below_via (w := w) (by repeat' (first | (with_reducible exact Below.refl _ _) | (with_reducible assumption) | (with_reducible refine Below.alloc ?_ ?_ _) | (with_reducible refine Below.drew ?_) | (with_reducible refine below_drewN ?_ _) | (with_reducible refine Below.setCell ?_ ?_ _) | (with_reducible refine below_setRow' ?_ ?_ _) | go_size)) hb1; have hL0 : w.heap.size < w5.heap.size := (by have hS0 := hb1.size; (try simp at hS0); omega); have hLe : w.heap.size ≤ w5.heap.size := hB1.size; clear hb1))
  go_ret
  exact ⟨rfl, (by repeat' (first | (with_reducible exact Below.refl _ _) | (with_reducible assumption) | (with_reducible refine Below.alloc ?_ ?_ _) | (with_reducible refine Below.drew ?_) | (with_reducible refine below_drewN ?_ _) | (with_reducible refine Below.setCell ?_ ?_ _) | (with_reducible refine below_setRow' ?_ ?_ _) | go_size))⟩
set_option maxHeartbeats 4000000 in
set_option maxRecDepth 100000 in
theorem law16_4w (b : Nat → Int) (z : ByteArray) (Z : ByteArray) (hZ : 7 ≤ Z.size ∧ Z.size ≤ 15) {b4 o4 b6 o6 : Nat} (w : World) (hg : Gl b4 o4 b6 o6 w)
    (hS : ∀ w, Gl b4 o4 b6 o6 w → Calls Tryd.prog 60 #[.agg (adr 4 (pre 4 b) ⟨#[]⟩)] w fun e w' => (∃ z : ByteArray, (z = Z) ∧ e = .returned (.string z)) ∧ Below w.heap.size w w')
    (hE : ∀ w, Gl b4 o4 b6 o6 w → Calls Tryd.prog 61 #[.agg (adr 4 (pre 4 b) ⟨#[]⟩)] w fun e w' => (∃ z : ByteArray, (z = Z) ∧ e = .returned (.string z)) ∧ Below w.heap.size w w') :
    Calls Tryd.prog 16 #[.agg (adr 4 b z)] w fun e w' => e = .returned (.bool true) ∧ Below w.heap.size w w' := by
  have HG := Lib.hid hg
  have HS := Lib.hid hS
  have HE := Lib.hid hE
  clear hg hS hE
  go_enter Tryd.func16, Tryd.ntmps16
  go_upto_region 2 with (first
    | (go_at_call 52; (with_reducible refine (bare_4 _ _ _).mono ?_); rintro e w1 ⟨rfl, hb1⟩; have hk1 := blk?_below hb1; (try simp only [size_drew', size_drewN'] at hk1); have hB1 := below_via (w := w) (by repeat' (first | (with_reducible exact Below.refl _ _) | (with_reducible assumption) | (with_reducible refine Below.alloc ?_ ?_ _) | (with_reducible refine Below.drew ?_) | (with_reducible refine below_drewN ?_ _) | (with_reducible refine Below.setCell ?_ ?_ _) | (with_reducible refine below_setRow' ?_ ?_ _) | go_size)) hb1; have hL0 : w.heap.size < w1.heap.size := (by have hS0 := hb1.size; (try simp at hS0); omega); have hLe : w.heap.size ≤ w1.heap.size := hB1.size; clear hb1))
  have k0 : blk? (w1.setRow w.heap.size (adr 4 (pre 4 b) ⟨#[]⟩)) w.heap.size = some (adr 4 (pre 4 b) ⟨#[]⟩) := by go_simp
  refine wp_region_held_drew (S := fun w' => blk? w' (w.heap.size) = some (adr 4 (pre 4 b) ⟨#[]⟩)) (by kernel_rfl) ?_ (fun hHeld0 => ?_)
  · ((try dsimp only); go_simp)
  refine wpAnyH_take (i := 0) (oi := _) (v := ?_) rfl (by kernel_rfl) (by kernel_rfl) (by kernel_rfl) (fun _ _ _ h => h) (Or.inl ⟨by rfl, ?_⟩) (by assumption) ?_
  rotate_left 1
  · (intro w hSw; (try dsimp only at hSw); (try simp only [List.getElem_toArray, List.getElem_cons_succ, List.getElem_cons_zero]); first | (go_simp; done) | (go_simp; with_reducible rfl))
  (try simp only [Act.put, List.setIfInBounds_toArray, List.set_cons_zero, List.set_cons_succ, List.getElem_toArray, List.getElem_cons_succ, List.getElem_cons_zero])
  refine wpAnyH_take (i := 3) (oi := _) (v := ?_) rfl (by kernel_rfl) (by kernel_rfl) (by kernel_rfl) (fun _ _ _ h => h) (Or.inl ⟨by rfl, ?_⟩) (by assumption) ?_
  rotate_left 1
  · (intro w hSw; (try dsimp only at hSw); (try simp only [List.getElem_toArray, List.getElem_cons_succ, List.getElem_cons_zero]); first | (go_simp; done) | (go_simp; with_reducible rfl))
  (try simp only [Act.put, List.setIfInBounds_toArray, List.set_cons_zero, List.set_cons_succ, List.getElem_toArray, List.getElem_cons_succ, List.getElem_cons_zero])
  refine wpAnyH_ready (rs := [1]) (by kernel_rfl) (by simp) (AllReadyH.cons rfl (fun K hK => ?_) AllReadyH.nil)
  go_simp
  go_wp2_with (first
    | (go_at_call 60; (with_reducible refine (HS.out _ ?_).mono ?_); (exact HG.out.below (by repeat' (first | (with_reducible exact Below.refl _ _) | (with_reducible assumption) | (with_reducible refine Below.alloc ?_ ?_ _) | (with_reducible refine Below.drew ?_) | (with_reducible refine below_drewN ?_ _) | (with_reducible refine Below.setCell ?_ ?_ _) | (with_reducible refine below_setRow' ?_ ?_ _) | go_size)) (Nat.le_refl _)); rintro e wS ⟨⟨z1, hz1, rfl⟩, hb1⟩; have hk1 := blk?_below hb1; (try simp only [size_drew', size_drewN'] at hk1); have hB1 := below_via (w := w) (by repeat' (first | (with_reducible exact Below.refl _ _) | (with_reducible assumption) | (with_reducible refine Below.alloc ?_ ?_ _) | (with_reducible refine Below.drew ?_) | (with_reducible refine below_drewN ?_ _) | (with_reducible refine Below.setCell ?_ ?_ _) | (with_reducible refine below_setRow' ?_ ?_ _) | go_size)) hb1; have hL0 : w.heap.size < wS.heap.size := (by have hS0 := hb1.size; (try simp at hS0); omega); have hLe : w.heap.size ≤ wS.heap.size := hB1.size; clear hb1))
  refine hK.out _ _ ?_ (fun hHeld1 => ?_)
  · ((try dsimp only); go_simp)
  clear hK K hHeld0
  (try simp only [Act.put, List.setIfInBounds_toArray, List.set_cons_zero, List.set_cons_succ, List.getElem_toArray, List.getElem_cons_succ, List.getElem_cons_zero])
  refine wpAnyH_take (i := 2) (oi := _) (v := ?_) rfl (by kernel_rfl) (by kernel_rfl) (by kernel_rfl) (fun _ _ _ h => h) (Or.inl ⟨by rfl, ?_⟩) (by assumption) ?_
  rotate_left 1
  · (intro w hSw; (try dsimp only at hSw); (try simp only [List.getElem_toArray, List.getElem_cons_succ, List.getElem_cons_zero]); first | (go_simp; done) | (go_simp; with_reducible rfl))
  (try simp only [Act.put, List.setIfInBounds_toArray, List.set_cons_zero, List.set_cons_succ, List.getElem_toArray, List.getElem_cons_succ, List.getElem_cons_zero])
  refine wpAnyH_ready (rs := [4]) (by kernel_rfl) (by simp) (AllReadyH.cons rfl (fun K hK => ?_) AllReadyH.nil)
  go_simp
  go_wp2_with (first
    | (go_at_call 61; (with_reducible refine (HE.out _ ?_).mono ?_); (exact HG.out.below (by repeat' (first | (with_reducible exact Below.refl _ _) | (with_reducible assumption) | (with_reducible refine Below.alloc ?_ ?_ _) | (with_reducible refine Below.drew ?_) | (with_reducible refine below_drewN ?_ _) | (with_reducible refine Below.setCell ?_ ?_ _) | (with_reducible refine below_setRow' ?_ ?_ _) | go_size)) (Nat.le_refl _)); rintro e wE ⟨⟨z2, hz2, rfl⟩, hb1⟩; have hk1 := blk?_below hb1; (try simp only [size_drew', size_drewN'] at hk1); have hB1 := below_via (w := w) (by repeat' (first | (with_reducible exact Below.refl _ _) | (with_reducible assumption) | (with_reducible refine Below.alloc ?_ ?_ _) | (with_reducible refine Below.drew ?_) | (with_reducible refine below_drewN ?_ _) | (with_reducible refine Below.setCell ?_ ?_ _) | (with_reducible refine below_setRow' ?_ ?_ _) | go_size)) hb1; have hL0 : w.heap.size < wE.heap.size := (by have hS0 := hb1.size; (try simp at hS0); omega); have hLe : w.heap.size ≤ wE.heap.size := hB1.size; clear hb1))
  refine hK.out _ _ ?_ (fun hHeld2 => ?_)
  · ((try dsimp only); go_simp)
  clear hK K hHeld1
  (try simp only [Act.put, List.setIfInBounds_toArray, List.set_cons_zero, List.set_cons_succ, List.getElem_toArray, List.getElem_cons_succ, List.getElem_cons_zero])
  refine wpAnyH_take (i := 5) (oi := _) (v := ?_) rfl (by kernel_rfl) (by kernel_rfl) (by kernel_rfl) (fun _ _ _ h => h) (Or.inl ⟨by rfl, ?_⟩) (by assumption) ?_
  rotate_left 1
  · (intro w hSw; (try dsimp only at hSw); (try simp only [List.getElem_toArray, List.getElem_cons_succ, List.getElem_cons_zero]); first | (go_simp; done) | (go_simp; with_reducible rfl))
  (try simp only [Act.put, List.setIfInBounds_toArray, List.set_cons_zero, List.set_cons_succ, List.getElem_toArray, List.getElem_cons_succ, List.getElem_cons_zero])
  refine wpAnyH_take (i := 6) (oi := _) (v := ?_) rfl (by kernel_rfl) (by kernel_rfl) (by kernel_rfl) (fun _ _ _ h => h) (Or.inl ⟨by rfl, ?_⟩) (by assumption) ?_
  rotate_left 1
  · (intro w hSw; (try dsimp only at hSw); (try simp only [List.getElem_toArray, List.getElem_cons_succ, List.getElem_cons_zero]); first | (go_simp; done) | (go_simp; with_reducible rfl))
  (try simp only [Act.put, List.setIfInBounds_toArray, List.set_cons_zero, List.set_cons_succ, List.getElem_toArray, List.getElem_cons_succ, List.getElem_cons_zero])
  refine wpAnyH_take (i := 7) (oi := _) (v := ?_) rfl (by kernel_rfl) (by kernel_rfl) (by kernel_rfl) (fun _ _ _ h => h) (Or.inl ⟨by rfl, ?_⟩) (by assumption) ?_
  rotate_left 1
  · (intro w hSw; (try dsimp only at hSw); (try simp only [List.getElem_toArray, List.getElem_cons_succ, List.getElem_cons_zero]); first | (go_simp; done) | (go_simp; with_reducible rfl))
  (try simp only [Act.put, List.setIfInBounds_toArray, List.set_cons_zero, List.set_cons_succ, List.getElem_toArray, List.getElem_cons_succ, List.getElem_cons_zero])
  refine wpAnyH_done (by kernel_rfl) ?_ _
  have kk : blk? wE w.heap.size = some (adr 4 (pre 4 b) ⟨#[]⟩) := by go_simp
  have q1 : (7 : Int) ≤ ((Z.size : Nat) : Int) := by omega
  have q2 : ((Z.size : Nat) : Int) ≤ 15 := by omega
  subst hz1
  subst hz2
  go_upto_region 5 with (first
    | (go_at_call 36; (with_reducible refine (valid_4 _ _ _).mono ?_); rintro e w5 ⟨rfl, hb1⟩; have hk1 := blk?_below hb1; (try simp only [size_drew', size_drewN'] at hk1); have hB1 := below_via (w := w) (by repeat' (first | (with_reducible exact Below.refl _ _) | (with_reducible assumption) | (with_reducible refine Below.alloc ?_ ?_ _) | (with_reducible refine Below.drew ?_) | (with_reducible refine below_drewN ?_ _) | (with_reducible refine Below.setCell ?_ ?_ _) | (with_reducible refine below_setRow' ?_ ?_ _) | go_size)) hb1; have hL0 : w.heap.size < w5.heap.size := (by have hS0 := hb1.size; (try simp at hS0); omega); have hLe : w.heap.size ≤ w5.heap.size := hB1.size; clear hb1))
  have k5 : blk? w5 w.heap.size = some (adr 4 (pre 4 b) ⟨#[]⟩) := by go_simp
  have hc5 : w5.cell? ⟨w.heap.size, 0, none⟩ = some (.int .i64 4) := by rw [blk?_cell k5]; rfl
  go_wp2
  go_ret
  exact ⟨rfl, (by repeat' (first | (with_reducible exact Below.refl _ _) | (with_reducible assumption) | (with_reducible refine Below.alloc ?_ ?_ _) | (with_reducible refine Below.drew ?_) | (with_reducible refine below_drewN ?_ _) | (with_reducible refine Below.setCell ?_ ?_ _) | (with_reducible refine below_setRow' ?_ ?_ _) | go_size))⟩
set_option maxHeartbeats 4000000 in
set_option maxRecDepth 100000 in
theorem law16_16w (b : Nat → Int) (z : ByteArray) {b4 o4 b6 o6 : Nat} (w : World) (hg : Gl b4 o4 b6 o6 w)
    (hS : ∀ w, Gl b4 o4 b6 o6 w → Calls Tryd.prog 60 #[.agg (adr 16 b ⟨#[]⟩)] w fun e w' => (∃ z : ByteArray, (2 ≤ z.size ∧ z.size ≤ 39) ∧ e = .returned (.string z)) ∧ Below w.heap.size w w')
    (hE : ∀ w, Gl b4 o4 b6 o6 w → Calls Tryd.prog 61 #[.agg (adr 16 b ⟨#[]⟩)] w fun e w' => (∃ z : ByteArray, (z.size = 39) ∧ e = .returned (.string z)) ∧ Below w.heap.size w w') :
    Calls Tryd.prog 16 #[.agg (adr 16 b z)] w fun e w' => e = .returned (.bool true) ∧ Below w.heap.size w w' := by
  have HG := Lib.hid hg
  have HS := Lib.hid hS
  have HE := Lib.hid hE
  clear hg hS hE
  go_enter Tryd.func16, Tryd.ntmps16
  go_upto_region 2 with (first
    | (go_at_call 52; (with_reducible refine (bare_16 _ _ _).mono ?_); rintro e w1 ⟨rfl, hb1⟩; have hk1 := blk?_below hb1; (try simp only [size_drew', size_drewN'] at hk1); have hB1 := below_via (w := w) (by repeat' (first | (with_reducible exact Below.refl _ _) | (with_reducible assumption) | (with_reducible refine Below.alloc ?_ ?_ _) | (with_reducible refine Below.drew ?_) | (with_reducible refine below_drewN ?_ _) | (with_reducible refine Below.setCell ?_ ?_ _) | (with_reducible refine below_setRow' ?_ ?_ _) | go_size)) hb1; have hL0 : w.heap.size < w1.heap.size := (by have hS0 := hb1.size; (try simp at hS0); omega); have hLe : w.heap.size ≤ w1.heap.size := hB1.size; clear hb1))
  have k0 : blk? (w1.setRow w.heap.size (adr 16 b ⟨#[]⟩)) w.heap.size = some (adr 16 b ⟨#[]⟩) := by go_simp
  refine wp_region_held_drew (S := fun w' => blk? w' (w.heap.size) = some (adr 16 b ⟨#[]⟩)) (by kernel_rfl) ?_ (fun hHeld0 => ?_)
  · ((try dsimp only); go_simp)
  refine wpAnyH_take (i := 0) (oi := _) (v := ?_) rfl (by kernel_rfl) (by kernel_rfl) (by kernel_rfl) (fun _ _ _ h => h) (Or.inl ⟨by rfl, ?_⟩) (by assumption) ?_
  rotate_left 1
  · (intro w hSw; (try dsimp only at hSw); (try simp only [List.getElem_toArray, List.getElem_cons_succ, List.getElem_cons_zero]); first | (go_simp; done) | (go_simp; with_reducible rfl))
  (try simp only [Act.put, List.setIfInBounds_toArray, List.set_cons_zero, List.set_cons_succ, List.getElem_toArray, List.getElem_cons_succ, List.getElem_cons_zero])
  refine wpAnyH_take (i := 3) (oi := _) (v := ?_) rfl (by kernel_rfl) (by kernel_rfl) (by kernel_rfl) (fun _ _ _ h => h) (Or.inl ⟨by rfl, ?_⟩) (by assumption) ?_
  rotate_left 1
  · (intro w hSw; (try dsimp only at hSw); (try simp only [List.getElem_toArray, List.getElem_cons_succ, List.getElem_cons_zero]); first | (go_simp; done) | (go_simp; with_reducible rfl))
  (try simp only [Act.put, List.setIfInBounds_toArray, List.set_cons_zero, List.set_cons_succ, List.getElem_toArray, List.getElem_cons_succ, List.getElem_cons_zero])
  refine wpAnyH_ready (rs := [1]) (by kernel_rfl) (by simp) (AllReadyH.cons rfl (fun K hK => ?_) AllReadyH.nil)
  go_simp
  go_wp2_with (first
    | (go_at_call 60; (with_reducible refine (HS.out _ ?_).mono ?_); (exact HG.out.below (by repeat' (first | (with_reducible exact Below.refl _ _) | (with_reducible assumption) | (with_reducible refine Below.alloc ?_ ?_ _) | (with_reducible refine Below.drew ?_) | (with_reducible refine below_drewN ?_ _) | (with_reducible refine Below.setCell ?_ ?_ _) | (with_reducible refine below_setRow' ?_ ?_ _) | go_size)) (Nat.le_refl _)); rintro e wS ⟨⟨z1, hz1, rfl⟩, hb1⟩; have hk1 := blk?_below hb1; (try simp only [size_drew', size_drewN'] at hk1); have hB1 := below_via (w := w) (by repeat' (first | (with_reducible exact Below.refl _ _) | (with_reducible assumption) | (with_reducible refine Below.alloc ?_ ?_ _) | (with_reducible refine Below.drew ?_) | (with_reducible refine below_drewN ?_ _) | (with_reducible refine Below.setCell ?_ ?_ _) | (with_reducible refine below_setRow' ?_ ?_ _) | go_size)) hb1; have hL0 : w.heap.size < wS.heap.size := (by have hS0 := hb1.size; (try simp at hS0); omega); have hLe : w.heap.size ≤ wS.heap.size := hB1.size; clear hb1))
  refine hK.out _ _ ?_ (fun hHeld1 => ?_)
  · ((try dsimp only); go_simp)
  clear hK K hHeld0
  (try simp only [Act.put, List.setIfInBounds_toArray, List.set_cons_zero, List.set_cons_succ, List.getElem_toArray, List.getElem_cons_succ, List.getElem_cons_zero])
  refine wpAnyH_take (i := 2) (oi := _) (v := ?_) rfl (by kernel_rfl) (by kernel_rfl) (by kernel_rfl) (fun _ _ _ h => h) (Or.inl ⟨by rfl, ?_⟩) (by assumption) ?_
  rotate_left 1
  · (intro w hSw; (try dsimp only at hSw); (try simp only [List.getElem_toArray, List.getElem_cons_succ, List.getElem_cons_zero]); first | (go_simp; done) | (go_simp; with_reducible rfl))
  (try simp only [Act.put, List.setIfInBounds_toArray, List.set_cons_zero, List.set_cons_succ, List.getElem_toArray, List.getElem_cons_succ, List.getElem_cons_zero])
  refine wpAnyH_ready (rs := [4]) (by kernel_rfl) (by simp) (AllReadyH.cons rfl (fun K hK => ?_) AllReadyH.nil)
  go_simp
  go_wp2_with (first
    | (go_at_call 61; (with_reducible refine (HE.out _ ?_).mono ?_); (exact HG.out.below (by repeat' (first | (with_reducible exact Below.refl _ _) | (with_reducible assumption) | (with_reducible refine Below.alloc ?_ ?_ _) | (with_reducible refine Below.drew ?_) | (with_reducible refine below_drewN ?_ _) | (with_reducible refine Below.setCell ?_ ?_ _) | (with_reducible refine below_setRow' ?_ ?_ _) | go_size)) (Nat.le_refl _)); rintro e wE ⟨⟨z2, hz2, rfl⟩, hb1⟩; have hk1 := blk?_below hb1; (try simp only [size_drew', size_drewN'] at hk1); have hB1 := below_via (w := w) (by repeat' (first | (with_reducible exact Below.refl _ _) | (with_reducible assumption) | (with_reducible refine Below.alloc ?_ ?_ _) | (with_reducible refine Below.drew ?_) | (with_reducible refine below_drewN ?_ _) | (with_reducible refine Below.setCell ?_ ?_ _) | (with_reducible refine below_setRow' ?_ ?_ _) | go_size)) hb1; have hL0 : w.heap.size < wE.heap.size := (by have hS0 := hb1.size; (try simp at hS0); omega); have hLe : w.heap.size ≤ wE.heap.size := hB1.size; clear hb1))
  refine hK.out _ _ ?_ (fun hHeld2 => ?_)
  · ((try dsimp only); go_simp)
  clear hK K hHeld1
  (try simp only [Act.put, List.setIfInBounds_toArray, List.set_cons_zero, List.set_cons_succ, List.getElem_toArray, List.getElem_cons_succ, List.getElem_cons_zero])
  refine wpAnyH_take (i := 5) (oi := _) (v := ?_) rfl (by kernel_rfl) (by kernel_rfl) (by kernel_rfl) (fun _ _ _ h => h) (Or.inl ⟨by rfl, ?_⟩) (by assumption) ?_
  rotate_left 1
  · (intro w hSw; (try dsimp only at hSw); (try simp only [List.getElem_toArray, List.getElem_cons_succ, List.getElem_cons_zero]); first | (go_simp; done) | (go_simp; with_reducible rfl))
  (try simp only [Act.put, List.setIfInBounds_toArray, List.set_cons_zero, List.set_cons_succ, List.getElem_toArray, List.getElem_cons_succ, List.getElem_cons_zero])
  refine wpAnyH_take (i := 6) (oi := _) (v := ?_) rfl (by kernel_rfl) (by kernel_rfl) (by kernel_rfl) (fun _ _ _ h => h) (Or.inl ⟨by rfl, ?_⟩) (by assumption) ?_
  rotate_left 1
  · (intro w hSw; (try dsimp only at hSw); (try simp only [List.getElem_toArray, List.getElem_cons_succ, List.getElem_cons_zero]); first | (go_simp; done) | (go_simp; with_reducible rfl))
  (try simp only [Act.put, List.setIfInBounds_toArray, List.set_cons_zero, List.set_cons_succ, List.getElem_toArray, List.getElem_cons_succ, List.getElem_cons_zero])
  refine wpAnyH_take (i := 7) (oi := _) (v := ?_) rfl (by kernel_rfl) (by kernel_rfl) (by kernel_rfl) (fun _ _ _ h => h) (Or.inl ⟨by rfl, ?_⟩) (by assumption) ?_
  rotate_left 1
  · (intro w hSw; (try dsimp only at hSw); (try simp only [List.getElem_toArray, List.getElem_cons_succ, List.getElem_cons_zero]); first | (go_simp; done) | (go_simp; with_reducible rfl))
  (try simp only [Act.put, List.setIfInBounds_toArray, List.set_cons_zero, List.set_cons_succ, List.getElem_toArray, List.getElem_cons_succ, List.getElem_cons_zero])
  refine wpAnyH_done (by kernel_rfl) ?_ _
  have kk : blk? wE w.heap.size = some (adr 16 b ⟨#[]⟩) := by go_simp
  have q1 : (2 : Int) ≤ ((z1.size : Nat) : Int) := by omega
  have q2 : ((z1.size : Nat) : Int) ≤ 39 := by omega
  have q3 : ((z2.size : Nat) : Int) = 39 := by omega
  go_upto_region 5 with (first
    | (go_at_call 36; (with_reducible refine (valid_16 _ _ _).mono ?_); rintro e w5 ⟨rfl, hb1⟩; have hk1 := blk?_below hb1; (try simp only [size_drew', size_drewN'] at hk1); have hB1 := below_via (w := w) (by repeat' (first | (with_reducible exact Below.refl _ _) | (with_reducible assumption) | (with_reducible refine Below.alloc ?_ ?_ _) | (with_reducible refine Below.drew ?_) | (with_reducible refine below_drewN ?_ _) | (with_reducible refine Below.setCell ?_ ?_ _) | (with_reducible refine below_setRow' ?_ ?_ _) | go_size)) hb1; have hL0 : w.heap.size < w5.heap.size := (by have hS0 := hb1.size; (try simp at hS0); omega); have hLe : w.heap.size ≤ w5.heap.size := hB1.size; clear hb1))
  have k5 : blk? w5 w.heap.size = some (adr 16 b ⟨#[]⟩) := by go_simp
  have hc5 : w5.cell? ⟨w.heap.size, 0, none⟩ = some (.int .i64 16) := by rw [blk?_cell k5]; rfl
  go_wp2
  go_ret
  exact ⟨rfl, (by repeat' (first | (with_reducible exact Below.refl _ _) | (with_reducible assumption) | (with_reducible refine Below.alloc ?_ ?_ _) | (with_reducible refine Below.drew ?_) | (with_reducible refine below_drewN ?_ _) | (with_reducible refine Below.setCell ?_ ?_ _) | (with_reducible refine below_setRow' ?_ ?_ _) | go_size))⟩
set_option maxHeartbeats 4000000 in
set_option maxRecDepth 100000 in
theorem iStr_0 (n : Int) (h4 : n ≠ 4) (h16 : n ≠ 16) (b : Nat → Int) (hb : Bt b) (z : ByteArray) {b4 o4 b6 o6 : Nat} (w : World) (hg : Gl b4 o4 b6 o6 w) : Calls Tryd.prog 60 #[.agg (adr n b z)] w fun e w' => e = .returned (.string (ba [105, 110, 118, 97, 108, 105, 100, 32, 73, 80])) ∧ Below w.heap.size w w' := by
  have HG := Lib.hid hg
  have HB := Lib.hid hb
  clear hg hb
  go_enter Tryd.func60, Tryd.ntmps60
  go_wp2_with (first
    | (go_at_call 78; (with_reducible refine (in_0 (b4 := b4) (o4 := o4) _ h4 h16 _ HB.out _ _ ?_).mono ?_); (exact HG.out.g4.below (by repeat' (first | (with_reducible exact Below.refl _ _) | (with_reducible assumption) | (with_reducible refine Below.alloc ?_ ?_ _) | (with_reducible refine Below.drew ?_) | (with_reducible refine below_drewN ?_ _) | (with_reducible refine Below.setCell ?_ ?_ _) | (with_reducible refine below_setRow' ?_ ?_ _) | go_size)) (Nat.le_refl _)); rintro e w1 ⟨rfl, hb1⟩; have hk1 := blk?_below hb1; (try simp only [size_drew', size_drewN'] at hk1); have hB1 := below_via (w := w) (by repeat' (first | (with_reducible exact Below.refl _ _) | (with_reducible assumption) | (with_reducible refine Below.alloc ?_ ?_ _) | (with_reducible refine Below.drew ?_) | (with_reducible refine below_drewN ?_ _) | (with_reducible refine Below.setCell ?_ ?_ _) | (with_reducible refine below_setRow' ?_ ?_ _) | go_size)) hb1; have hL0 : w.heap.size < w1.heap.size := (by have hS0 := hb1.size; (try simp at hS0); omega); have hLe : w.heap.size ≤ w1.heap.size := hB1.size; clear hb1)
    | (go_at_call 111; (with_reducible refine (str_0 (b4 := b4) (o4 := o4) _ _ _ ?_).mono ?_); (exact HG.out.g4.below (by repeat' (first | (with_reducible exact Below.refl _ _) | (with_reducible assumption) | (with_reducible refine Below.alloc ?_ ?_ _) | (with_reducible refine Below.drew ?_) | (with_reducible refine below_drewN ?_ _) | (with_reducible refine Below.setCell ?_ ?_ _) | (with_reducible refine below_setRow' ?_ ?_ _) | go_size)) (Nat.le_refl _)); rintro e w1 ⟨rfl, hb1⟩; have hk1 := blk?_below hb1; (try simp only [size_drew', size_drewN'] at hk1); have hB1 := below_via (w := w) (by repeat' (first | (with_reducible exact Below.refl _ _) | (with_reducible assumption) | (with_reducible refine Below.alloc ?_ ?_ _) | (with_reducible refine Below.drew ?_) | (with_reducible refine below_drewN ?_ _) | (with_reducible refine Below.setCell ?_ ?_ _) | (with_reducible refine below_setRow' ?_ ?_ _) | go_size)) hb1; have hL0 : w.heap.size < w1.heap.size := (by have hS0 := hb1.size; (try simp at hS0); omega); have hLe : w.heap.size ≤ w1.heap.size := hB1.size; clear hb1))
  go_ret
  exact ⟨rfl, (by repeat' (first | (with_reducible exact Below.refl _ _) | (with_reducible assumption) | (with_reducible refine Below.alloc ?_ ?_ _) | (with_reducible refine Below.drew ?_) | (with_reducible refine below_drewN ?_ _) | (with_reducible refine Below.setCell ?_ ?_ _) | (with_reducible refine below_setRow' ?_ ?_ _) | go_size))⟩
set_option maxHeartbeats 4000000 in
set_option maxRecDepth 100000 in
theorem iExp_0 (n : Int) (h4 : n ≠ 4) (h16 : n ≠ 16) (b : Nat → Int) (hb : Bt b) (z : ByteArray) {b4 o4 b6 o6 : Nat} (w : World) (hg : Gl b4 o4 b6 o6 w) : Calls Tryd.prog 61 #[.agg (adr n b z)] w fun e w' => e = .returned (.string (ba [105, 110, 118, 97, 108, 105, 100, 32, 73, 80])) ∧ Below w.heap.size w w' := by
  have HG := Lib.hid hg
  have HB := Lib.hid hb
  clear hg hb
  go_enter Tryd.func61, Tryd.ntmps61
  go_wp2_with (first
    | (go_at_call 78; (with_reducible refine (in_0 (b4 := b4) (o4 := o4) _ h4 h16 _ HB.out _ _ ?_).mono ?_); (exact HG.out.g4.below (by repeat' (first | (with_reducible exact Below.refl _ _) | (with_reducible assumption) | (with_reducible refine Below.alloc ?_ ?_ _) | (with_reducible refine Below.drew ?_) | (with_reducible refine below_drewN ?_ _) | (with_reducible refine Below.setCell ?_ ?_ _) | (with_reducible refine below_setRow' ?_ ?_ _) | go_size)) (Nat.le_refl _)); rintro e w1 ⟨rfl, hb1⟩; have hk1 := blk?_below hb1; (try simp only [size_drew', size_drewN'] at hk1); have hB1 := below_via (w := w) (by repeat' (first | (with_reducible exact Below.refl _ _) | (with_reducible assumption) | (with_reducible refine Below.alloc ?_ ?_ _) | (with_reducible refine Below.drew ?_) | (with_reducible refine below_drewN ?_ _) | (with_reducible refine Below.setCell ?_ ?_ _) | (with_reducible refine below_setRow' ?_ ?_ _) | go_size)) hb1; have hL0 : w.heap.size < w1.heap.size := (by have hS0 := hb1.size; (try simp at hS0); omega); have hLe : w.heap.size ≤ w1.heap.size := hB1.size; clear hb1)
    | (go_at_call 112; (with_reducible refine (exp_0 (b4 := b4) (o4 := o4) _ _ _ ?_).mono ?_); (exact HG.out.g4.below (by repeat' (first | (with_reducible exact Below.refl _ _) | (with_reducible assumption) | (with_reducible refine Below.alloc ?_ ?_ _) | (with_reducible refine Below.drew ?_) | (with_reducible refine below_drewN ?_ _) | (with_reducible refine Below.setCell ?_ ?_ _) | (with_reducible refine below_setRow' ?_ ?_ _) | go_size)) (Nat.le_refl _)); rintro e w1 ⟨rfl, hb1⟩; have hk1 := blk?_below hb1; (try simp only [size_drew', size_drewN'] at hk1); have hB1 := below_via (w := w) (by repeat' (first | (with_reducible exact Below.refl _ _) | (with_reducible assumption) | (with_reducible refine Below.alloc ?_ ?_ _) | (with_reducible refine Below.drew ?_) | (with_reducible refine below_drewN ?_ _) | (with_reducible refine Below.setCell ?_ ?_ _) | (with_reducible refine below_setRow' ?_ ?_ _) | go_size)) hb1; have hL0 : w.heap.size < w1.heap.size := (by have hS0 := hb1.size; (try simp at hS0); omega); have hLe : w.heap.size ≤ w1.heap.size := hB1.size; clear hb1))
  go_ret
  exact ⟨rfl, (by repeat' (first | (with_reducible exact Below.refl _ _) | (with_reducible assumption) | (with_reducible refine Below.alloc ?_ ?_ _) | (with_reducible refine Below.drew ?_) | (with_reducible refine below_drewN ?_ _) | (with_reducible refine Below.setCell ?_ ?_ _) | (with_reducible refine below_setRow' ?_ ?_ _) | go_size))⟩
theorem law16 (n : Int) (b : Nat → Int) (hb : Bt b) (z : ByteArray) {b4 o4 b6 o6 : Nat} (w : World) (hg : Gl b4 o4 b6 o6 w) :
    Calls Tryd.prog 16 #[.agg (adr n b z)] w fun e w' => e = .returned (.bool true) ∧ Below w.heap.size w w' := by
  by_cases h4 : n = 4
  · subst h4
    refine law16_4w b z (ba (t4 (281470681743360 + be4f (pre 4 b) 0))) ?_ w hg (fun w hg => ?_) (fun w hg => ?_)
    · rw [ba_size]; exact t4_len _
    · exact (iStr_4 (pre 4 b) (Bt_pre hb 4) ⟨#[]⟩ w hg).mono fun e w' ⟨he, hB⟩ => ⟨⟨_, rfl, he⟩, hB⟩
    · exact (iExp_4 (pre 4 b) (Bt_pre hb 4) ⟨#[]⟩ w hg).mono fun e w' ⟨he, hB⟩ => ⟨⟨_, rfl, he⟩, hB⟩
  by_cases h16 : n = 16
  · subst h16
    refine law16_16w b z w hg (fun w hg => ?_) (fun w hg => ?_)
    · exact (iStr_6 b hb w hg).mono fun e w' ⟨⟨z, hz, he⟩, hB⟩ => ⟨⟨z, T6_size hz, he⟩, hB⟩
    · exact (iExp_6 b hb w hg).mono fun e w' ⟨he, hB⟩ => ⟨⟨_, by rw [ba_size, jp_len], he⟩, hB⟩
  · refine law16_0w n h4 h16 b z w hg (fun w hg => ?_) (fun w hg => ?_)
    · exact (iStr_0 0 (by omega) (by omega) zb Bt_zb ⟨#[]⟩ w hg).mono fun e w' ⟨he, hB⟩ => ⟨⟨_, trivial, he⟩, hB⟩
    · exact (iExp_0 0 (by omega) (by omega) zb Bt_zb ⟨#[]⟩ w hg).mono fun e w' ⟨he, hB⟩ => ⟨⟨_, trivial, he⟩, hB⟩
end Go.Proofs.YtmlkcgacneealaaDoor
